import PyProof.Rows.All
import Wide.All
import OpenK.AllK
import Wide.FinOn
import KE.IntBitsLaws
import KE.KNest
import KE.KNestM
import KE.KItem
import KE.KRevIter
import PyProof.WalksEnum
import PyProof.WalksMore
import Lean
import PySem.Challenge.RW_pw0016_01
set_option Elab.async false
section
open PySem PySem.W PyProof.Rows
set_option Elab.async false
namespace Mine
set_option maxRecDepth 100000
set_option maxHeartbeats 8000000
open_top hd for PySem.Challenge.rw_pw0016_01
end Mine
end
section
open PySem PySem.W PyProof.Rows
set_option Elab.async false
set_option maxRecDepth 100000
namespace Mine

/-! the ground: what the program's own part of the heap says -/
noncomputable abbrev KK (w : World) : Frag := hd.heap_39 w.params
structure G (w : World) (h : Heap) : Prop where
  k : (KK w).In h
  t : ∃ mg mb, TopRead hd.view_39 (looseW hd.view_39 [Str.ofString "IPV4_RE"]) mg mb h
  m : ∃ ob, h.get? 4 = some ob ∧ ob.cls = .type "module" ∧ ob.dict = some builtinsNs ∧ ob.data = .plain
theorem G.keeps {w : World} {h h' : Heap} (x : G w h) (hk : ∀ b o, h.get? b = some o → h'.get? b = some o) : G w h' :=
  ⟨x.k.keeps hk, (let ⟨mg, mb, t⟩ := x.t; ⟨mg, mb, t.keeps hk⟩), let ⟨ob, e, r⟩ := x.m; ⟨ob, hk _ _ e, r⟩⟩

/-! room on the stack -/
structure Rm (k : Nat) (A : Around) : Prop where
  hd : A.handled = none
  dp : A.depth + k < 1000
  un : A.units + 4 * k + 200 < 9900
theorem Rm.mono {k k' : Nat} {A : Around} (x : Rm k A) (h : k' ≤ k) : Rm k' A := ⟨x.hd, by have := x.dp; omega, by have := x.un; omega⟩
theorem Rm.deeper {k : Nat} {A : Around} (x : Rm (k + 1) A) (env : Env) : Rm k (A.deeper env) := ⟨x.hd, by have := x.dp; show A.depth + 1 + k < 1000; omega, by have := x.un; show A.units + 3 + 4 * k + 200 < 9900; omega⟩
theorem Rm.units {k : Nat} {A : Around} (x : Rm k A) : A.units + 100 < cLine := by have := x.un; show A.units + 100 < 9900; omega
theorem Rm.depth {k : Nat} {A : Around} (x : Rm k A) : A.depth < recursionLimit := by have := x.dp; show A.depth < 1000; omega

/-! a value stands for a datum, over a set of heap facts -/
abbrev Has (h : Heap) (a : Addr) (o : Obj) : Prop := h.get? a = some o
structure HasB (B : Addr → Prop) (h : Heap) (a : Addr) (o : Obj) : Prop where
  get : h.get? a = some o
  ok : B a
/-- in B, or new since h -/
def Nw (B : Addr → Prop) (h : Heap) (a : Addr) : Prop := B a ∨ h.get? a = none
mutual
inductive Rd (B : Addr → Obj → Prop) : Value → PyData → Prop
  | none : Rd B .none .none
  | bool (b) : Rd B (.bool b) (.bool b)
  | int (i t) : Rd B (.int i t) (.int i)
  | str (x t) : Rd B (.str x t) (.str x)
  | list {a vs n xs} : B a { cls := .type "list", data := .seq vs n } → Rds B vs.toList xs → Rd B (.ref a) (.list xs)
  | tuple {a vs n xs} : B a { cls := .type "tuple", data := .seq vs n } → Rds B vs.toList xs → Rd B (.ref a) (.tuple xs)
inductive Rds (B : Addr → Obj → Prop) : List Value → List PyData → Prop
  | nil : Rds B [] []
  | cons {v vs d ds} : Rd B v d → Rds B vs ds → Rds B (v :: vs) (d :: ds)
end
def SeqObj (o : Obj) : Prop := (o.cls = .type "list" ∨ o.cls = .type "tuple") ∧ ∃ vs n, o.data = .seq vs n
mutual
theorem Rd.mono {B B' : Addr → Obj → Prop} (hk : ∀ a o, B a o → SeqObj o → B' a o) : ∀ {v d}, Rd B v d → Rd B' v d
  | _, _, .none => .none
  | _, _, .bool b => .bool b
  | _, _, .int i t => .int i t
  | _, _, .str x t => .str x t
  | _, _, .list h1 h4 => .list (hk _ _ h1 ⟨.inl rfl, _, _, rfl⟩) (Rds.mono hk h4)
  | _, _, .tuple h1 h4 => .tuple (hk _ _ h1 ⟨.inr rfl, _, _, rfl⟩) (Rds.mono hk h4)
theorem Rds.mono {B B' : Addr → Obj → Prop} (hk : ∀ a o, B a o → SeqObj o → B' a o) : ∀ {vs ds}, Rds B vs ds → Rds B' vs ds
  | _, _, .nil => .nil
  | _, _, .cons h1 h2 => .cons (Rd.mono hk h1) (Rds.mono hk h2)
end
mutual
theorem Rd.reads {h : Heap} : ∀ {v d}, Rd (Has h) v d → ∃ as, Reads h v d as
  | _, _, .none => ⟨_, .none⟩
  | _, _, .bool b => ⟨_, .bool b⟩
  | _, _, .int i t => ⟨_, .int i t⟩
  | _, _, .str x t => ⟨_, .str x t⟩
  | _, _, .list h1 h4 => let ⟨_, r⟩ := Rds.reads h4; ⟨_, .list h1 rfl rfl r⟩
  | _, _, .tuple h1 h4 => let ⟨_, r⟩ := Rds.reads h4; ⟨_, .tuple h1 rfl rfl r⟩
theorem Rds.reads {h : Heap} : ∀ {vs ds}, Rds (Has h) vs ds → ∃ as, ReadsAll h vs ds as
  | _, _, .nil => ⟨_, .nil⟩
  | _, _, .cons h1 h2 => let ⟨_, r⟩ := Rd.reads h1; let ⟨_, q⟩ := Rds.reads h2; ⟨_, .cons r q⟩
end
theorem Rds.length {B} : ∀ {vs ds}, Rds B vs ds → vs.length = ds.length
  | _, _, .nil => rfl
  | _, _, .cons _ h => by rw [List.length_cons, List.length_cons, Rds.length h]
theorem Rds.get {B} : ∀ {vs ds}, Rds B vs ds → ∀ (i : Nat) v, vs[i]? = some v → ∃ d, ds[i]? = some d ∧ Rd B v d
  | _, _, .nil, _, _, h => by cases h
  | _, _, .cons (d := d) h1 _, 0, v, h => by cases h; exact ⟨d, rfl, h1⟩
  | _, _, .cons _ h2, i + 1, v, h => Rds.get h2 i v (by simpa using h)
theorem Rds.get' {B} : ∀ {vs ds}, Rds B vs ds → ∀ (i : Nat) d, ds[i]? = some d → ∃ v, vs[i]? = some v ∧ Rd B v d
  | _, _, .nil, _, _, h => by cases h
  | _, _, .cons (v := v) h1 _, 0, d, h => by cases h; exact ⟨v, rfl, h1⟩
  | _, _, .cons _ h2, i + 1, d, h => Rds.get' h2 i d (by simpa using h)
theorem Rds.append {B} : ∀ {vs ds vs' ds'}, Rds B vs ds → Rds B vs' ds' → Rds B (vs ++ vs') (ds ++ ds')
  | _, _, _, _, .nil, h => h
  | _, _, _, _, .cons h1 h2, h => .cons h1 (Rds.append h2 h)
theorem Rds.snoc {B vs ds v d} (h : Rds B vs ds) (h1 : Rd B v d) : Rds B (vs ++ [v]) (ds ++ [d]) := h.append (.cons h1 .nil)
theorem Rds.drop {B} : ∀ {vs ds} (n : Nat), Rds B vs ds → Rds B (vs.drop n) (ds.drop n)
  | _, _, 0, h => h
  | _, _, _ + 1, .nil => .nil
  | _, _, n + 1, .cons _ h => Rds.drop n h
theorem Rds.take {B} : ∀ {vs ds} (n : Nat), Rds B vs ds → Rds B (vs.take n) (ds.take n)
  | _, _, 0, _ => .nil
  | _, _, _ + 1, .nil => .nil
  | _, _, n + 1, .cons h1 h => .cons h1 (Rds.take n h)
theorem Rds.reverse {B} : ∀ {vs ds}, Rds B vs ds → Rds B vs.reverse ds.reverse
  | _, _, .nil => .nil
  | _, _, .cons h1 h => by rw [List.reverse_cons, List.reverse_cons]; exact (Rds.reverse h).snoc h1
theorem Rds.of_get {B} : ∀ {vs ds}, vs.length = ds.length → (∀ (i : Nat) v d, vs[i]? = some v → ds[i]? = some d → Rd B v d) → Rds B vs ds
  | [], [], _, _ => .nil
  | v :: vs, d :: ds, hl, h => .cons (h 0 v d rfl rfl) (Rds.of_get (by simpa using hl) fun i v d h1 h2 => h (i + 1) v d (by simpa using h1) (by simpa using h2))
  | [], _ :: _, hl, _ => by simp at hl
  | _ :: _, [], hl, _ => by simp at hl
theorem Rd.keeps {h h' : Heap} (hk : ∀ b o, h.get? b = some o → h'.get? b = some o) {v d} (x : Rd (Has h) v d) : Rd (Has h') v d := x.mono fun a o e _ => hk a o e
theorem Rds.keeps {h h' : Heap} (hk : ∀ b o, h.get? b = some o → h'.get? b = some o) {v d} (x : Rds (Has h) v d) : Rds (Has h') v d := x.mono fun a o e _ => hk a o e
theorem Rd.has {B : Addr → Prop} {h : Heap} {v d} (x : Rd (HasB B h) v d) : Rd (Has h) v d := x.mono fun _ _ e _ => e.get
theorem Rds.has {B : Addr → Prop} {h : Heap} {v d} (x : Rds (HasB B h) v d) : Rds (Has h) v d := x.mono fun _ _ e _ => e.get
theorem Rd.of_has {h : Heap} {v d} (x : Rd (Has h) v d) : Rd (HasB (fun _ => True) h) v d := x.mono fun _ _ e _ => ⟨e, trivial⟩
theorem Rds.of_has {h : Heap} {v d} (x : Rds (Has h) v d) : Rds (HasB (fun _ => True) h) v d := x.mono fun _ _ e _ => ⟨e, trivial⟩
theorem Rd.list_inv {B : Addr → Prop} {h : Heap} {v : Value} {xs : List PyData} (x : Rd (HasB B h) v (.list xs)) : ∃ a vs n, v = .ref a ∧ HasB B h a { cls := .type "list", data := .seq vs n } ∧ h.IsList a vs ∧ Rds (HasB B h) vs.toList xs := by
  cases x with
  | list h1 h4 => exact ⟨_, _, _, rfl, h1, ⟨_, h1.get, rfl, _, rfl⟩, h4⟩
theorem Rd.tuple_inv {B : Addr → Prop} {h : Heap} {v : Value} {xs : List PyData} (x : Rd (HasB B h) v (.tuple xs)) : ∃ a vs n, v = .ref a ∧ HasB B h a { cls := .type "tuple", data := .seq vs n } ∧ IsTup h a vs ∧ Rds (HasB B h) vs.toList xs := by
  cases x with
  | tuple h1 h4 => exact ⟨_, _, _, rfl, h1, ⟨_, h1.get, rfl, _, rfl⟩, h4⟩
theorem push_none (h : Heap) : h.get? h.objs.size = none := by
  cases e : h.get? h.objs.size with
  | none => rfl
  | some o => exact absurd (Heap.lt_size e) (Nat.lt_irrefl _)
/-- a new list, a new tuple -/
theorem Rd.newList {B : Addr → Prop} {h : Heap} {vs : List Value} {xs : List PyData} (r : Rds (HasB B h) vs xs) : Rd (HasB (Nw B h) (h.push { cls := .type "list", data := .seq vs.toArray })) (.ref h.objs.size) (.list xs) :=
  .list ⟨Heap.get?_push_size _ rfl, .inr (push_none h)⟩ (r.mono fun _ _ e _ => ⟨Heap.get?_push_of_some _ e.get, .inl e.ok⟩)
theorem Rd.newTuple {B : Addr → Prop} {h : Heap} {vs : List Value} {xs : List PyData} (r : Rds (HasB B h) vs xs) : Rd (HasB (Nw B h) (h.push { cls := .type "tuple", data := .seq vs.toArray })) (.ref h.objs.size) (.tuple xs) :=
  .tuple ⟨Heap.get?_push_size _ rfl, .inr (push_none h)⟩ (r.mono fun _ _ e _ => ⟨Heap.get?_push_of_some _ e.get, .inl e.ok⟩)

/-! states -/
structure Kp (s s' : Shared) : Prop where
  ex : Keeps s s'
theorem Kp.rfl' {s : Shared} : Kp s s := ⟨s.heap, s.toks, rfl, fun _ _ e => e⟩
theorem Kp.tok {s : Shared} (n : Nat) : Kp s { s with toks := n } := ⟨s.heap, n, rfl, fun _ _ e => e⟩
theorem Kp.trans {s s' s'' : Shared} (x : Kp s s') (y : Kp s' s'') : Kp s s'' := by
  obtain ⟨h1, t1, rfl, k1⟩ := x
  obtain ⟨h2, t2, rfl, k2⟩ := y
  exact ⟨h2, t2, rfl, fun b o e => k2 b o (k1 b o e)⟩
theorem Kp.heap {s s' : Shared} (x : Kp s s') : ∀ b o, s.heap.get? b = some o → s'.heap.get? b = some o := by
  obtain ⟨h1, t1, rfl, k1⟩ := x
  exact k1
theorem Kp.push {s : Shared} (o : Obj) : Kp s { s with heap := s.heap.push o } := ⟨_, s.toks, rfl, fun _ _ e => Heap.get?_push_of_some _ e⟩

theorem Rd.next {B : Addr → Prop} {s s' : Shared} {v d} (x : Rd (HasB B s.heap) v d) (kp : Kp s s') : Rd (HasB (Nw B s.heap) s'.heap) v d := x.mono fun _ _ e _ => ⟨kp.heap _ _ e.get, .inl e.ok⟩
theorem Rds.next {B : Addr → Prop} {s s' : Shared} {v d} (x : Rds (HasB B s.heap) v d) (kp : Kp s s') : Rds (HasB (Nw B s.heap) s'.heap) v d := x.mono fun _ _ e _ => ⟨kp.heap _ _ e.get, .inl e.ok⟩
theorem Nw.trans {B : Addr → Prop} {s s' : Shared} (kp : Kp s s') {a : Addr} (h : Nw (Nw B s.heap) s'.heap a) : Nw B s.heap a := by
  rcases h with h | h
  · exact h
  · refine .inr ?_
    cases e : s.heap.get? a with
    | none => rfl
    | some o => rw [kp.heap a o e] at h; cases h

abbrev Rho := List (Str × PyData)
abbrev Sc := List (Str × NameKind)
/-- what a name's load gives -/
inductive Ld (env : Env) (h : Heap) (x : Str) (v : Value) : Prop
  | loc {m} : env.kindOf x = some .local → h.Ns env.locals m → m x = some v → Ld env h x v
  | cell {c} : env.kindOf x = some .cell → env.cells.lookup x = some c → h.IsCell c (some v) → Ld env h x v
  | free {c} : env.kindOf x = some .free → env.cells.lookup x = some c → h.IsCell c (some v) → (x == ("__classdict__" : Str)) = false → Ld env h x v
theorem Ld.keeps {env : Env} {h h' : Heap} {x : Str} {v : Value} (l : Ld env h x v) (hk : ∀ b o, h.get? b = some o → h'.get? b = some o) : Ld env h' x v := by
  cases l with
  | loc h1 h2 h3 => exact .loc h1 (h2.keeps hk) h3
  | cell h1 h2 h3 => exact .cell h1 h2 (h3.keeps hk)
  | free h1 h2 h3 h4 => exact .free h1 h2 (h3.keeps hk) h4
structure Vars (B : Addr → Prop) (env : Env) (sc : Sc) (ρ : Rho) (h : Heap) : Prop where
  kind : env.scope.kind = .function
  names : env.scope.names = sc
  globals : env.globals = mainGlobals
  builtins : env.builtins = builtinsNs
  look : ∀ x d, ρ.lookup x = some d → ∃ v, Rd (HasB B h) v d ∧ Ld env h x v
theorem Vars.next {B : Addr → Prop} {env sc ρ} {s s' : Shared} (x : Vars B env sc ρ s.heap) (kp : Kp s s') : Vars (Nw B s.heap) env sc ρ s'.heap :=
  ⟨x.kind, x.names, x.globals, x.builtins, fun y d e => let ⟨v, r, l⟩ := x.look y d e; ⟨v, r.next kp, l.keeps kp.heap⟩⟩
theorem Vars.kindOf {B env sc ρ h} (x : Vars B env sc ρ h) (y : Str) : env.kindOf y = sc.lookup y := by unfold Env.kindOf; rw [x.names]

def Post (B : Addr → Prop) (s : Shared) (d : PyData) (v : Value) (s' : Shared) : Prop := Kp s s' ∧ Rd (HasB (Nw B s.heap) s'.heap) v d
def NoE (_ : Value) (_ : Shared) : Prop := False

/-- expression e gives datum d -/
def Ev (w : World) (k : Nat) (sc : Sc) (ρ : Rho) (e : Expr) (d : PyData) : Prop :=
  ∀ (prog : Program) (A : Around) (s : Shared) (env : Env) (B : Addr → Prop), Rm k A → G w s.heap → Vars B env sc ρ s.heap → wpAny (model prog w) A (eval e env) (Post B s d) NoE s
/-- the test e comes out b -/
def Ts (w : World) (k : Nat) (sc : Sc) (ρ : Rho) (e : Expr) (b : Bool) : Prop :=
  ∀ (prog : Program) (A : Around) (s : Shared) (env : Env) (B : Addr → Prop), Rm k A → G w s.heap → Vars B env sc ρ s.heap → wpAny (model prog w) A (isTrue e env (eval e env)) (fun b' s' => Kp s s' ∧ b' = b) NoE s
/-- a row of arguments -/
def Evs (w : World) (k : Nat) (sc : Sc) (ρ : Rho) (es : List Expr) (ds : List PyData) : Prop :=
  ∀ (prog : Program) (A : Around) (s : Shared) (env : Env) (B : Addr → Prop) (pos : Pos), Rm k A → G w s.heap → Vars B env sc ρ s.heap → wpAny (model prog w) A (spliced (backTo pos (starEach es env))) (fun vs s' => Kp s s' ∧ Rds (HasB (Nw B s.heap) s'.heap) vs ds) NoE s
/-- a call of f upon data -/
def Fn (w : World) (k : Nat) (f : Value) (ds : List PyData) (d : PyData) : Prop :=
  ∀ (prog : Program) (A : Around) (s : Shared) (vs : List Value) (B : Addr → Prop), Rm k A → G w s.heap → Rds (HasB B s.heap) vs ds → wpAny (model prog w) A (call f vs) (Post B s d) NoE s

section
variable {w : World} {k : Nat} {sc : Sc} {ρ : Rho}
theorem Rd.nw {B : Addr → Prop} {h : Heap} {v d} (x : Rd (HasB B h) v d) : Rd (HasB (Nw B h) h) v d := x.mono fun _ _ e _ => ⟨e.get, .inl e.ok⟩
theorem ev_load {x : Str} {d : PyData} (h : ρ.lookup x = some d) {prog : Program} {A : Around} {s : Shared} {env : Env} {B : Addr → Prop} (V : Vars B env sc ρ s.heap) : wpAny (model prog w) A (loadName env x) (fun v s' => s' = s ∧ Rd (HasB B s.heap) v d) NoE s := by
  obtain ⟨v, r, l⟩ := V.look x d h
  cases l with
  | loc h1 h2 h3 => exact wpAny_loadName_local V.kind h1 h2 h3 ⟨rfl, r⟩
  | cell h1 h2 h3 => exact wpAny_loadName_cell V.kind h1 h2 h3 ⟨rfl, r⟩
  | free h1 h2 h3 h4 => exact wpAny_loadName_free V.kind h1 h2 h3 ⟨rfl, r⟩ h4
theorem Ev.name {x : Str} {d : PyData} {pos : Pos} (h : ρ.lookup x = some d) (hd : (x == ("__debug__" : Str)) = false := by decide +kernel) : Ev w k sc ρ (.Name x pos) d := fun prog A s env B R g V =>
  wpAny_Name (wpAny_mono (ev_load h V) (fun v s' ⟨e, r⟩ => by subst e; exact ⟨Kp.rfl', r.nw⟩) fun _ _ x => x) hd
theorem Ev.int {i : Int} {n pos} : Ev w k sc ρ (.Constant (.int i) n pos) (.int i) := fun _ _ _ _ _ _ _ _ => wpAny_Constant_int ⟨Kp.tok _, .int _ _⟩
theorem Ev.str {x : Str} {n pos} : Ev w k sc ρ (.Constant (.str x) n pos) (.str x) := fun _ _ _ _ _ _ _ _ => wpAny_Constant_str ⟨Kp.tok _, .str _ _⟩
theorem Ev.bool {b : Bool} {n pos} : Ev w k sc ρ (.Constant (.bool b) n pos) (.bool b) := fun _ _ _ _ _ _ _ _ => wpAny_Constant_bool ⟨Kp.rfl', .bool _⟩
theorem Ev.none {n pos} : Ev w k sc ρ (.Constant .none n pos) .none := fun _ _ _ _ _ _ _ _ => wpAny_Constant_none ⟨Kp.rfl', .none⟩

/-- what is needed of a binary operation -/
def Op2 (w : World) (k : Nat) (op : Operator) (a b d : PyData) : Prop :=
  ∀ (prog : Program) (A : Around) (s : Shared) (va vb : Value) (B : Addr → Prop), Rm k A → G w s.heap → Rd (HasB B s.heap) va a → Rd (HasB B s.heap) vb b → wpAny (model prog w) A (binaryOp op va vb) (Post B s d) NoE s
theorem Post.after {B : Addr → Prop} {s s₁ s₂ : Shared} {d : PyData} {v : Value} (x : Kp s s₁) (y : Post (Nw B s.heap) s₁ d v s₂) : Post B s d v s₂ := ⟨x.trans y.1, y.2.mono fun _ _ e _ => ⟨e.get, Nw.trans x e.ok⟩⟩
theorem Post.after2 {B : Addr → Prop} {s s₁ s₂ s₃ : Shared} {d : PyData} {v : Value} (x : Kp s s₁) (x' : Kp s₁ s₂) (y : Post (Nw (Nw B s.heap) s₁.heap) s₂ d v s₃) : Post B s d v s₃ := Post.after x (Post.after x' y)
theorem Ev.binop {op : Operator} {l r : Expr} {pos : Pos} {a b d : PyData} (hl : Ev w k sc ρ l a) (hr : Ev w k sc ρ r b) (ho : Op2 w k op a b d) : Ev w k sc ρ (.BinOp l op r pos) d := fun prog A s env B R g V => by
  refine wpAny_BinOp (wpAny_mono (hl prog A s env B R g V) (fun va s₁ h₁ => ?_) fun _ _ x => x)
  refine wpAny_mono (hr prog A s₁ env _ R (g.keeps h₁.1.heap) (V.next h₁.1)) (fun vb s₂ h₂ => ?_) fun _ _ x => x
  exact wpAny_mono (ho prog A s₂ va vb _ R (g.keeps (h₁.1.trans h₂.1).heap) (h₁.2.next h₂.1) h₂.2) (fun v s₃ h₃ => .after2 h₁.1 h₂.1 h₃) fun _ _ x => x
end
end Mine
end
section
open PySem PySem.W PyProof.Rows
set_option Elab.async false
set_option maxRecDepth 100000
namespace Mine
section
variable {w : World} {k : Nat}
theorem Post.int {B : Addr → Prop} {s : Shared} {i : Int} {t : Tok} {n : Nat} : Post B s (.int i) (.int i t) { s with toks := n } := ⟨Kp.tok _, .int _ _⟩
theorem Op2.addI {a b : Int} : Op2 w k .Add (.int a) (.int b) (.int (a + b)) := fun _ _ _ _ _ _ _ _ ra rb => by cases ra; cases rb; exact P.add_int Post.int
theorem Op2.subI {a b : Int} : Op2 w k .Sub (.int a) (.int b) (.int (a - b)) := fun _ _ _ _ _ _ _ _ ra rb => by cases ra; cases rb; exact P.sub_int Post.int
theorem Op2.mulI {a b : Int} (h : IntMulOk a b) : Op2 w k .Mult (.int a) (.int b) (.int (a * b)) := fun _ _ _ _ _ _ _ _ ra rb => by cases ra; cases rb; exact P.mul_int Post.int h
theorem Op2.divI {a b : Int} (h : b ≠ 0) (hp : b.natAbs.log2 < 9000) : Op2 w k .FloorDiv (.int a) (.int b) (.int (a.fdiv b)) := fun _ _ _ _ _ _ _ _ ra rb => by cases ra; cases rb; exact floordiv_int h Post.int (.inl (PyProof.noPylong_of_log2 hp))
theorem Op2.modI {a b : Int} (h : b ≠ 0) : Op2 w k .Mod (.int a) (.int b) (.int (a.fmod b)) := fun _ _ _ _ _ _ _ _ ra rb => by cases ra; cases rb; exact mod_int' h Post.int
theorem Op2.powI {a n : Int} (hn : 0 ≤ n) (h : (Builtin.Int.intBits a : Int) * n ≤ 2 ^ 27) : Op2 w k .Pow (.int a) (.int n) (.int (a ^ n.toNat)) := fun _ _ _ _ _ _ _ _ ra rb => by cases ra; cases rb; exact pow_int hn h Post.int
theorem Op2.shlI {a n : Int} (hn : 0 ≤ n) (h : (Builtin.Int.intBits a : Int) + n ≤ 2 ^ 27) : Op2 w k .LShift (.int a) (.int n) (.int (a * 2 ^ n.toNat)) := fun _ _ _ _ _ _ _ _ ra rb => by cases ra; cases rb; exact lshift_int hn h Post.int
theorem Op2.shrI {a n : Int} (hn : 0 ≤ n) : Op2 w k .RShift (.int a) (.int n) (.int (a.fdiv (2 ^ n.toNat))) := fun _ _ _ _ _ _ _ _ ra rb => by cases ra; cases rb; exact rshift_int hn Post.int
theorem Op2.andI {a b : Int} : Op2 w k .BitAnd (.int a) (.int b) (.int (Builtin.bitAnd a b)) := fun _ _ _ _ _ _ _ _ ra rb => by cases ra; cases rb; exact and_int Post.int
theorem Op2.orI {a b : Int} : Op2 w k .BitOr (.int a) (.int b) (.int (Builtin.bitOr a b)) := fun _ _ _ _ _ _ _ _ ra rb => by cases ra; cases rb; exact or_int Post.int
theorem Op2.xorI {a b : Int} : Op2 w k .BitXor (.int a) (.int b) (.int (Builtin.bitXor a b)) := fun _ _ _ _ _ _ _ _ ra rb => by cases ra; cases rb; exact xor_int Post.int
theorem Op2.addS {x y : Str} (hx : x.length ≤ 1000) (hy : y.length ≤ 1000) : Op2 w k .Add (.str x) (.str y) (.str (x ++ y)) := fun _ _ _ _ _ _ _ _ ra rb => by
  cases ra; cases rb
  refine P.add_str ?_
  split
  · rename_i e
    have : x = Str.empty := by
      have h0 : x.cps.size = 0 := by simpa [Str.length] using e
      cases x; simp at h0; subst h0; rfl
    subst this
    rw [Str.empty_append]
    exact ⟨Kp.rfl', .str _ _⟩
  · split
    · rename_i e
      have : y = Str.empty := by
        have h0 : y.cps.size = 0 := by simpa [Str.length] using e
        cases y; simp at h0; subst h0; rfl
      subst this
      rw [Str.append_empty]
      exact ⟨Kp.rfl', .str _ _⟩
    · refine ⟨?_, Kp.tok _, .str _ _⟩
      rw [Str.length_append]
      show x.length + y.length ≤ 2 ^ 24
      omega
theorem add_listsK {prog : Program} {A : Around} {E : Value → Shared → Prop} {s : Shared} {l b : Addr} {vs ws : List Value} {Q : Value → Shared → Prop} (hl : s.heap.IsList l vs.toArray) (hb : s.heap.IsList b ws.toArray)
    (h : Q (.ref s.heap.objs.size) { s with heap := s.heap.push { cls := .type "list", data := .seq (vs ++ ws).toArray } })
    (hsz : vs.length + ws.length ≤ sizeLine) : wpAny (model prog w) A (binaryOp .Add (.ref l) (.ref b)) Q E s := by
  obtain ⟨⟨cls, dd, data, sl⟩, ho, hc, n, hd⟩ := id hl
  obtain ⟨⟨cls2, dd2, data2, sl2⟩, ho2, hc2, n2, hd2⟩ := id hb
  simp only at hc hd hc2 hd2
  subst hc hd hc2 hd2
  have e : vs.toArray ++ ws.toArray = (vs ++ ws).toArray := by simp
  refine concat_meets ⟨_, ho, rfl⟩ ⟨_, ho2, rfl⟩ noFill_list_add seq_list_add PySem.F.slot_list_add PySem.F.entry_list_add (PySem.F.args_list_add_2 _ _) (list_addW l b vs.toArray ws.toArray n n2 dd dd2 sl sl2 (by simpa using hsz)) ⟨ho, ho2, ?_⟩
  rw [e]; exact h
theorem Op2.addL {xs ys : List PyData} (hsz : xs.length + ys.length ≤ sizeLine) : Op2 w k .Add (.list xs) (.list ys) (.list (xs ++ ys)) := fun prog A s va vb B R g ra rb => by
  obtain ⟨a, vs, n, rfl, _, hl, r⟩ := ra.list_inv
  obtain ⟨b, ws, n', rfl, _, hb, r'⟩ := rb.list_inv
  refine add_listsK (vs := vs.toList) (ws := ws.toList) hl hb ?_ (by rw [r.length, r'.length]; exact hsz)
  exact ⟨Kp.push _, Rd.newList (r.append r')⟩
end
end Mine
end
section
open PySem PySem.W PyProof.Rows
set_option Elab.async false
set_option maxRecDepth 100000
set_option linter.unusedVariables false
namespace Mine
section
variable {w : World} {k : Nat} {sc : Sc} {ρ : Rho}
/-! list * int -/
theorem foldl_app (xs : Array Value) : ∀ (n : Nat) (acc : Array Value), (List.foldl (fun x1 x2 => x1 ++ x2) acc (List.replicate n xs)).toList = acc.toList ++ (List.replicate n xs.toList).flatten
  | 0, acc => by simp
  | n + 1, acc => by rw [List.replicate_succ, List.foldl_cons, foldl_app xs n, List.replicate_succ, List.flatten_cons, Array.toList_append, List.append_assoc]
theorem Rds.flatten {B vs ds} (h : Rds B vs ds) : ∀ n : Nat, Rds B (List.replicate n vs).flatten (List.replicate n ds).flatten
  | 0 => by simpa using Rds.nil
  | n + 1 => by rw [List.replicate_succ, List.replicate_succ, List.flatten_cons, List.flatten_cons]; exact h.append (Rds.flatten h n)
theorem Op2.mulL {xs : List PyData} {x : Int} (h0 : 0 ≤ x) (hhi : x < 1000) (hsz : xs.length ≤ 1000) : Op2 w k .Mult (.list xs) (.int x) (.list (List.replicate x.toNat xs).flatten) := fun prog A s va vb B R g ra rb => by
  obtain ⟨l, items, n, rfl, hb, _, r⟩ := ra.list_inv
  have hl := hb.get
  cases rb
  rename_i u
  have hsz' : items.size * x.toNat ≤ 2 ^ 24 := by
    have e : items.size = xs.length := by rw [← r.length]; simp
    have h1 : x.toNat ≤ 1000 := by omega
    have := Nat.mul_le_mul (show items.size ≤ 1000 by omega) h1
    omega
  have hx : ((List.foldl (fun x1 x2 => x1 ++ x2) #[] (List.replicate (if items.isEmpty = true then 0 else x.toNat) items)).toList) = (List.replicate x.toNat items.toList).flatten := by
    rw [foldl_app]
    split
    · rename_i e
      have : items = #[] := by simpa using e
      subst this
      simp
    · simp
  refine wpAny_binaryOp_repeat_ref (T := "list") (U := "int") (by decide) ⟨_, hl, rfl⟩ (fun s' => typeIs_int s' x u) noFill_list_mul F.fills_int_mul F.slot_int_rmul repeat_list F.slot_int_index.lookup
    (call_meets F.slot_int_rmul (typeIs_int s x u) F.entry_int_rmul (F.args_int_rmul_2 _ _) (int___rmul___int_list x u l items n)
      ⟨hl, rfl, ⟨_, hl, rfl⟩, call_meets F.slot_list_mul ⟨_, hl, rfl⟩ F.entry_list_mul (F.args_list_mul_2 _ _)
        (AutoListH.list___mul___list_int_3 l items n x u (by simp [Builtin.List.listFitsIndex]; omega) (by omega) (by simp [Builtin.List.listTooLong, sizeLine]; omega))
        ⟨hl, ?_⟩⟩)
  refine ⟨Kp.push _, .list ⟨Heap.get?_push_size _ rfl, .inr (push_none _)⟩ ?_⟩
  rw [hx]
  exact (r.flatten _).mono fun _ _ e _ => ⟨Heap.get?_push_of_some _ e.get, .inl e.ok⟩

/-! unary -/
theorem Ev.neg {x : Expr} {pos : Pos} {a : Int} (hx : Ev w k sc ρ x (.int a)) : Ev w k sc ρ (.UnaryOp .USub x pos) (.int (-a)) := fun prog A s env B R g V =>
  wpAny_UnaryOp (wpAny_mono (hx prog A s env B R g V) (fun v s₁ h₁ => by obtain ⟨h, r⟩ := h₁; cases r; exact P.neg_int (Post.after h Post.int)) fun _ _ x => x)
theorem Ev.inv {x : Expr} {pos : Pos} {a : Int} (hx : Ev w k sc ρ x (.int a)) : Ev w k sc ρ (.UnaryOp .Invert x pos) (.int (Builtin.bitNot a)) := fun prog A s env B R g V =>
  wpAny_UnaryOp (wpAny_mono (hx prog A s env B R g V) (fun v s₁ h₁ => by obtain ⟨h, r⟩ := h₁; cases r; exact invert_int (Post.after h Post.int)) fun _ _ x => x)

/-! comparisons -/
def Cm (w : World) (k : Nat) (op : CmpOp) (a b : PyData) (r : Bool) : Prop :=
  ∀ (prog : Program) (A : Around) (s : Shared) (va vb : Value) (B : Addr → Prop), Rm k A → G w s.heap → Rd (HasB B s.heap) va a → Rd (HasB B s.heap) vb b → wpAny (model prog w) A (compareOp op va vb) (Post B s (.bool r)) NoE s
theorem Post.bool {B : Addr → Prop} {s : Shared} {b : Bool} : Post B s (.bool b) (.bool b) s := ⟨Kp.rfl', .bool _⟩
theorem Cm.ltI {a b : Int} : Cm w k .Lt (.int a) (.int b) (decide (a < b)) := fun _ _ _ _ _ _ _ _ ra rb => by cases ra; cases rb; exact P.lt_int Post.bool
theorem Cm.leI {a b : Int} : Cm w k .LtE (.int a) (.int b) (decide (a ≤ b)) := fun _ _ _ _ _ _ _ _ ra rb => by cases ra; cases rb; exact P.le_int Post.bool
theorem Cm.gtI {a b : Int} : Cm w k .Gt (.int a) (.int b) (decide (a > b)) := fun _ _ _ _ _ _ _ _ ra rb => by cases ra; cases rb; exact P.gt_int Post.bool
theorem Cm.eqI {a b : Int} : Cm w k .Eq (.int a) (.int b) (a == b) := fun _ _ _ _ _ _ _ _ ra rb => by cases ra; cases rb; exact P.eq_int Post.bool
theorem Cm.eqD {a b : PyData} (ha : SeqAt.shaped a = true) (hb : SeqAt.shaped b = true) : Cm w k .Eq a b (PyData.eqv a b) := fun _ A s va vb B R _ ra rb => by
  obtain ⟨_, ra⟩ := ra.has.reads
  obtain ⟨_, rb⟩ := rb.has.reads
  exact SeqAt.compareEq_shaped ra rb ha hb (by have := R.units; omega) Post.bool
theorem Cm.neD {a b : PyData} (ha : SeqAt.shaped a = true) (hb : SeqAt.shaped b = true) : Cm w k .NotEq a b (!PyData.eqv a b) := fun _ A s va vb B R _ ra rb => by
  obtain ⟨_, ra⟩ := ra.has.reads
  obtain ⟨_, rb⟩ := rb.has.reads
  exact SeqAt.compareNe_shaped ra rb ha hb (by have := R.units; omega) Post.bool
theorem Cm.notInL {a : PyData} {xs : List PyData} (ha : SeqAt.shaped a = true) (hb : SeqAt.shaped (.list xs) = true) : Cm w k .NotIn a (.list xs) (!xs.any fun y => PyData.eqv y a) := fun _ A s va vb B R _ ra rb => by
  obtain ⟨_, ra⟩ := ra.has.reads
  obtain ⟨_, rb⟩ := rb.has.reads
  have h1 := SeqAt.canLay_of_shaped hb
  refine SeqAt.notIn_list_reads rb ra (by simpa [PyData.canLay0] using h1) (SeqAt.canLay_of_shaped ha) ?_ Post.bool
  have h2 := SeqAt.depth_of_shaped ha
  have h3 : min (PyData.depthAll xs) a.depth ≤ a.depth := Nat.min_le_right _ _
  have := R.units
  omega
theorem Ev.cmp {op : CmpOp} {l r : Expr} {pos : Pos} {a b : PyData} {c : Bool} (hl : Ev w k sc ρ l a) (hr : Ev w k sc ρ r b) (ho : Cm w k op a b c)
    (hm : behindInMarks op r = false := by with_unfolding_all rfl) : Ev w k sc ρ (.Compare l [op] [r] pos) (.bool c) := fun prog A s env B R g V => by
  refine wpAny_Compare1 (wpAny_mono (hl prog A s env B R g V) (fun va s₁ h₁ => ?_) fun _ _ x => x) hm
  refine wpAny_mono (hr prog A s₁ env _ R (g.keeps h₁.1.heap) (V.next h₁.1)) (fun vb s₂ h₂ => ?_) fun _ _ x => x
  exact wpAny_mono (ho prog A s₂ va vb _ R (g.keeps (h₁.1.trans h₂.1).heap) (h₁.2.next h₂.1) h₂.2) (fun v s₃ h₃ => .after2 h₁.1 h₂.1 h₃) fun _ _ x => x
theorem Ts.cmp {op : CmpOp} {l r : Expr} {pos : Pos} {a b : PyData} {c : Bool} (hl : Ev w k sc ρ l a) (hr : Ev w k sc ρ r b) (ho : Cm w k op a b c)
    (hm : behindInMarks op r = false := by with_unfolding_all rfl) : Ts w k sc ρ (.Compare l [op] [r] pos) c := fun prog A s env B R g V => by
  refine wpAny_isTrue_Compare1 (wpAny_mono (hl prog A s env B R g V) (fun va s₁ h₁ => ?_) fun _ _ x => x) hm
  refine wpAny_mono (hr prog A s₁ env _ R (g.keeps h₁.1.heap) (V.next h₁.1)) (fun vb s₂ h₂ => ?_) fun _ _ x => x
  refine wpAny_mono (ho prog A s₂ va vb _ R (g.keeps (h₁.1.trans h₂.1).heap) (h₁.2.next h₂.1) h₂.2) (fun v s₃ h₃ => ?_) fun _ _ x => x
  obtain ⟨h, r⟩ := h₃
  cases r
  exact wpAny_truthy_bool ⟨(h₁.1.trans h₂.1).trans h, rfl⟩
/-! truth -/
def Tr (w : World) (k : Nat) (a : PyData) (b : Bool) : Prop :=
  ∀ (prog : Program) (A : Around) (s : Shared) (va : Value) (B : Addr → Prop), Rm k A → G w s.heap → Rd (HasB B s.heap) va a → wpAny (model prog w) A (truthy va) (fun b' s' => Kp s s' ∧ b' = b) NoE s
theorem Tr.bool {b : Bool} : Tr w k (.bool b) b := fun _ _ _ _ _ _ _ r => by cases r; exact wpAny_truthy_bool ⟨Kp.rfl', rfl⟩
theorem Tr.int {a : Int} : Tr w k (.int a) (a != 0) := fun _ _ _ _ _ _ _ r => by cases r; exact P.truthy_int ⟨Kp.rfl', rfl⟩
theorem Tr.list {xs : List PyData} (h : xs.length ≤ sizeLine) : Tr w k (.list xs) (!xs.isEmpty) := fun _ _ _ _ _ _ _ r => by
  obtain ⟨l, items, n, rfl, _, hl, r⟩ := r.list_inv
  have e : items.size = xs.length := by rw [← r.length]; simp
  refine wpAny_truthy_list hl (by rw [e]; show (xs.length : Int) < 2 ^ 63; have : xs.length ≤ 2 ^ 24 := h; omega) ?_
  refine ⟨Kp.tok _, ?_⟩
  cases xs with
  | nil =>
    have : items = #[] := Array.size_eq_zero_iff.mp (by simpa using e)
    subst this; rfl
  | cons x xs =>
    have : items.isEmpty = false := by
      cases h0 : items.isEmpty with
      | false => rfl
      | true =>
        have : items = #[] := by simpa using h0
        subst this; simp at e
    rw [this]; rfl
theorem Ts.val {e : Expr} {a : PyData} {b : Bool} (h : Ev w k sc ρ e a) (ht : Tr w k a b) (he : ∀ env whole, isTrue e env whole = (do let v ← whole; standAt e.pos; holding [v] (truthy v)) := by intro _ _; rfl) : Ts w k sc ρ e b := fun prog A s env B R g V => by
  refine wpAny_isTrue_value (wpAny_mono (h prog A s env B R g V) (fun v s₁ h₁ => ?_) fun _ _ x => x) (he _ _)
  exact wpAny_mono (ht prog A s₁ v _ R (g.keeps h₁.1.heap) h₁.2) (fun b s₂ h₂ => ⟨h₁.1.trans h₂.1, h₂.2⟩) fun _ _ x => x
theorem Ts.not {e : Expr} {pos : Pos} {b : Bool} (h : Ts w k sc ρ e b) : Ts w k sc ρ (.UnaryOp .Not e pos) (!b) := fun prog A s env B R g V =>
  wpAny_isTrue_Not (wpAny_mono (h prog A s env B R g V) (fun _ _ h₁ => ⟨h₁.1, by rw [h₁.2]⟩) fun _ _ x => x)
def All (w : World) (k : Nat) (sc : Sc) (ρ : Rho) (op : BoolOp) (es : List Expr) (b : Bool) : Prop :=
  ∀ (prog : Program) (A : Around) (s : Shared) (env : Env) (B : Addr → Prop), Rm k A → G w s.heap → Vars B env sc ρ s.heap → wpAny (model prog w) A (allTrue op es env) (fun b' s' => Kp s s' ∧ b' = b) NoE s
theorem All.andNil : All w k sc ρ .And [] true := fun _ _ _ _ _ _ _ _ => wpAny_allTrue_And_nil ⟨Kp.rfl', rfl⟩
theorem All.orNil : All w k sc ρ .Or [] false := fun _ _ _ _ _ _ _ _ => wpAny_allTrue_Or_nil ⟨Kp.rfl', rfl⟩
theorem All.and {x : Expr} {rest : List Expr} {a b : Bool} (h : Ts w k sc ρ x a) (h' : a = true → All w k sc ρ .And rest b) : All w k sc ρ .And (x :: rest) (a && b) := fun prog A s env B R g V =>
  wpAny_allTrue_And_cons (wpAny_mono (h prog A s env B R g V) (fun c s₁ h₁ => by
    obtain ⟨h₁, rfl⟩ := h₁
    cases c with
    | false => exact ⟨h₁, rfl⟩
    | true => exact wpAny_mono (h' rfl prog A s₁ env _ R (g.keeps h₁.heap) (V.next h₁)) (fun _ _ h₂ => ⟨h₁.trans h₂.1, by rw [h₂.2]; rfl⟩) fun _ _ x => x) fun _ _ x => x)
theorem All.or {x : Expr} {rest : List Expr} {a b : Bool} (h : Ts w k sc ρ x a) (h' : a = false → All w k sc ρ .Or rest b) : All w k sc ρ .Or (x :: rest) (a || b) := fun prog A s env B R g V =>
  wpAny_allTrue_Or_cons (wpAny_mono (h prog A s env B R g V) (fun c s₁ h₁ => by
    obtain ⟨h₁, rfl⟩ := h₁
    cases c with
    | true => exact ⟨h₁, rfl⟩
    | false => exact wpAny_mono (h' rfl prog A s₁ env _ R (g.keeps h₁.heap) (V.next h₁)) (fun _ _ h₂ => ⟨h₁.trans h₂.1, by rw [h₂.2]; rfl⟩) fun _ _ x => x) fun _ _ x => x)
theorem Ts.all {op : BoolOp} {es : List Expr} {pos : Pos} {b : Bool} (h : All w k sc ρ op es b) : Ts w k sc ρ (.BoolOp op es pos) b := fun prog A s env B R g V => wpAny_isTrue_BoolOp (h prog A s env B R g V)
/-- x and y and z, as a value, of bools -/
def Bop (w : World) (k : Nat) (sc : Sc) (ρ : Rho) (pos : Pos) (es : List Expr) (d : PyData) : Prop :=
  ∀ (prog : Program) (A : Around) (s : Shared) (env : Env) (B : Addr → Prop), Rm k A → G w s.heap → Vars B env sc ρ s.heap → wpAny (model prog w) A (boolOp pos .And (evalEach es env)) (Post B s d) NoE s
theorem Bop.one {pos : Pos} {e : Expr} {d : PyData} (h : Ev w k sc ρ e d) : Bop w k sc ρ pos [e] d := fun prog A s env B R g V => h prog A s env B R g V
theorem Bop.and {pos : Pos} {e e' : Expr} {es : List Expr} {a b : Bool} (h : Ev w k sc ρ e (.bool a)) (h' : a = true → Bop w k sc ρ pos (e' :: es) (.bool b)) : Bop w k sc ρ pos (e :: e' :: es) (.bool (a && b)) := fun prog A s env B R g V => by
  show wpAny (model prog w) A (do
    let v ← eval e env
    standAt pos
    let t ← holding [v] (truthy v)
    match BoolOp.And, t with
    | .And, false | .Or, true => pure v
    | _, _ => boolOp pos .And (evalEach (e' :: es) env)) _ _ s
  refine wpAny_bind (wpAny_mono (h prog A s env B R g V) (fun v s₁ h₁ => wpAny_bind (wpAny_standAt (wpAny_bind (wpAny_holding ?_)))) fun _ _ x => x)
  obtain ⟨h₁, r⟩ := h₁
  cases r
  refine wpAny_truthy_bool ?_
  cases a with
  | false => exact wpAny_pure ⟨h₁, .bool _⟩
  | true => exact wpAny_mono (h' rfl prog A s₁ env _ R (g.keeps h₁.heap) (V.next h₁)) (fun _ _ h₂ => .after h₁ h₂) fun _ _ x => x
theorem Ev.bop {pos : Pos} {es : List Expr} {d : PyData} (h : Bop w k sc ρ pos es d) : Ev w k sc ρ (.BoolOp .And es pos) d := fun prog A s env B R g V => h prog A s env B R g V
theorem Ev.ifexp {t a b : Expr} {pos : Pos} {c : Bool} {d : PyData} (h : Ts w k sc ρ t c) (h1 : c = true → Ev w k sc ρ a d) (h2 : c = false → Ev w k sc ρ b d) : Ev w k sc ρ (.IfExp t a b pos) d := fun prog A s env B R g V =>
  wpAny_IfExp (wpAny_mono (h prog A s env B R g V) (fun x s₁ h₁ => by
    obtain ⟨h₁, rfl⟩ := h₁
    cases x with
    | true => exact wpAny_mono (h1 rfl prog A s₁ env _ R (g.keeps h₁.heap) (V.next h₁)) (fun _ _ h₂ => .after h₁ h₂) fun _ _ x => x
    | false => exact wpAny_mono (h2 rfl prog A s₁ env _ R (g.keeps h₁.heap) (V.next h₁)) (fun _ _ h₂ => .after h₁ h₂) fun _ _ x => x) fun _ _ x => x)

/-! rows of expressions, displays -/
theorem star_cons {e : Expr} {es : List Expr} (h : isStarred e = false) (env : Env) : starEach (e :: es) env = (false, eval e env) :: starEach es env := by
  cases e <;> first | rfl | cases h
theorem star_all {pos : Pos} (env : Env) : ∀ {es : List Expr}, es.all (fun e => !isStarred e) = true → (backTo pos (starEach es env)).any (·.1) = false ∧ (backTo pos (starEach es env)).all (fun x => !x.1) = true
  | [], _ => ⟨rfl, rfl⟩
  | e :: es, h => by
    rw [List.all_cons, Bool.and_eq_true] at h
    have he : isStarred e = false := by simpa using h.1
    obtain ⟨h1, h2⟩ := star_all (pos := pos) env h.2
    rw [star_cons he]
    exact ⟨h1, h2⟩
theorem Evs.nil : Evs w k sc ρ [] [] := fun _ _ _ _ _ _ _ _ _ => wpAny_items_nil ⟨Kp.rfl', .nil⟩
theorem Evs.cons {e : Expr} {es : List Expr} {d : PyData} {ds : List PyData} (h : Ev w k sc ρ e d) (hs : Evs w k sc ρ es ds) (he : isStarred e = false := by rfl) : Evs w k sc ρ (e :: es) (d :: ds) := fun prog A s env B pos R g V =>
  wpAny_items_cons (wpAny_mono (h prog A s env B R g V) (fun v s₁ h₁ => wpAny_mono (hs prog A s₁ env _ pos R (g.keeps h₁.1.heap) (V.next h₁.1)) (fun vs s₂ h₂ => ⟨h₁.1.trans h₂.1, .cons ((h₁.2.next h₂.1).mono fun _ _ e _ => ⟨e.get, Nw.trans h₁.1 e.ok⟩) (h₂.2.mono fun _ _ e _ => ⟨e.get, Nw.trans h₁.1 e.ok⟩)⟩) fun _ _ x => x) fun _ _ x => x) (star_cons he env)
theorem Ev.list {es : List Expr} {pos : Pos} {ds : List PyData} (h : Evs w k sc ρ es ds) (hl : ds.length ≤ 1000) : Ev w k sc ρ (.List es pos) (.list ds) := fun prog A s env B R g V =>
  wpAny_List (wpAny_mono (h prog A s env B pos R g V) (fun vs s₁ h₁ => ⟨by rw [h₁.2.length]; show _ ≤ 2 ^ 24; omega, Post.after h₁.1 ⟨Kp.push _, Rd.newList h₁.2⟩⟩) fun _ _ x => x)
theorem Ev.tuple {es : List Expr} {n : Nat} {pos : Pos} {ds : List PyData} (h : Evs w k sc ρ es ds) (hl : ds.length ≤ 1000) : Ev w k sc ρ (.Tuple es n pos) (.tuple ds) := fun prog A s env B R g V =>
  wpAny_Tuple (wpAny_mono (h prog A s env B pos R g V) (fun vs s₁ h₁ => ⟨by rw [h₁.2.length]; show _ ≤ 2 ^ 24; omega, Post.after h₁.1 ⟨Kp.push _, Rd.newTuple h₁.2⟩⟩) fun _ _ x => x)

/-! items -/
def Ix (w : World) (k : Nat) (a i d : PyData) : Prop :=
  ∀ (prog : Program) (A : Around) (s : Shared) (va vi : Value) (B : Addr → Prop), Rm k A → G w s.heap → Rd (HasB B s.heap) va a → Rd (HasB B s.heap) vi i →
    (∃ T id, s.TypeIs va T ∧ typeLookup (.type T) "__getitem__" = pure (some (.builtin id))) ∧ wpAny (model prog w) A (getItem va vi) (Post B s d) NoE s
theorem subscripted_ops (slice : Expr) (o i : Value) : ∃ ops, subscripted slice false o i = operate ops (getItem o i) := by
  unfold subscripted
  split
  · exact ⟨_, rfl⟩
  · contradiction
  · exact ⟨_, rfl⟩
theorem Ev.sub {value slice : Expr} {pos : Pos} {a i d : PyData} (h : Ev w k sc ρ value a) (h' : Ev w k sc ρ slice i) (hx : Ix w k a i d) : Ev w k sc ρ (.Subscript value slice pos) d := fun prog A s env B R g V => by
  refine Subscript_ (wpAny_mono (h prog A s env B R g V) (fun va s₁ h₁ => ?_) fun _ _ x => x)
  refine wpAny_mono (h' prog A s₁ env _ R (g.keeps h₁.1.heap) (V.next h₁.1)) (fun vi s₂ h₂ => ?_) fun _ _ x => x
  obtain ⟨⟨T, id, hT, hl⟩, hw⟩ := hx prog A s₂ va vi _ R (g.keeps (h₁.1.trans h₂.1).heap) (h₁.2.next h₂.1) h₂.2
  obtain ⟨ops, he⟩ := subscripted_ops slice va vi
  exact tail_any hT hl (wpAny_mono hw (fun v s₃ h₃ => .after2 h₁.1 h₂.1 h₃) fun _ _ x => x) he
theorem Ix.tuple {xs : List PyData} {i : Int} {j : Nat} {d : PyData} (hlo : -1000 ≤ i) (hhi : i < 1000) (hj : seqIndex? i xs.length = some j) (hd : xs[j]? = some d) : Ix w k (.tuple xs) (.int i) d := fun prog A s va vi B R g ra ri => by
  obtain ⟨l, items, n, rfl, _, hl, r⟩ := ra.tuple_inv
  cases ri
  have e : items.size = xs.length := by rw [← r.length]; simp
  obtain ⟨v, hv, rv⟩ := r.get' j d hd
  exact ⟨⟨"tuple", _, hl.typeIs, slot_tuple_getitem.lookup⟩, getItem_tuple hl (by omega) (by omega) (by rw [e]; exact hj) (by simpa using hv) ⟨Kp.rfl', rv.nw⟩⟩
theorem Ix.str {x : Str} {i : Int} {c : Nat} (hlo : -1000 ≤ i) (hhi : i < 1000) (hc : (seqIndex? i x.length).bind (x.cps[·]?) = some c) : Ix w k (.str x) (.int i) (.str ⟨#[c]⟩) := fun prog A s va vi B R g ra ri => by
  cases ra; cases ri
  exact ⟨⟨"str", _, typeIs_str s x _, F.slot_str_getitem.lookup⟩, P.getItem_str (by simp; omega) hc ⟨Kp.tok _, .str _ _⟩⟩
theorem Ix.list {xs : List PyData} {i : Int} {d : PyData} (hlo : 0 ≤ i) (hhi : i < 1000) (hd : xs[i.toNat]? = some d) : Ix w k (.list xs) (.int i) d := fun prog A s va vi B R g ra ri => by
  obtain ⟨l, items, n, rfl, _, hl, r⟩ := ra.list_inv
  cases ri
  obtain ⟨v, hv, rv⟩ := r.get' _ d hd
  exact ⟨⟨"list", _, hl.typeIs, slot_list_getitem.lookup⟩, wpAny_getItem_list hl hlo (by omega) (by simpa using hv) ⟨Kp.rfl', rv.nw⟩⟩
end
end Mine
end
section
open PySem PySem.W PyProof.Rows
set_option Elab.async false
set_option maxRecDepth 100000
set_option linter.unusedVariables false
namespace Mine
section
variable {w : World} {k : Nat} {sc : Sc} {ρ : Rho}
theorem Ix.listNeg {xs : List PyData} {i : Int} {d : PyData} (h0 : i < 0) (h1 : -(xs.length : Int) ≤ i) (hlo : -1000 ≤ i) (hd : xs[(i + xs.length).toNat]? = some d) : Ix w k (.list xs) (.int i) d := fun prog A s va vi B R g ra ri => by
  obtain ⟨l, items, n, rfl, _, hl, r⟩ := ra.list_inv
  cases ri
  obtain ⟨v, hv, rv⟩ := r.get' _ d hd
  have e : items.size = xs.length := by rw [← r.length]; simp
  exact ⟨⟨"list", _, hl.typeIs, slot_list_getitem.lookup⟩, wpAny_getItem_list_neg hl h0 (by rw [e]; exact h1) (by omega) (by rw [e]; simpa using hv) ⟨Kp.rfl', rv.nw⟩⟩

theorem kp_none {s s' : Shared} (x : Kp s s') {a : Addr} (h : s'.heap.get? a = none) : s.heap.get? a = none := by
  cases e : s.heap.get? a with
  | none => rfl
  | some o => rw [x.heap a o e] at h; cases h
/-! slices of lists -/
def Pt (w : World) (k : Nat) (sc : Sc) (ρ : Rho) (x : Option Expr) (i : Option Int) : Prop :=
  ∀ (prog : Program) (A : Around) (s : Shared) (env : Env) (B : Addr → Prop), Rm k A → G w s.heap → Vars B env sc ρ s.heap → wpAny (model prog w) A (evalPart x env) (fun v s' => Kp s s' ∧ IsPart v i) NoE s
theorem Pt.none : Pt w k sc ρ none none := fun _ _ _ _ _ _ _ _ => wpAny_pure ⟨Kp.rfl', .none⟩
theorem Pt.some {e : Expr} {i : Int} (h : Ev w k sc ρ e (.int i)) : Pt w k sc ρ (some e) (some i) := fun prog A s env B R g V =>
  wpAny_mono (h prog A s env B R g V) (fun v s' h' => ⟨h'.1, by cases h'.2; exact .int _ _⟩) fun _ _ x => x
def pick (xs : List PyData) (lo hi st : Option Int) : List PyData :=
  (sliceRange (sliceBounds lo hi st xs.length).1 (sliceBounds lo hi st xs.length).2.1 (sliceBounds lo hi st xs.length).2.2).filterMap (xs[·]?)
theorem Rds.filterMap {B vs ds} (h : Rds B vs ds) : ∀ ix : List Nat, Rds B (ix.filterMap (vs[·]?)) (ix.filterMap (ds[·]?))
  | [] => .nil
  | i :: ix => by
    rw [List.filterMap_cons, List.filterMap_cons]
    cases hv : vs[i]? with
    | none =>
      have : ds[i]? = none := by rw [List.getElem?_eq_none_iff] at hv ⊢; rw [← h.length]; exact hv
      rw [this]
      exact Rds.filterMap h ix
    | some v =>
      obtain ⟨d, hd, r⟩ := h.get i v hv
      rw [hd]
      exact .cons r (Rds.filterMap h ix)
theorem Ev.slice {value : Expr} {lo hi st : Option Expr} {p pos : Pos} {xs : List PyData} {l u t : Option Int} (h : Ev w k sc ρ value (.list xs)) (hl : Pt w k sc ρ lo l) (hu : Pt w k sc ρ hi u) (ht : Pt w k sc ρ st t) (h0 : t ≠ some 0) (hsz : xs.length ≤ sizeLine) :
    Ev w k sc ρ (.Subscript value (.Slice lo hi st p) pos) (.list (pick xs l u t)) := fun prog A s env B R g V => by
  refine Subscript_ (wpAny_mono (h prog A s env B R g V) (fun va s₁ h₁ => ?_) fun _ _ x => x)
  have k1 := h₁.1.heap
  refine wpAny_Slice (wpAny_mono (hl prog A s₁ env _ R (g.keeps k1) (V.next h₁.1)) (fun vl s₂ h₂ => ?_) fun _ _ x => x)
  have k2 := (h₁.1.trans h₂.1).heap
  refine wpAny_mono (hu prog A s₂ env _ R (g.keeps k2) (V.next (h₁.1.trans h₂.1))) (fun vu s₃ h₃ => ?_) fun _ _ x => x
  have k3 := ((h₁.1.trans h₂.1).trans h₃.1).heap
  refine wpAny_mono (ht prog A s₃ env _ R (g.keeps k3) (V.next ((h₁.1.trans h₂.1).trans h₃.1))) (fun vt s₄ h₄ => ?_) fun _ _ x => x
  have k4 := (h₂.1.trans h₃.1).trans h₄.1
  have kp : Kp s₄ { s₄ with heap := s₄.heap.push { cls := .type "slice", data := .fields #[vl, vu, vt] } } := Kp.push _
  obtain ⟨a, items, n, rfl, _, hL, r⟩ := (h₁.2.next (k4.trans kp)).list_inv
  have e : items.size = xs.length := by rw [← r.length]; simp
  obtain ⟨ops, he⟩ := subscripted_ops (.Slice lo hi st p) (.ref a) (.ref s₄.heap.objs.size)
  refine tail_any hL.typeIs slot_list_getitem.lookup (wpAny_getItem_list_slice hL ⟨_, Heap.get?_push_size _ rfl, rfl, rfl⟩ h₂.2 h₃.2 h₄.2 h0 ?_ (by rw [e]; exact hsz)) he
  refine ⟨((h₁.1.trans k4).trans kp).trans (Kp.push _), ?_⟩
  have hp : (slicePick items l u t).toList = (sliceRange (sliceBounds l u t xs.length).1 (sliceBounds l u t xs.length).2.1 (sliceBounds l u t xs.length).2.2).filterMap (items.toList[·]?) := by
    unfold slicePick; rw [e]; simp
  have kA := (h₁.1.trans k4).trans kp
  refine .list ⟨Heap.get?_push_size _ rfl, .inr (kp_none kA (push_none _))⟩ ?_
  rw [hp]
  exact (r.filterMap _).mono fun _ _ e _ => ⟨Heap.get?_push_of_some _ e.get, Nw.trans h₁.1 e.ok⟩

/-! methods -/
def Me (w : World) (k : Nat) (T id : String) (a : PyData) (ds : List PyData) (d : PyData) : Prop :=
  ∀ (prog : Program) (A : Around) (s : Shared) (va : Value) (vs : List Value) (B : Addr → Prop), Rm k A → G w s.heap → Rd (HasB B s.heap) va a → Rds (HasB B s.heap) vs ds → wpAny (model prog w) A (call (.builtin id) (va :: vs)) (Post B s d) NoE s
def Ty (T : String) (a : PyData) : Prop := ∀ (s : Shared) (v : Value), Rd (Has s.heap) v a → s.TypeIs v T ∧ ∀ x, v = .ref x → ∃ ob, s.heap.get? x = some ob ∧ ob.dict = none
theorem Ty.str {x : Str} : Ty "str" (.str x) := fun s v r => by cases r; exact ⟨typeIs_str _ _ _, fun _ e => nomatch e⟩
theorem Ty.int {x : Int} : Ty "int" (.int x) := fun s v r => by cases r; exact ⟨typeIs_int _ _ _, fun _ e => nomatch e⟩
theorem Ty.list {xs : List PyData} : Ty "list" (.list xs) := fun s v r => by
  cases r with
  | list h _ => exact ⟨⟨_, h, rfl⟩, fun x e => by cases e; exact ⟨_, h, rfl⟩⟩
theorem Ev.meth0 {o : Expr} {name : Str} {apos pos : Pos} {T id : String} {a d : PyData} (ho : Ev w k sc ρ o a) (hT : Ty T a) (pa : PlainAttrs T) (slot : Slot T name id) (hty : typeOf (.builtin id) = pure (.type "method_descriptor")) (hm : Me w k T id a [] d)
    (hbase : ∀ env, attributeBase o name env (eval o env) = eval o env := by intro _; rfl) (hline : (apos.endLine == pos.line) = true := by rfl) :
    Ev w k sc ρ (.Call (.Attribute o name apos) [] [] pos) d := fun prog A s env B R g V => by
  refine wpAny_Call_method (hbase env) rfl hline pa slot hty (wpAny_mono (ho prog A s env B R g V) (fun va s₁ h₁ => ⟨(hT s₁ va h₁.2.has).1, (hT s₁ va h₁.2.has).2, callWith_method0 ?_⟩) fun _ _ x => x)
  exact wpAny_mono (hm prog A s₁ va [] _ R (g.keeps h₁.1.heap) h₁.2 .nil) (fun v s₂ h₂ => .after h₁.1 h₂) fun _ _ x => x
theorem Ev.meth1 {o e : Expr} {es : List Expr} {name : Str} {apos pos : Pos} {T id : String} {a d : PyData} {ds : List PyData} (ho : Ev w k sc ρ o a) (hes : Evs w k sc ρ (e :: es) ds) (hT : Ty T a) (pa : PlainAttrs T) (slot : Slot T name id) (hty : typeOf (.builtin id) = pure (.type "method_descriptor")) (hm : Me w k T id a ds d)
    (hbase : ∀ env, attributeBase o name env (eval o env) = eval o env := by intro _; rfl) (hline : (apos.endLine == pos.line) = true := by rfl)
    (hpl : ((e :: es).all (fun e => !isStarred e) && decide ((e :: es).length < 20)) = true := by rfl) :
    Ev w k sc ρ (.Call (.Attribute o name apos) (e :: es) [] pos) d := fun prog A s env B R g V => by
  rw [Bool.and_eq_true] at hpl
  have hse : isStarred e = false := by have := hpl.1; rw [List.all_cons, Bool.and_eq_true] at this; simpa using this.1
  have hes' := (star_all (pos := pos) env (by have := hpl.1; rw [List.all_cons, Bool.and_eq_true] at this; exact this.2)).1
  have hall := (star_all (pos := pos) env hpl.1).2
  have hlt : (e :: es).length < 20 := by simpa using hpl.2
  refine wpAny_Call_method (hbase env) (by rw [hall]; simp only [Bool.true_and]; show (true && decide ((e :: es).length + 0 + 0 < 30)) = true; rw [Bool.true_and]; exact decide_eq_true (by omega)) hline pa slot hty (wpAny_mono (ho prog A s env B R g V) (fun va s₁ h₁ => ⟨(hT s₁ va h₁.2.has).1, (hT s₁ va h₁.2.has).2, callWith_method1 ?_ (star_cons hse env) hes'⟩) fun _ _ x => x)
  refine wpAny_mono (hes prog A s₁ env _ pos R (g.keeps h₁.1.heap) (V.next h₁.1)) (fun vs s₂ h₂ => ?_) fun _ _ x => x
  exact wpAny_mono (hm prog A s₂ va vs _ R (g.keeps (h₁.1.trans h₂.1).heap) (h₁.2.next h₂.1) h₂.2) (fun v s₃ h₃ => .after2 h₁.1 h₂.1 h₃) fun _ _ x => x
open Builtin Builtin.Str in
theorem fit_of {x : Str} (h : x.length ≤ 1000) : tooLong x.length = false := by unfold tooLong; simp [sizeLine]; omega
theorem Me.lower {x : Str} (h : (Txt.lower x).length ≤ 1000) : Me w k "str" "str.lower" (.str x) [] (.str (Txt.lower x)) := fun _ _ _ _ _ _ _ _ ra rs => by
  cases ra; cases rs; exact SC.lower (fit_of h) ⟨Kp.tok _, .str _ _⟩
theorem Me.upper {x : Str} (h : (Txt.upper x).length ≤ 1000) : Me w k "str" "str.upper" (.str x) [] (.str (Txt.upper x)) := fun _ _ _ _ _ _ _ _ ra rs => by
  cases ra; cases rs; exact SC.upper (fit_of h) ⟨Kp.tok _, .str _ _⟩
theorem Me.startswith {x y : Str} : Me w k "str" "str.startswith" (.str x) [.str y] (.bool (Txt.startswith x y)) := fun _ _ _ _ _ _ _ _ ra rs => by
  cases ra; cases rs with | cons r1 r2 => cases r1; cases r2; exact SC.startswith Post.bool
theorem Me.endswith {x y : Str} : Me w k "str" "str.endswith" (.str x) [.str y] (.bool (Txt.endswith x y)) := fun _ _ _ _ _ _ _ _ ra rs => by
  cases ra; cases rs with | cons r1 r2 => cases r1; cases r2; exact SC.endswith Post.bool
theorem Me.bitLength {a : Int} : Me w k "int" "int.bit_length" (.int a) [] (.int (Builtin.Int.intBits a)) := fun _ _ _ _ _ _ _ _ ra rs => by
  cases ra; cases rs; exact call_int_bit_length Post.int
theorem Rds.strs {B} : ∀ {vs} {xs : List Str}, Rds B vs (xs.map .str) → ∃ l : List (Str × Tok), vs = strValues l ∧ l.map (·.1) = xs
  | [], [], _ => ⟨[], rfl, rfl⟩
  | _, x :: xs, .cons r rs => by
    cases r with
    | str _ t => obtain ⟨l, rfl, e⟩ := Rds.strs rs; exact ⟨(x, t) :: l, rfl, by simp [e]⟩
theorem Me.join {x : Str} {xs : List Str} (hok : JoinOk x xs = true) : Me w k "str" "str.join" (.str x) [.list (xs.map .str)] (.str (Txt.join x xs)) := fun _ _ _ _ _ _ _ _ ra rs => by
  cases ra
  cases rs with
  | cons r1 r2 =>
    cases r2
    obtain ⟨l, items, n, rfl, _, hl, r⟩ := r1.list_inv
    obtain ⟨ls, e, hm⟩ := r.strs
    have : items = (strValues ls).toArray := by rw [← e]
    subst this
    exact SC.join hl hm hok fun t' k => ⟨Kp.tok _, .str _ _⟩
theorem rds_numbered {B} : ∀ (n : Nat) (xs : List Str), Rds B (strValues (numbered n xs)) (xs.map .str)
  | _, [] => .nil
  | n, x :: xs => .cons (.str _ _) (rds_numbered _ xs)
open Builtin Builtin.Str in
theorem Me.split {x y : Str} (hy : (y.length == 0) = false) (hx : x.length ≤ 1000) (hp : (partsBetween x (occurrences x y 0 x.length (x.length + 1)) y.length).length ≤ 1000) : Me w k "str" "str.split" (.str x) [.str y] (.list ((Txt.split x y).map .str)) := fun prog A s va vs B R g ra rs => by
  have hs1 : x.length ≤ sizeLine := by show _ ≤ 2 ^ 24; omega
  have hs2 : (partsBetween x (occurrences x y 0 x.length (x.length + 1)) y.length).length ≤ sizeLine := by show _ ≤ 2 ^ 24; omega
  cases ra with
  | str _ t =>
  cases rs with
  | cons r1 r2 =>
  cases r2
  cases r1 with
  | str _ u =>
  have kp : ∀ (ob : Obj) (n : Nat), Kp s { s with heap := s.heap.push ob, toks := n } := fun ob n => ⟨_, n, rfl, fun _ _ e => Heap.get?_push_of_some _ e⟩
  have one : Post B s (.list [.str x]) (.ref s.heap.objs.size) { s with heap := s.heap.push { cls := .type "list", data := .seq #[.str x t] } } :=
    ⟨kp _ _, .list ⟨Heap.get?_push_size _ rfl, .inr (push_none _)⟩ (.cons (.str _ _) .nil)⟩
  cases h1 : (decide (x.length < y.length) || decide (strKind x < strKind y))
  · cases hf : (occurrences x y 0 x.length (x.length + 1)).isEmpty
    · have e : Txt.split x y = partsBetween x (occurrences x y 0 x.length (x.length + 1)) y.length := (if_neg (ne_true_of_eq_false h1)).trans (if_neg (ne_true_of_eq_false hf))
      refine call_meets F.slot_str_split (typeIs_str _ _ _) F.entry_str_split (F.args_str_split_2 _ _) (meets_str_split_sep x y t u h1 hy hf hs1 hs2) ?_
      show wants (Post B s _) NoE _ { s with toks := _, heap := s.heap.push { cls := .type "list", data := .seq (strsFrom s.toks (partsBetween x (occurrences x y 0 x.length (x.length + 1)) y.length)).toArray } }
      rw [strsFrom_eq, e]
      exact ⟨kp _ _, .list ⟨Heap.get?_push_size _ rfl, .inr (push_none _)⟩ (rds_numbered _ _)⟩
    · have e : Txt.split x y = [x] := (if_neg (ne_true_of_eq_false h1)).trans (if_pos hf)
      rw [e]
      exact call_meets F.slot_str_split (typeIs_str _ _ _) F.entry_str_split (F.args_str_split_2 _ _) (meets_str_split_not_found x y t u h1 hy hf) one
  · have e : Txt.split x y = [x] := if_pos h1
    rw [e]
    exact call_meets F.slot_str_split (typeIs_str _ _ _) F.entry_str_split (F.args_str_split_2 _ _) (meets_str_split_cannot_occur x y t u h1) one
theorem Me.count {xs : List PyData} {d : PyData} (hxs : PyData.canLayAll0 xs = true) (hd : d.canLay0 = true) (hdp : d.depth ≤ 50) : Me w k "list" "list.count" (.list xs) [d] (.int (xs.countP fun y => PyData.eqv y d)) := fun prog A s va vs B R g ra rs => by
  obtain ⟨l, items, n, rfl, hoB, _, r⟩ := ra.list_inv
  have ho := hoB.get
  cases rs with
  | cons r1 r2 =>
  cases r2
  obtain ⟨as, rr⟩ := r.has.reads
  obtain ⟨bs, rx⟩ := r1.has.reads
  refine call_meets PySem.F.slot_list_count ⟨_, ho, rfl⟩ PySem.F.entry_list_count (PySem.F.args_list_count_2 _ _) (SeqAt.list_countAt l items n none #[] _ (fun y => PyData.eqv (SeqAt.readOf s.heap y) d)) ⟨ho, SeqAt.items_eqAt rr rx hxs hd ?_, ?_⟩
  · have h3 : min (PyData.depthAll xs) d.depth ≤ d.depth := Nat.min_le_right _ _
    have := R.units
    omega
  · have e : items.toList.countP (fun y => PyData.eqv (SeqAt.readOf s.heap y) d) = xs.countP fun y => PyData.eqv y d := by
      conv => rhs; rw [← SeqAt.readsAll_map xs _ _ hxs rr, List.countP_map]
      rfl
    show Post B s _ (.int _ _) _
    rw [e]
    exact Post.int
end
end Mine
end
section
open PySem PySem.W PyProof.Rows PySem.Calls
set_option Elab.async false
set_option maxRecDepth 100000
set_option linter.unusedVariables false
namespace Mine
section
variable {w : World} {k : Nat} {sc : Sc} {ρ : Rho}
/-! names of the module and of the built-ins -/
theorem loadGlobal_of {env : Env} {B : Addr → Prop} {x : Str} {prog : Program} {A : Around} {E : Value → Shared → Prop} {s : Shared} {Q : Value → Shared → Prop} (V : Vars B env sc ρ s.heap) (hx : sc.lookup x = some .globalImplicit) (h : wpAny (model prog w) A (loadGlobal env x) Q E s) : wpAny (model prog w) A (loadName env x) Q E s := by
  have hk : env.kindOf x = some .globalImplicit := by rw [V.kindOf]; exact hx
  unfold loadName
  simp only [Env.blockKind, V.kind, hk, ScopeKind.isAnnotationScope, Bool.false_and, Bool.false_eq_true, if_false]
  exact h
theorem ld_mod {env : Env} {B : Addr → Prop} {x : Str} {v : Value} {prog : Program} {A : Around} {E : Value → Shared → Prop} {s : Shared} {Q : Value → Shared → Prop} (g : G w s.heap) (V : Vars B env sc ρ s.heap) (hx : sc.lookup x = some .globalImplicit) (e : nsIn (KK w) mainGlobals x = some (some v)) (h : Q v s) : wpAny (model prog w) A (loadName env x) Q E s := by
  obtain ⟨mg, mb, T⟩ := g.t
  refine loadGlobal_of V hx ?_
  unfold loadGlobal
  rw [V.globals]
  refine wpAny_bind (wpAny_nsGet T.g ?_)
  rw [mg_of g.k T.g e]
  exact wpAny_pure h
theorem ld_bi {env : Env} {B : Addr → Prop} {x : Str} {v : Value} {prog : Program} {A : Around} {E : Value → Shared → Prop} {s : Shared} {Q : Value → Shared → Prop} (g : G w s.heap) (V : Vars B env sc ρ s.heap) (hx : sc.lookup x = some .globalImplicit) (e : nsIn (KK w) mainGlobals x = some none) (hv : bootBuiltins x = some v) (hn : x ≠ "__name__") (h : Q v s) : wpAny (model prog w) A (loadName env x) Q E s := by
  obtain ⟨mg, mb, T⟩ := g.t
  refine loadGlobal_of V hx ?_
  unfold loadGlobal
  rw [V.globals, V.builtins]
  refine wpAny_bind (wpAny_nsGet T.g ?_)
  rw [mg_none_of g.k T.g e]
  refine wpAny_bind (wpAny_nsGet T.b ?_)
  rw [T.builtins x hn, hv]
  exact wpAny_pure h
/-- what a name of the module or a built-in name gives -/
inductive Nm (w : World) (sc : Sc) (x : Str) (v : Value) : Prop
  | mod : sc.lookup x = some .globalImplicit → nsIn (KK w) mainGlobals x = some (some v) → (x == ("__debug__" : Str)) = false → Nm w sc x v
  | bi : sc.lookup x = some .globalImplicit → nsIn (KK w) mainGlobals x = some none → bootBuiltins x = some v → x ≠ "__name__" → (x == ("__debug__" : Str)) = false → Nm w sc x v
theorem Nm.go {x : Str} {v : Value} {pos : Pos} {env : Env} {B : Addr → Prop} {prog : Program} {A : Around} {E : Value → Shared → Prop} {s : Shared} {Q : Value → Shared → Prop} (n : Nm w sc x v) (g : G w s.heap) (V : Vars B env sc ρ s.heap) (h : Q v s) : wpAny (model prog w) A (eval (.Name x pos) env) Q E s := by
  cases n with
  | mod hx e hd => exact wpAny_Name (ld_mod g V hx e h) hd
  | bi hx e hv hn hd => exact wpAny_Name (ld_bi g V hx e hv hn h) hd
theorem Ev.modInt {x : Str} {i : Int} {t : Tok} {pos : Pos} (n : Nm w sc x (.int i t)) : Ev w k sc ρ (.Name x pos) (.int i) := fun prog A s env B R g V => n.go g V ⟨Kp.rfl', .int _ _⟩

/-! calls by a name -/
def keepsOk (w : World) (f : Value) : Prop := ∀ (M : Model) (h : Heap), G w h → ∃ kp, (kp = Keeper.frame ∨ kp = Keeper.machine ∨ kp = Keeper.boundFrame) ∧ Looks M h (keeperOf f) kp
theorem keepsOk.builtin {id : String} : keepsOk w (.builtin id) := fun M h _ => ⟨.machine, .inr (.inl rfl), .of_pure rfl⟩
theorem keepsOk.type {id : String} : keepsOk w (.type id) := fun M h _ => ⟨.machine, .inr (.inl rfl), .of_pure rfl⟩
theorem keepsOk.def {f : Value} (hk : keepIn (KK w) f = true) : keepsOk w f := fun M h g => keeps_K hk h g.k
theorem eval_callName {env : Env} {x : Str} {npos pos : Pos} {args : List Expr} : eval (.Call (.Name x npos) args [] pos) env = (do let f ← eval (.Name x npos) env; callWith pos f [] (backTo pos (starEach args env)) []) := rfl
theorem Ev.call {x : Str} {npos pos : Pos} {f : Value} {e : Expr} {es : List Expr} {ds : List PyData} {d : PyData} (n : Nm w sc x f) (hk : keepsOk w f) (hes : Evs w k sc ρ (e :: es) ds) (hf : Fn w k f ds d)
    (hpl : (e :: es).all (fun e => !isStarred e) = true := by rfl) :
    Ev w k sc ρ (.Call (.Name x npos) (e :: es) [] pos) d := fun prog A s env B R g V => by
  rw [eval_callName]
  refine wpAny_bind (n.go g V ?_)
  have h := hes prog A s env B pos R g V
  rw [List.all_cons, Bool.and_eq_true] at hpl
  rw [star_cons (by simpa using hpl.1) env] at h ⊢
  refine callWith_of (P := G w) (by show ((false || (backTo pos (starEach es env)).any (·.1)) || false) = false; rw [(star_all env hpl.2).1]; rfl) (fun h gh => hk _ h gh) (evalArgs_plain (wpAny_mono h (fun vs s₁ h₁ => ?_) fun _ _ x => x))
  refine ⟨g.keeps h₁.1.heap, ?_⟩
  exact wpAny_mono (hf prog A s₁ vs _ R (g.keeps h₁.1.heap) h₁.2) (fun v s₂ h₂ => .after h₁.1 h₂) fun _ _ x => x

/-! built-in functions -/
theorem Fn.lenL {xs : List PyData} (h : xs.length ≤ sizeLine) : Fn w k (.builtin "len") [.list xs] (.int xs.length) := fun prog A s vs B R g rs => by
  cases rs with
  | cons r1 r2 =>
  cases r2
  obtain ⟨l, items, n, rfl, _, hl, r⟩ := r1.list_inv
  have e : items.size = xs.length := by rw [← r.length]; simp
  refine len_list hl (by rw [e]; have : xs.length ≤ 2 ^ 24 := h; omega) ?_
  rw [e]; exact Post.int
theorem Fn.divmod {a b : Int} (h : b ≠ 0) (hp : b.natAbs.log2 < 9000) : Fn w k (.builtin "divmod") [.int a, .int b] (.tuple [.int (a.fdiv b), .int (a.fmod b)]) := fun prog A s vs B R g rs => by
  cases rs with
  | cons r1 r2 =>
  cases r2 with
  | cons r2 r3 =>
  cases r3; cases r1; cases r2
  refine divmod_int h ?_ (.inl (PyProof.noPylong_of_log2 hp))
  exact ⟨⟨_, _, rfl, fun _ _ e => Heap.get?_push_of_some _ e⟩, .tuple ⟨Heap.get?_push_size _ rfl, .inr (push_none _)⟩ (.cons (.int _ _) (.cons (.int _ _) .nil))⟩
end
end Mine
end
section
open PySem PySem.W PyProof.Rows PySem.Calls
set_option Elab.async false
set_option maxRecDepth 100000
set_option linter.unusedVariables false
namespace Mine
section
variable {w : World} {k : Nat} {sc : Sc} {ρ : Rho}
/-! what a loop runs over -/
structure ItPost (B : Addr → Prop) (prog : Program) (w : World) (A : Around) (s : Shared) (items : List PyData) (it : Value) (s₂ : Shared) : Prop where
  kp : Kp s s₂
  ex : ∃ I fp wr P St, it = .ref I ∧ Walks prog w A I fp wr items.length P St ∧ St 0 s₂.heap ∧ (∀ b ∈ fp, b < s₂.heap.objs.size) ∧ (∀ b ∈ wr, s.heap.get? b = none) ∧
    (∀ b ∈ fp, s.heap.get? b = none ∨ B b ∧ ∃ o, s.heap.get? b = some o ∧ SeqObj o) ∧ (∀ i h, St i h → ∀ b ∈ wr, ∃ o, h.get? b = some o ∧ ¬ SeqObj o) ∧
    ∀ i v, P i v → ∃ d, items[i]? = some d ∧ Rd (HasB (Nw B s.heap) s₂.heap) v d
def It (w : World) (k : Nat) (sc : Sc) (ρ : Rho) (e : Expr) (items : List PyData) : Prop :=
  ∀ (prog : Program) (A : Around) (s : Shared) (env : Env) (B : Addr → Prop), Rm k A → G w s.heap → Vars B env sc ρ s.heap →
    wpAny (model prog w) A (eval e env) (fun xv s₁ => Kp s s₁ ∧ wpAny (model prog w) A (pyIter xv) (ItPost B prog w A s items) NoE s₁) NoE s
theorem not_lt_get {h : Heap} {a : Addr} (ha : h.objs.size ≤ a) : h.get? a = none := by
  cases e : h.get? a with
  | none => rfl
  | some o => exact absurd (Heap.lt_size e) (Nat.not_lt.mpr ha)
theorem kp_size {s s' : Shared} (x : Kp s s') : ∀ a, s'.heap.objs.size ≤ a → s.heap.get? a = none := fun a ha => by
  cases e : s.heap.get? a with
  | none => rfl
  | some o => exact absurd (Heap.lt_size (x.heap a o e)) (Nat.not_lt.mpr ha)
theorem notSeq_cls {o : Obj} {T : String} (h : o.cls = .type T) (h1 : T ≠ "list") (h2 : T ≠ "tuple") : ¬ SeqObj o := fun q => by
  rcases q.1 with e | e <;> rw [h] at e <;> injection e with e
  · exact h1 e
  · exact h2 e
/-- over a list -/
theorem iter_list {B : Addr → Prop} {prog : Program} {A : Around} {s s₁ : Shared} {v : Value} {xs : List PyData} (hh : A.handled = none) (kp : Kp s s₁) (r₁ : Rd (HasB (Nw B s.heap) s₁.heap) v (.list xs)) :
    wpAny (model prog w) A (pyIter v) (ItPost B prog w A s xs) NoE s₁ := by
  obtain ⟨l, items, n, rfl, hoB, hl, rs⟩ := r₁.list_inv
  have ho := hoB.get
  have e : items.size = xs.length := by rw [← rs.length]; simp
  have hlt : l < s₁.heap.objs.size := Heap.lt_size ho
  have new : s.heap.get? s₁.heap.objs.size = none := kp_size kp _ (Nat.le_refl _)
  refine wpAny_pyIter_list hl ⟨kp.trans (Kp.push _), s₁.heap.objs.size, [s₁.heap.objs.size, l], [s₁.heap.objs.size], _, _, rfl, e ▸ Walks.list hh _ l (Nat.ne_of_lt hlt) items, ⟨⟨_, Heap.get?_push_size _ rfl, rfl, rfl⟩, hl.push _⟩, fun b hb => ?_, fun b hb => ?_, fun b hb => ?_, fun i h st b hb => ?_, fun i v hv => ?_⟩
  · have hz : ({ s₁ with heap := s₁.heap.push { cls := .type "list_iterator", data := .fields #[.ref l, .int 0 0] } } : Shared).heap.objs.size = s₁.heap.objs.size + 1 := Heap.size_push ..
    rw [hz]
    rcases List.mem_cons.mp hb with rfl | hb
    · exact Nat.lt_succ_self _
    · rw [List.mem_singleton.mp hb]; exact Nat.lt_succ_of_lt hlt
  · rw [List.mem_singleton.mp hb]; exact new
  · rcases List.mem_cons.mp hb with rfl | hb
    · exact .inl new
    · rw [List.mem_singleton.mp hb]
      cases e0 : s.heap.get? l with
      | none => exact .inl rfl
      | some o =>
        have := kp.heap l o e0
        rw [ho] at this
        cases this
        rcases hoB.ok with h | h
        · exact .inr ⟨h, _, rfl, .inl rfl, _, _, rfl⟩
        · rw [e0] at h; cases h
  · rw [List.mem_singleton.mp hb]
    obtain ⟨o, h1, h2, _⟩ := st.1
    exact ⟨o, h1, notSeq_cls h2 (by decide) (by decide)⟩
  · obtain ⟨d, hd, rd⟩ := rs.get i v (by simpa using hv)
    exact ⟨d, hd, rd.mono fun b o eb _ => ⟨Heap.get?_push_of_some _ eb.get, eb.ok⟩⟩
theorem It.ev {e : Expr} {xs : List PyData} (h : Ev w k sc ρ e (.list xs)) : It w k sc ρ e xs := fun prog A s env B R g V =>
  wpAny_mono (h prog A s env B R g V) (fun v s₁ h₁ => ⟨h₁.1, iter_list R.hd h₁.1 h₁.2⟩) fun _ _ x => x
theorem It.name {x : Str} {xs : List PyData} {pos : Pos} (h : ρ.lookup x = some (.list xs)) (hd : (x == ("__debug__" : Str)) = false := by decide +kernel) : It w k sc ρ (.Name x pos) xs := fun prog A s env B R g V => by
  refine wpAny_Name (wpAny_mono (ev_load h V) (fun v s' hv => ?_) fun _ _ x => x) hd
  obtain ⟨rfl, r⟩ := hv
  exact ⟨Kp.rfl', iter_list R.hd Kp.rfl' r.nw⟩
/-- over range(n) -/
def upto (n : Nat) : List PyData := (List.range n).map fun (i : Nat) => PyData.int (i : Int)
theorem upto_length (n : Nat) : (upto n).length = n := by simp [upto]
theorem It.range {e : Expr} {n : Int} {npos pos : Pos} (nm : Nm w sc (Str.ofString "range") (.type "range")) (he : Ev w k sc ρ e (.int n)) (h0 : 0 ≤ n) (hn : n ≤ 100000)
    (hse : isStarred e = false := by rfl) : It w k sc ρ (.Call (.Name (Str.ofString "range") npos) [e] [] pos) (upto n.toNat) := fun prog A s env B R g V => by
  rw [eval_callName]
  refine wpAny_bind (nm.go g V ?_)
  have h : Evs w k sc ρ [e] [.int n] := Evs.cons he Evs.nil hse
  have h := h prog A s env B pos R g V
  rw [star_cons hse env] at h ⊢
  refine callWith_of (P := G w) rfl (fun h gh => keepsOk.type _ h gh) (evalArgs_plain (wpAny_mono h (fun vs s₁ h₁ => ⟨g.keeps h₁.1.heap, ?_⟩) fun _ _ x => x))
  obtain ⟨kp, rs⟩ := h₁
  cases rs with
  | cons r1 r2 =>
  cases r2; cases r1
  refine call_range_1 ?_
  have hsz : Builtin.Range.rangeSize 0 n 1 = ((n.toNat : Nat) : Int) := by unfold Builtin.Range.rangeSize; simp; omega
  have fl : ∀ x : Int, 0 ≤ x → x ≤ 100000 → Builtin.Range.rangeFitsLong x = true := fun x h1 h2 => by unfold Builtin.Range.rangeFitsLong; simp; omega
  have hsm : Builtin.Range.small 0 n 1 = true := by
    unfold Builtin.Range.small
    simp [hsz, fl 0 (by omega) (by omega), fl 1 (by omega) (by omega), fl n h0 hn, fl (max n 0) (by omega) (by omega), fl ((n.toNat : Nat) : Int) (by omega) (by omega)]
  have kp1 : ∀ ob tk, Kp s { s₁ with heap := s₁.heap.push ob, toks := tk } := fun ob tk => kp.trans ⟨_, _, rfl, fun _ _ e => Heap.get?_push_of_some _ e⟩
  refine ⟨kp1 _ _, wpAny_pyIter_range (IsRange.new ..) hsm ?_⟩
  have new : ∀ ob, s.heap.get? (s₁.heap.push ob).objs.size = none := fun ob => kp_size (kp1 ob 0) _ (Nat.le_refl _)
  refine ⟨(kp1 _ _).trans (Kp.push _), _, [_], [_], _, _, rfl, (upto_length n.toNat).symm ▸ (Walks.range R.hd _ 0 1 n.toNat).bound, ?_, fun b hb => ?_, fun b hb => ?_, fun b hb => ?_, fun i h st b hb => ?_, fun i v hv => ?_⟩
  · show IsRangeIter _ _ _ _ _
    rw [hsz]
    unfold IsRangeIter
    rw [show (0 : Int) + ((0 : Nat) : Int) * 1 = 0 by omega, show (((upto n.toNat).length : Nat) : Int) - ((0 : Nat) : Int) = ((n.toNat : Nat) : Int) by rw [upto_length]; omega]
    exact Heap.get?_push_size _ rfl
  · rw [List.mem_singleton.mp hb]
    exact Nat.lt_of_lt_of_eq (Nat.lt_succ_self _) (Heap.size_push ..).symm
  · rw [List.mem_singleton.mp hb]; exact new _
  · rw [List.mem_singleton.mp hb]; exact .inl (new _)
  · rw [List.mem_singleton.mp hb]
    exact ⟨_, st, notSeq_cls rfl (by decide) (by decide)⟩
  · obtain ⟨hi, t, rfl⟩ := hv
    refine ⟨.int i, by unfold upto; rw [List.getElem?_map, List.getElem?_range (upto_length n.toNat ▸ hi)]; rfl, ?_⟩
    rw [show (0 : Int) + (i : Int) * 1 = (i : Int) by omega]
    exact .int _ _

/-! sum, max -/
theorem Rds.ints {B} : ∀ {vs} {ns : List Int}, Rds B vs (ns.map .int) → ∃ l : List (Int × Tok), vs = l.map (fun p => Value.int p.1 p.2) ∧ l.map (·.1) = ns
  | [], [], _ => ⟨[], rfl, rfl⟩
  | _, x :: xs, .cons r rs => by
    cases r with
    | int _ t => obtain ⟨l, rfl, e⟩ := Rds.ints rs; exact ⟨(x, t) :: l, rfl, by simp [e]⟩
theorem preSum_take (xs : List Int) : ∀ j, j ≤ xs.length → preSum (fun i => xs.getD i 0) j = (xs.take j).sum
  | 0, _ => by simp [preSum]
  | j + 1, h => by rw [preSum, preSum_take xs j (by omega), ← PySem.sum_take_succ]
theorem Fn.sum {ns : List Int} : Fn w k (.builtin "sum") [.list (ns.map .int)] (.int ns.sum) := fun prog A s vs B R g rs => by
  cases rs with
  | cons r1 r2 =>
  cases r2
  obtain ⟨l, items, n, rfl, _, hl, r⟩ := r1.list_inv
  obtain ⟨ls, e1, e2⟩ := r.ints
  have e : items = intItems ls.toArray := by
    apply Array.ext'
    rw [e1]; simp [intItems]
  subst e
  refine call_sum_walkG (iter_intList hl fun s₂ e st hfp hlI => ?_)
  subst e
  refine ⟨_, _, _, _, _, _, numAt ls.toArray, rfl, Walks.list (A := A.in1) R.hd _ l hlI (intItems ls.toArray), st, hfp, (fun _ _ => intItems_at), fun h' tk t' hk => ?_⟩
  have hv : preSum (numAt ls.toArray) (intItems ls.toArray).size = ns.sum := by
    have : numAt ls.toArray = fun i => ns.getD i 0 := by funext i; rw [numAt_eq, ← e2]
    rw [this, show (intItems ls.toArray).size = ns.length by rw [← e2]; simp [intItems], preSum_take _ _ (Nat.le_refl _), List.take_length]
  rw [hv]
  exact ⟨⟨_, _, rfl, old_kept hk⟩, .int _ _⟩
theorem Fn.max {ns : List Int} {M : Int} (hM : M ∈ ns) (hle : ∀ a ∈ ns, a ≤ M) : Fn w k (.builtin "max") [.list (ns.map .int)] (.int M) := fun prog A s vs B R g rs => by
  cases rs with
  | cons r1 r2 =>
  cases r2
  obtain ⟨l, items, n, rfl, _, hl, r⟩ := r1.list_inv
  obtain ⟨ls, e1, e2⟩ := r.ints
  have e : items = intItems ls.toArray := by
    apply Array.ext'
    rw [e1]; simp [intItems]
  subst e
  have hne : 0 < ls.toArray.size := by
    have : ns.length = ls.length := by rw [← e2]; simp
    have := List.length_pos_of_mem hM
    simp; omega
  refine max_intList R.hd hl hne fun v h' tk hv hk => ?_
  obtain ⟨t, rfl⟩ := intItems_at hv
  obtain ⟨h1, h2⟩ := argBest_gt (numAt ls.toArray) (ls.toArray.size - 1)
  have hsz : ls.toArray.size = ns.length := by rw [← e2]; simp
  have : numAt ls.toArray (argBest (fun i j => decide (numAt ls.toArray i > numAt ls.toArray j)) (ls.toArray.size - 1)) = M := by
    apply Int.le_antisymm
    · apply hle
      rw [numAt_eq, show ls.toArray.toList.map (·.1) = ns from e2, List.getD_eq_getElem?_getD, List.getElem?_eq_getElem (by omega)]
      exact List.getElem_mem _
    · obtain ⟨j, hj, rfl⟩ := List.mem_iff_getElem.mp hM
      have := h2 j (by omega)
      rw [numAt_eq ls.toArray j, show ls.toArray.toList.map (·.1) = ns from e2, List.getD_eq_getElem?_getD, List.getElem?_eq_getElem hj] at this
      exact this
  rw [this]
  exact ⟨⟨_, _, rfl, hk⟩, .int _ _⟩
end
end Mine
end
section
open PySem PySem.W PyProof.Rows PySem.Calls
set_option Elab.async false
set_option maxRecDepth 100000
set_option linter.unusedVariables false
set_option linter.unusedSimpArgs false
namespace Mine
/-! environments as rows -/
noncomputable def upd : Rho → Str → PyData → Rho
  | [], x, d => [(x, d)]
  | (y, e) :: r, x, d => if x == y then (x, d) :: r else (y, e) :: upd r x d
theorem lookup_upd (x y : Str) (d : PyData) : ∀ ρ : Rho, (upd ρ x d).lookup y = if y == x then some d else ρ.lookup y
  | [] => by simp only [upd, List.lookup_cons, List.lookup_nil]; split <;> simp_all
  | (z, e) :: r => by
    unfold upd
    by_cases hxz : (x == z) = true
    · rw [if_pos hxz]
      have : x = z := beq_iff_eq.mp hxz
      subst this
      simp only [List.lookup_cons]
      split <;> simp_all
    · rw [if_neg hxz]
      simp only [List.lookup_cons]
      by_cases hyz : (y == z) = true
      · have : y = z := beq_iff_eq.mp hyz
        subst this
        have hyx : (y == x) = false := by
          cases h : y == x with
          | false => rfl
          | true => exact absurd (by rw [beq_iff_eq.mp h]; exact beq_self_eq_true _) hxz
        simp [hyx]
      · have e : (y == z) = false := by simpa using hyz
        rw [e]
        exact lookup_upd x y d r
/-- every entry of ρ' is ρ's -/
def Sub (ρ' ρ : Rho) : Prop := ∀ x d, ρ'.lookup x = some d → ρ.lookup x = some d
theorem Sub.rfl' {ρ : Rho} : Sub ρ ρ := fun _ _ h => h
theorem Sub.nil {ρ : Rho} : Sub [] ρ := fun _ _ h => by cases h
theorem Sub.cons {x : Str} {d : PyData} {ρ' ρ : Rho} (h : ρ.lookup x = some d) (hs : Sub ρ' ρ) : Sub ((x, d) :: ρ') ρ := fun y e he => by
  rw [List.lookup_cons] at he
  cases hb : y == x with
  | true => rw [hb] at he; cases he; rw [beq_iff_eq.mp hb]; exact h
  | false => rw [hb] at he; exact hs y e he
theorem Sub.upd {ρ : Rho} {x : Str} {d : PyData} (h : ρ.lookup x = none) : Sub ρ (upd ρ x d) := fun y e he => by
  rw [lookup_upd]
  cases hb : y == x with
  | true => rw [beq_iff_eq.mp hb, h] at he; cases he
  | false => exact he
theorem Vars.weaken {B env sc ρ ρ' h} (x : Vars B env sc ρ h) (hs : Sub ρ' ρ) : Vars B env sc ρ' h := ⟨x.kind, x.names, x.globals, x.builtins, fun y d e => x.look y d (hs y d e)⟩
theorem Vars.monoB {B B' : Addr → Prop} {env sc ρ h} (x : Vars B env sc ρ h) (hb : ∀ a o, h.get? a = some o → SeqObj o → B a → B' a) : Vars B' env sc ρ h :=
  ⟨x.kind, x.names, x.globals, x.builtins, fun y d e => let ⟨v, r, l⟩ := x.look y d e; ⟨v, r.mono fun a o e q => ⟨e.get, hb a o e.get q e.ok⟩, l⟩⟩

/-! a frame: its names, its own changeable objects M, over the base h₀ -/
structure Fm (h₀ : Heap) (B : Addr → Prop) (env : Env) (sc : Sc) (M : Addr → Prop) (ρ : Rho) (h : Heap) : Prop where
  vars : Vars B env sc ρ h
  ns : ∃ m, h.Ns env.locals m
  mloc : M env.locals
  mobj : ∀ a, M a → ∃ o, h.get? a = some o ∧ ¬ SeqObj o
  mnew : ∀ a, M a → h₀.get? a = none
  cells : ∀ x c, env.cells.lookup x = some c → c ≠ env.locals ∧ (∃ v, h.IsCell c v) ∧ (M c ∨ ∃ o, h₀.get? c = some o)
  apart : ∀ x y c, M c → env.cells.lookup x = some c → env.cells.lookup y = some c → x = y
  base : ∀ b o, h₀.get? b = some o → h.get? b = some o
theorem Fm.next {h₀ B env sc M ρ} {s s' : Shared} (x : Fm h₀ B env sc M ρ s.heap) (kp : Kp s s') : Fm h₀ (Nw B s.heap) env sc M ρ s'.heap where
  vars := x.vars.next kp
  ns := let ⟨m, h⟩ := x.ns; ⟨m, h.keeps kp.heap⟩
  mloc := x.mloc
  mobj := fun a ha => let ⟨o, h1, h2⟩ := x.mobj a ha; ⟨o, kp.heap a o h1, h2⟩
  mnew := x.mnew
  cells := fun y c hc => let ⟨h1, ⟨v, h2⟩, h3⟩ := x.cells y c hc; ⟨h1, ⟨v, h2.keeps kp.heap⟩, h3⟩
  apart := x.apart
  base := fun b o e => kp.heap b o (x.base b o e)
theorem Fm.weaken {h₀ B env sc M ρ ρ' h} (x : Fm h₀ B env sc M ρ h) (hs : Sub ρ' ρ) : Fm h₀ B env sc M ρ' h := { x with vars := x.vars.weaken hs }
theorem Fm.monoB {h₀ env sc M ρ h} {B B' : Addr → Prop} (x : Fm h₀ B env sc M ρ h) (hb : ∀ a o, h.get? a = some o → SeqObj o → B a → B' a) : Fm h₀ B' env sc M ρ h := { x with vars := x.vars.monoB hb }
/-- what lies outside the frame and outside B's sequences may change -/
theorem Fm.change {h₀ B env sc M ρ h h'} (x : Fm h₀ B env sc M ρ h) (X : Addr → Prop) (hk : ∀ b o, ¬ X b → h.get? b = some o → h'.get? b = some o)
    (hB : ∀ a o, X a → h.get? a = some o → SeqObj o → ¬ B a) (hM : ∀ a, X a → ¬ M a) (h0 : ∀ a, X a → h₀.get? a = none) : Fm h₀ B env sc M ρ h' := by
  have hL : ¬ X env.locals := fun e => hM _ e x.mloc
  have hC : ∀ y c, env.cells.lookup y = some c → ¬ X c := fun y c hc e => by
    rcases (x.cells y c hc).2.2 with q | ⟨o, q⟩
    · exact hM c e q
    · rw [h0 c e] at q; cases q
  exact {
    vars := ⟨x.vars.kind, x.vars.names, x.vars.globals, x.vars.builtins, fun y d e => by
      obtain ⟨v, r, l⟩ := x.vars.look y d e
      refine ⟨v, r.mono fun a o e q => ⟨hk a o (fun ex => hB a o ex e.get q e.ok) e.get, e.ok⟩, ?_⟩
      cases l with
      | loc h1 h2 h3 => exact .loc h1 (h2.at' fun o e => hk _ o hL e) h3
      | cell h1 h2 h3 => obtain ⟨o, h3, h4⟩ := h3; exact .cell h1 h2 ⟨o, hk _ o (hC _ _ h2) h3, h4⟩
      | free h1 h2 h3 h4 => obtain ⟨o, h3, h5⟩ := h3; exact .free h1 h2 ⟨o, hk _ o (hC _ _ h2) h3, h5⟩ h4⟩
    ns := let ⟨m, q⟩ := x.ns; ⟨m, q.at' fun o e => hk _ o hL e⟩
    mloc := x.mloc
    mobj := fun a ha => let ⟨o, h1, h2⟩ := x.mobj a ha; ⟨o, hk a o (fun e => hM a e ha) h1, h2⟩
    mnew := x.mnew
    cells := fun y c hc => let ⟨h1, ⟨v, o, h2, h2'⟩, h3⟩ := x.cells y c hc; ⟨h1, ⟨v, o, hk c o (hC y c hc) h2, h2'⟩, h3⟩
    apart := x.apart
    base := fun b o e => hk b o (fun ex => by rw [h0 b ex] at e; cases e) (x.base b o e) }
theorem notSeq_cell {h : Heap} {c : Addr} {v : Option Value} (x : h.IsCell c v) : ∃ o, h.get? c = some o ∧ ¬ SeqObj o :=
  let ⟨o, h1, h2⟩ := x; ⟨o, h1, fun q => by obtain ⟨_, vs, n, e⟩ := q; rw [h2] at e; cases e⟩
theorem notSeq_ns {h : Heap} {c : Addr} {m} (x : h.Ns c m) : ∃ o, h.get? c = some o ∧ ¬ SeqObj o :=
  let ⟨o, _, _, h1, h2, _⟩ := x; ⟨o, h1, fun q => by obtain ⟨_, vs, n, e⟩ := q; rw [h2] at e; cases e⟩
theorem ns_unique {h : Heap} {a : Addr} {m m'} (x : h.Ns a m) (y : h.Ns a m') : m = m' := by
  obtain ⟨o, es, ep, h1, h2, _, h3⟩ := x
  obtain ⟨o', es', ep', h1', h2', _, h3'⟩ := y
  rw [h1] at h1'; cases h1'
  rw [h2] at h2'; cases h2'
  funext z
  rw [← h3, ← h3']
/-- a name is stored -/
theorem Fm.store {w : World} {prog : Program} {A : Around} {E : Value → Shared → Prop} {s : Shared} {h₀ B env sc M ρ} {x : Str} {v : Value} {d : PyData} {Q : Unit → Shared → Prop} (F : Fm h₀ B env sc M ρ s.heap)
    (hx : sc.lookup x = some .local ∨ (sc.lookup x = some .cell ∧ ∃ c, env.cells.lookup x = some c ∧ M c)) (r : Rd (HasB B s.heap) v d)
    (h : ∀ h' tk, (∀ b o, ¬ M b → s.heap.get? b = some o → h'.get? b = some o) → (∀ y u, (y == x) = false → Ld env s.heap y u → Ld env h' y u) → (∀ b, h'.get? b = none → s.heap.get? b = none) → Ld env h' x v → Fm h₀ B env sc M (upd ρ x d) h' → Q () { s with heap := h', toks := tk }) : wpAny (model prog w) A (storeName env x v) Q E s := by
  have seqK : ∀ {h' : Heap} {a : Addr}, M a → Heap.SameBut a s.heap h' → ∀ {u e}, Rd (HasB B s.heap) u e → Rd (HasB B h') u e := fun ha hs => fun r => r.mono fun b o e q => ⟨hs.extBut b o (fun hb => by
    subst hb
    obtain ⟨o', h1, h2⟩ := F.mobj _ ha
    rw [e.get] at h1
    cases h1
    exact h2 q) e.get, e.ok⟩
  rcases hx with hx | ⟨hx, c, hc, hMc⟩
  · obtain ⟨m, hn⟩ := F.ns
    refine wpAny_storeName_local (by rw [F.vars.kindOf]; exact hx) hn (fun h' hn' hs' => ?_) (by rw [F.vars.kind]; rfl)
    have keepLd : ∀ y u, (y == x) = false → Ld env s.heap y u → Ld env h' y u := fun y u hb l => by
      cases l with
      | loc h1 h2 h3 =>
        refine .loc h1 hn' ?_
        have hne : y ≠ x := fun q => by rw [q, beq_self_eq_true] at hb; cases hb
        rw [if_neg hne]
        rw [ns_unique hn h2]
        exact h3
      | cell h1 h2 h3 => exact .cell h1 h2 (h3.sameBut hs' (F.cells _ _ h2).1)
      | free h1 h2 h3 h4 => exact .free h1 h2 (h3.sameBut hs' (F.cells _ _ h2).1) h4
    refine h h' _ (fun b o hb e => hs'.extBut b o (fun q => hb (q ▸ F.mloc)) e) keepLd (fun b hb => ?_) (.loc (by rw [F.vars.kindOf]; exact hx) hn' (by simp)) ?_
    · by_cases q : b = env.locals
      · subst q
        obtain ⟨o, e, _⟩ := notSeq_ns hn'
        rw [hb] at e; cases e
      · rw [← hs'.2 b q]; exact hb
    have hcl : ∀ {y c u}, env.cells.lookup y = some c → s.heap.IsCell c u → h'.IsCell c u := fun hc q => q.sameBut hs' (F.cells _ _ hc).1
    exact {
      vars := ⟨F.vars.kind, F.vars.names, F.vars.globals, F.vars.builtins, fun y e he => by
        rw [lookup_upd] at he
        cases hb : y == x with
        | true =>
          rw [hb] at he; cases he
          have : y = x := beq_iff_eq.mp hb
          subst this
          exact ⟨v, seqK F.mloc hs' r, .loc (by rw [F.vars.kindOf]; exact hx) hn' (by simp)⟩
        | false =>
          rw [hb] at he
          obtain ⟨u, ru, l⟩ := F.vars.look y e he
          exact ⟨u, seqK F.mloc hs' ru, keepLd y u hb l⟩⟩
      ns := ⟨_, hn'⟩
      mloc := F.mloc
      mobj := fun a ha => by
        by_cases hb : a = env.locals
        · subst hb; exact notSeq_ns hn'
        · obtain ⟨o, h1, h2⟩ := F.mobj a ha; exact ⟨o, hs'.extBut a o hb h1, h2⟩
      mnew := F.mnew
      cells := fun y c hc => let ⟨h1, ⟨v, h2⟩, h3⟩ := F.cells y c hc; ⟨h1, ⟨v, hcl hc h2⟩, h3⟩
      apart := F.apart
      base := fun b o e => hs'.extBut b o (fun q => by subst q; rw [F.mnew _ F.mloc] at e; cases e) (F.base b o e) }
  · obtain ⟨hcL, ⟨v₀, hv₀⟩, _⟩ := F.cells x c hc
    refine wpAny_storeName_cell F.vars.kind (by rw [F.vars.kindOf]; exact hx) hc hv₀ fun h' hc' hs' => ?_
    have keepLd : ∀ y u, (y == x) = false → Ld env s.heap y u → Ld env h' y u := fun y u hb l => by
      have hne : y ≠ x := fun q => by rw [q, beq_self_eq_true] at hb; cases hb
      cases l with
      | loc h1 h2 h3 => exact .loc h1 (h2.sameBut hs' (Ne.symm hcL)) h3
      | cell h1 h2 h3 => exact .cell h1 h2 (h3.sameBut hs' fun q => hne (F.apart _ _ _ hMc (q ▸ h2) hc))
      | free h1 h2 h3 h4 => exact .free h1 h2 (h3.sameBut hs' fun q => hne (F.apart _ _ _ hMc (q ▸ h2) hc)) h4
    refine h h' _ (fun b o hb e => hs'.extBut b o (fun q => hb (q ▸ hMc)) e) keepLd (fun b hb => ?_) (.cell (by rw [F.vars.kindOf]; exact hx) hc hc') ?_
    · by_cases q : b = c
      · subst q
        obtain ⟨o, e, _⟩ := notSeq_cell hc'
        rw [hb] at e; cases e
      · rw [← hs'.2 b q]; exact hb
    obtain ⟨m, hn⟩ := F.ns
    exact {
      vars := ⟨F.vars.kind, F.vars.names, F.vars.globals, F.vars.builtins, fun y e he => by
        rw [lookup_upd] at he
        cases hb : y == x with
        | true =>
          rw [hb] at he; cases he
          have : y = x := beq_iff_eq.mp hb
          subst this
          exact ⟨v, seqK hMc hs' r, .cell (by rw [F.vars.kindOf]; exact hx) hc hc'⟩
        | false =>
          rw [hb] at he
          obtain ⟨u, ru, l⟩ := F.vars.look y e he
          exact ⟨u, seqK hMc hs' ru, keepLd y u hb l⟩⟩
      ns := ⟨m, hn.sameBut hs' (Ne.symm hcL)⟩
      mloc := F.mloc
      mobj := fun a ha => by
        by_cases hb : a = c
        · subst hb; exact notSeq_cell hc'
        · obtain ⟨o, h1, h2⟩ := F.mobj a ha; exact ⟨o, hs'.extBut a o hb h1, h2⟩
      mnew := F.mnew
      cells := fun y c' hy => by
        obtain ⟨h1, ⟨v', h2⟩, h3⟩ := F.cells y c' hy
        by_cases hb : c' = c
        · subst hb; exact ⟨h1, ⟨_, hc'⟩, h3⟩
        · exact ⟨h1, ⟨v', h2.sameBut hs' hb⟩, h3⟩
      apart := F.apart
      base := fun b o e => hs'.extBut b o (fun q => by subst q; rw [F.mnew _ hMc] at e; cases e) (F.base b o e) }
end Mine
end
section
open PySem PySem.W PyProof.Rows PySem.Calls
set_option Elab.async false
set_option maxRecDepth 100000
set_option linter.unusedVariables false
set_option linter.unusedSimpArgs false
namespace Mine
section
variable {prog : Program} {w : World} {A : Around}

/-! one level of a comprehension's loops -/
theorem codeAny_level {R : Result → Shared → Prop} {s : Shared} {elt : Expr} {gens : List Comprehension} {scope : Scope} {epos : Pos} {depth : Nat} {I : Addr} {acc : Value} {cenv : Env} {fp wr : List Addr} {n : Nat} {P : Nat → Value → Prop} {St : Nat → Heap → Prop}
    (W : Walks prog w A I fp wr n P St) (rest : Value → Sem Fin) (pos : Pos)
    (heq : compTurn (.ListComp elt gens scope epos) depth (.ref I) acc cenv = standAt pos >>= fun _ => pyNext (.ref I) >>= fun r => match r with | none => pure (.done .next) | some v => rest v)
    (J : Nat → Shared → Prop) (h0 : J 0 s) (hst : ∀ i s, J i s → St i s.heap)
    (turn : ∀ i (s : Shared) v h' tk, i < n → J i s → P i v → St (i + 1) h' → (∀ b o, b ∉ wr → s.heap.get? b = some o → h'.get? b = some o) →
      wpAny (model prog w) A (rest v) (fun fin s' => fin = .again (.compLoop (.ListComp elt gens scope epos) depth (.ref I) acc cenv) ∧ J (i + 1) s') NoE { s with heap := h', toks := tk })
    (done : ∀ (s : Shared) h' tk, J n s → (∀ b o, b ∉ wr → s.heap.get? b = some o → h'.get? b = some o) → R (.ok .next) { s with heap := h', toks := tk }) :
    codeAny (model prog w) A (.compLoop (.ListComp elt gens scope epos) depth (.ref I) acc cenv) R s := by
  refine codeAny_loop rfl (fun k s => ∃ i, i ≤ n ∧ k = n + 1 - i ∧ J i s) (fun k s hI => ?_) (n + 1) ⟨0, Nat.zero_le _, rfl, h0⟩
  obtain ⟨i, hi, rfl, hJ⟩ := hI
  show wpAny _ A ((compTurn (.ListComp elt gens scope epos) depth (.ref I) acc cenv).onRaise (fun x => do noteFrame x cenv; theTreesLotGoes x)) _ _ s
  refine wpAny_noted ?_
  rw [heq]
  refine wpAny_bind (wpAny_standAt (wpAny_bind ?_))
  by_cases hlt : i < n
  · refine W.item i s _ _ hlt (hst i s hJ) fun v h' tk hP hst' hk => ?_
    refine wpAny_mono (turn i s v h' tk hlt hJ hP hst' hk) (fun fin s' hf => ?_) fun _ _ x => x.elim
    obtain ⟨rfl, hJ'⟩ := hf
    exact ⟨rfl, n + 1 - (i + 1), by omega, i + 1, hlt, rfl, hJ'⟩
  · have : i = n := by omega
    subst this
    exact W.done s _ _ (hst i s hJ) fun h' tk hk => wpAny_pure (done s h' tk hJ hk)

/-- a comprehension under way: its frame, and its list D so far -/
structure CI (w : World) (s : Shared) (B : Addr → Prop) (cenv : Env) (sc : Sc) (M Av : Addr → Prop) (D : Addr) (ρ : Rho) (ys : List PyData) (s' : Shared) : Prop where
  g : G w s.heap
  kp : Kp s s'
  avAl : ∀ a, Av a → ∃ o, s'.heap.get? a = some o
  avD : Av D
  avM : ∀ a, Av a → ¬ M a
  avNew : ∀ a, Av a → s.heap.get? a = none
  ex : ∃ B' : Addr → Prop, (∀ a, B' a → ¬ Av a ∧ Nw B s.heap a) ∧ Fm s.heap B' cenv sc M ρ s'.heap ∧ ∃ vs, s'.heap.PlainList D vs ∧ Rds (HasB B' s'.heap) vs.toList ys
variable {s : Shared} {B : Addr → Prop} {cenv : Env} {sc : Sc} {M Av : Addr → Prop} {D : Addr} {ρ : Rho} {ys : List PyData}
theorem CI.weaken {s' : Shared} {ρ' : Rho} (x : CI w s B cenv sc M Av D ρ ys s') (hs : Sub ρ' ρ) : CI w s B cenv sc M Av D ρ' ys s' := by
  obtain ⟨B', h1, F, h2⟩ := x.ex
  exact { x with ex := ⟨B', h1, F.weaken hs, h2⟩ }
/-- a pure step -/
theorem CI.next {s' s'' : Shared} (x : CI w s B cenv sc M Av D ρ ys s') (kp : Kp s' s'') : CI w s B cenv sc M Av D ρ ys s'' := by
  obtain ⟨B', h1, F, vs, ⟨n, h2⟩, h3⟩ := x.ex
  refine ⟨x.g, x.kp.trans kp, fun a ha => let ⟨o, e⟩ := x.avAl a ha; ⟨o, kp.heap a o e⟩, x.avD, x.avM, x.avNew, Nw B' s'.heap, fun a ha => ?_, F.next kp, vs, ⟨n, kp.heap _ _ h2⟩, h3.next kp⟩
  rcases ha with ha | ha
  · exact h1 a ha
  · refine ⟨fun q => ?_, .inr (kp_none x.kp ha)⟩
    obtain ⟨o, e⟩ := x.avAl a q
    rw [ha] at e; cases e
/-- an expression in the frame -/
theorem CI.ev {s' : Shared} {k : Nat} {e : Expr} {d : PyData} {Q : Value → Shared → Prop} (x : CI w s B cenv sc M Av D ρ ys s') (R : Rm k A) (he : Ev w k sc ρ e d)
    (h : ∀ v s'', Kp s' s'' → (∃ B' : Addr → Prop, (∀ a, B' a → ¬ Av a ∧ Nw B s.heap a) ∧ Fm s.heap B' cenv sc M ρ s''.heap ∧ (∃ vs, s''.heap.PlainList D vs ∧ Rds (HasB B' s''.heap) vs.toList ys) ∧ Rd (HasB B' s''.heap) v d) → CI w s B cenv sc M Av D ρ ys s'' → Q v s'') :
    wpAny (model prog w) A (eval e cenv) Q NoE s' := by
  obtain ⟨B', h1, F, vs, ⟨n, h2⟩, h3⟩ := id x.ex
  refine wpAny_mono (he prog A s' cenv B' R (x.g.keeps x.kp.heap) F.vars) (fun v s'' hv => ?_) fun _ _ e => e
  refine h v s'' hv.1 ⟨Nw B' s'.heap, fun a ha => ?_, F.next hv.1, ⟨vs, ⟨n, hv.1.heap _ _ h2⟩, h3.next hv.1⟩, hv.2⟩ (x.next hv.1)
  rcases ha with ha | ha
  · exact h1 a ha
  · refine ⟨fun q => ?_, .inr (kp_none x.kp ha)⟩
    obtain ⟨o, e⟩ := x.avAl a q
    rw [ha] at e; cases e
theorem CI.ts {s' : Shared} {k : Nat} {e : Expr} {b : Bool} {Q : Bool → Shared → Prop} (x : CI w s B cenv sc M Av D ρ ys s') (R : Rm k A) (he : Ts w k sc ρ e b)
    (h : ∀ s'', CI w s B cenv sc M Av D ρ ys s'' → Q b s'') : wpAny (model prog w) A (isTrue e cenv (eval e cenv)) Q NoE s' := by
  obtain ⟨B', h1, F, vs, ⟨n, h2⟩, h3⟩ := id x.ex
  refine wpAny_mono (he prog A s' cenv B' R (x.g.keeps x.kp.heap) F.vars) (fun v s'' hv => ?_) fun _ _ e => e
  obtain ⟨kp, rfl⟩ := hv
  exact h s'' (x.next kp)
/-- an item joins the list -/
theorem CI.append {s' : Shared} {k : Nat} {e : Expr} {d : PyData} {Q : Unit → Shared → Prop} (x : CI w s B cenv sc M Av D ρ ys s') (R : Rm k A) (he : Ev w k sc ρ e d) (hl : ys.length ≤ sizeLine)
    (h : ∀ s'', (∀ b o, b ≠ D → s'.heap.get? b = some o → s''.heap.get? b = some o) → CI w s B cenv sc M Av D ρ (ys ++ [d]) s'' → Q () s'') :
    wpAny (model prog w) A (do let _ ← call (.builtin "list.append") [.ref D, ← eval e cenv]) Q NoE s' := by
  refine wpAny_bind (x.ev R he fun v s₁ kp₁ hv c₁ => ?_)
  obtain ⟨B', h1, F, ⟨vs, hp, h3⟩, rv⟩ := hv
  have hz : vs.size = ys.length := by rw [← h3.length]; simp
  refine wpAny_bind (wpAny_list_append_plain (hsz := by rw [hz]; exact hl) hp fun h' hp' hs' => wpAny_pure (h _ (fun b o hb e => hs'.extBut b o hb (kp₁.heap b o e)) ?_))
  have hB : ∀ a, B' a → a ≠ D := fun a ha q => (h1 a ha).1 (q ▸ c₁.avD)
  refine ⟨c₁.g, ?_, fun a ha => ?_, c₁.avD, c₁.avM, c₁.avNew, B', h1, F.change (· = D) (fun b o hb e => hs'.extBut b o hb e) (fun a o ha _ _ q => hB a q ha) (fun a ha => ha ▸ c₁.avM _ c₁.avD) (fun a ha => ha ▸ c₁.avNew _ c₁.avD), _, hp', ?_⟩
  · obtain ⟨hh, tk, rfl, hk⟩ := c₁.kp
    exact ⟨h', tk, rfl, fun b o e => hs'.extBut b o (fun q => by subst q; rw [c₁.avNew _ c₁.avD] at e; cases e) (hk b o e)⟩
  · by_cases hb : a = D
    · subst hb; obtain ⟨n, e⟩ := hp'; exact ⟨_, e⟩
    · obtain ⟨o, e⟩ := c₁.avAl a ha; exact ⟨o, hs'.extBut a o hb e⟩
  · rw [Array.toList_push]
    exact (h3.snoc rv).mono fun a o e _ => ⟨hs'.extBut a o (hB a e.ok) e.get, e.ok⟩
/-- the target is stored -/
theorem CI.store {s' : Shared} {x : Str} {px : Pos} {v : Value} {d : PyData} {Q : Unit → Shared → Prop} (C : CI w s B cenv sc M Av D ρ ys s')
    (hx : sc.lookup x = some .local ∨ (sc.lookup x = some .cell ∧ ∃ c, cenv.cells.lookup x = some c ∧ M c))
    (B₁ : Addr → Prop) (hB₁ : ∀ a, B₁ a → ¬ Av a ∧ Nw B s.heap a) (r : Rd (HasB B₁ s'.heap) v d)
    (h : ∀ s'', (∀ b o, ¬ M b → s'.heap.get? b = some o → s''.heap.get? b = some o) → CI w s B cenv sc M Av D (upd ρ x d) ys s'' → Q () s'') : wpAny (model prog w) A (assign (.Name x px) cenv v) Q NoE s' := by
  obtain ⟨B', h1, F, vs, ⟨n, h2⟩, h3⟩ := C.ex
  refine wpAny_assign_Name (Fm.store (F.monoB (B' := fun a => B' a ∨ B₁ a) fun a o _ _ q => .inl q) hx (r.mono fun a o e _ => ⟨e.get, .inr e.ok⟩) fun h' tk hk _ _ _ F' => h _ hk ?_)
  have hMD : ¬ M D := C.avM _ C.avD
  refine ⟨C.g, ?_, fun a ha => ?_, C.avD, C.avM, C.avNew, _, fun a ha => ha.elim (h1 a) (hB₁ a), F', vs, ⟨n, hk _ _ hMD h2⟩, h3.mono fun a o e q => ⟨hk a o (fun hm => ?_) e.get, .inl e.ok⟩⟩
  · obtain ⟨hh, tk', rfl, hk'⟩ := C.kp
    exact ⟨h', tk, rfl, fun b o e => hk b o (fun hm => by rw [F.mnew b hm] at e; cases e) (hk' b o e)⟩
  · obtain ⟨o, e⟩ := C.avAl a ha; exact ⟨o, hk a o (C.avM a ha) e⟩
  · obtain ⟨o', q1, q2⟩ := F.mobj a hm
    rw [e.get] at q1; cases q1; exact q2 q
/-- the iterator moves -/
theorem CI.moved {s' : Shared} {wr : List Addr} {h' : Heap} {tk : Nat} (C : CI w s B cenv sc M Av D ρ ys s') (hw : ∀ b ∈ wr, Av b) (hD : D ∉ wr) (hal : ∀ b ∈ wr, ∃ o, h'.get? b = some o)
    (hk : ∀ b o, b ∉ wr → s'.heap.get? b = some o → h'.get? b = some o) : CI w s B cenv sc M Av D ρ ys { s' with heap := h', toks := tk } := by
  obtain ⟨B', h1, F, vs, ⟨n, h2⟩, h3⟩ := C.ex
  refine ⟨C.g, ?_, fun a ha => ?_, C.avD, C.avM, C.avNew, B', h1, F.change (· ∈ wr) hk (fun a o ha _ _ q => (h1 a q).1 (hw a ha)) (fun a ha => C.avM a (hw a ha)) (fun a ha => C.avNew a (hw a ha)), vs, ⟨n, hk _ _ hD h2⟩, h3.mono fun a o e _ => ⟨hk a o (fun hm => (h1 a e.ok).1 (hw a hm)) e.get, e.ok⟩⟩
  · obtain ⟨hh, tk', rfl, hk'⟩ := C.kp
    exact ⟨h', tk, rfl, fun b o e => hk b o (fun hm => by rw [C.avNew b (hw b hm)] at e; cases e) (hk' b o e)⟩
  · by_cases hb : a ∈ wr
    · exact hal a hb
    · obtain ⟨o, e⟩ := C.avAl a ha; exact ⟨o, hk a o hb e⟩
/-- the loop is over: the iterator's last move may do as it likes -/
theorem CI.ended {s' : Shared} {wr : List Addr} {Av' : Addr → Prop} {h' : Heap} {tk : Nat} (C : CI w s B cenv sc M Av' D ρ ys s') (hA : ∀ a, Av a → Av' a ∧ a ∉ wr) (hw : ∀ b ∈ wr, Av' b) (hD : Av D)
    (hk : ∀ b o, b ∉ wr → s'.heap.get? b = some o → h'.get? b = some o) : CI w s B cenv sc M Av D ρ ys { s' with heap := h', toks := tk } := by
  obtain ⟨B', h1, F, vs, ⟨n, h2⟩, h3⟩ := C.ex
  refine ⟨C.g, ?_, fun a ha => ?_, hD, fun a ha => C.avM a (hA a ha).1, fun a ha => C.avNew a (hA a ha).1, B', fun a ha => ⟨fun q => (h1 a ha).1 (hA a q).1, (h1 a ha).2⟩, F.change (· ∈ wr) hk (fun a o ha _ _ q => (h1 a q).1 (hw a ha)) (fun a ha => C.avM a (hw a ha)) (fun a ha => C.avNew a (hw a ha)), vs, ⟨n, hk _ _ (hA D hD).2 h2⟩, h3.mono fun a o e _ => ⟨hk a o (fun hm => (h1 a e.ok).1 (hw a hm)) e.get, e.ok⟩⟩
  · obtain ⟨hh, tk', rfl, hk'⟩ := C.kp
    exact ⟨h', tk, rfl, fun b o e => hk b o (fun hm => by rw [C.avNew b (hw b hm)] at e; cases e) (hk' b o e)⟩
  · obtain ⟨o, e⟩ := C.avAl a (hA a ha).1; exact ⟨o, hk a o (hA a ha).2 e⟩
/-- the loop begins: its iterator is left alone -/
theorem CI.begun {s' : Shared} {wr : List Addr} (C : CI w s B cenv sc M Av D ρ ys s') (hn : ∀ b ∈ wr, s.heap.get? b = none) (hM : ∀ b ∈ wr, ¬ M b) (hal : ∀ b ∈ wr, ∃ o, s'.heap.get? b = some o ∧ ¬ SeqObj o) :
    CI w s B cenv sc M (fun a => Av a ∨ a ∈ wr) D ρ ys s' := by
  obtain ⟨B', h1, F, vs, hp, h3⟩ := C.ex
  have key : ∀ a o, s'.heap.get? a = some o → SeqObj o → a ∉ wr := fun a o e q hm => by
    obtain ⟨o', e', q'⟩ := hal a hm
    rw [e] at e'; cases e'; exact q' q
  refine ⟨C.g, C.kp, fun a ha => ha.elim (C.avAl a) fun hm => let ⟨o, e, _⟩ := hal a hm; ⟨o, e⟩, .inl C.avD, fun a ha => ha.elim (C.avM a) (hM a), fun a ha => ha.elim (C.avNew a) (hn a), fun a => B' a ∧ a ∉ wr, fun a ha => ⟨fun q => q.elim (h1 a ha.1).1 ha.2, (h1 a ha.1).2⟩, F.monoB fun a o e q hb => ⟨hb, key a o e q⟩, vs, hp, h3.mono fun a o e q => ⟨e.get, e.ok, key a o e.get q⟩⟩

/-- a whole level: for each item the target is stored and `rest` does g -/
theorem CI.level {R : Result → Shared → Prop} {s₀ : Shared} {elt : Expr} {gens : List Comprehension} {scope : Scope} {epos : Pos} {depth : Nat} {I : Addr} {fp wr : List Addr} {items : List PyData} {P : Nat → Value → Prop} {St : Nat → Heap → Prop} {x : Str} {px pos : Pos}
    (W : Walks prog w A I fp wr items.length P St) (rest : Sem Unit) (g : PyData → List PyData)
    (heq : compTurn (.ListComp elt gens scope epos) depth (.ref I) (.ref D) cenv = standAt pos >>= fun _ => pyNext (.ref I) >>= fun r => match r with
      | none => pure (.done .next)
      | some v => assign (.Name x px) cenv v >>= fun _ => rest >>= fun _ => again (.compLoop (.ListComp elt gens scope epos) depth (.ref I) (.ref D) cenv))
    (C : CI w s B cenv sc M Av D ρ ys s₀) (hst : St 0 s₀.heap) (hwn : ∀ b ∈ wr, s.heap.get? b = none) (hfM : ∀ b ∈ fp, ¬ M b) (hfD : ∀ b ∈ fp, b ≠ D) (hwA : ∀ b ∈ wr, ¬ Av b)
    (hwo : ∀ i h, St i h → ∀ b ∈ wr, ∃ o, h.get? b = some o ∧ ¬ SeqObj o)
    (hP : ∀ i v, P i v → ∃ d B₁, items[i]? = some d ∧ (∀ a, B₁ a → ¬ Av a ∧ Nw B s.heap a) ∧ Rd (HasB B₁ s₀.heap) v d)
    (hx : sc.lookup x = some .local ∨ (sc.lookup x = some .cell ∧ ∃ c, cenv.cells.lookup x = some c ∧ M c)) (hρ : ρ.lookup x = none)
    (hrest : ∀ d ∈ items, ∀ ys' (Av' : Addr → Prop) s' (Q : Unit → Shared → Prop), CI w s B cenv sc M Av' D (upd ρ x d) ys' s' → ys'.length ≤ ys.length + (items.flatMap g).length →
      (∀ s'', CI w s B cenv sc M Av' D (upd ρ x d) (ys' ++ g d) s'' → (∀ b o, ¬ M b → b ≠ D → s'.heap.get? b = some o → s''.heap.get? b = some o) → Q () s'') → wpAny (model prog w) A rest Q NoE s')
    (hR : ∀ s', CI w s B cenv sc M Av D ρ (ys ++ items.flatMap g) s' → (∀ b o, b ∉ wr → ¬ M b → b ≠ D → s₀.heap.get? b = some o → s'.heap.get? b = some o) → R (.ok .next) s') :
    codeAny (model prog w) A (.compLoop (.ListComp elt gens scope epos) depth (.ref I) (.ref D) cenv) R s₀ := by
  have hDw : D ∉ wr := fun hm => hwA D hm C.avD
  have hMw : ∀ b ∈ wr, ¬ M b := fun b hb => hfM b (W.sub b hb)
  have C0 := C.begun hwn hMw (hwo 0 _ hst)
  refine codeAny_level W _ pos heq (fun i s' => CI w s B cenv sc M (fun a => Av a ∨ a ∈ wr) D ρ (ys ++ (items.take i).flatMap g) s' ∧ St i s'.heap ∧ ∀ b o, b ∉ wr → ¬ M b → b ≠ D → s₀.heap.get? b = some o → s'.heap.get? b = some o)
    ⟨by simpa using C0, hst, fun _ _ _ _ _ e => e⟩ (fun _ _ h => h.2.1) (fun i s₁ v h' tk hi hJ hv hst' hk => ?_) (fun s₁ h' tk hJ hk => ?_)
  · obtain ⟨C₁, _, kept⟩ := hJ
    obtain ⟨d, B₁, hd, hB₁, rv⟩ := hP i v hv
    have C₂ := C₁.moved (tk := tk) (fun b hb => .inr hb) hDw (fun b hb => let ⟨o, e, _⟩ := hwo _ _ hst' b hb; ⟨o, e⟩) hk
    have rv' : Rd (HasB (fun a => B₁ a ∧ a ∉ wr) h') v d := rv.mono fun a o e q => by
      have hw : a ∉ wr := fun hm => by obtain ⟨o', e', q'⟩ := hwo 0 _ hst a hm; rw [e.get] at e'; cases e'; exact q' q
      obtain ⟨B', h1, F, _⟩ := C.ex
      have hM : ¬ M a := fun hm => by obtain ⟨o', e', q'⟩ := F.mobj a hm; rw [e.get] at e'; cases e'; exact q' q
      have hD : a ≠ D := fun hq => (hB₁ a e.ok).1 (hq ▸ C.avD)
      exact ⟨hk a o hw (kept a o hw hM hD e.get), e.ok, hw⟩
    refine wpAny_bind (C₂.store hx _ (fun a ha => ⟨fun q => q.elim (hB₁ a ha.1).1 ha.2, (hB₁ a ha.1).2⟩) rv' fun s₂ hk₂ C₃ => ?_)
    have hlen : (ys ++ (items.take i).flatMap g).length ≤ ys.length + (items.flatMap g).length := by
      rw [List.length_append]
      have : items.flatMap g = (items.take i).flatMap g ++ (items.drop i).flatMap g := by rw [← List.flatMap_append, List.take_append_drop]
      rw [this, List.length_append]; omega
    refine wpAny_bind (hrest d (List.mem_of_getElem? hd) _ _ s₂ _ C₃ hlen fun s₃ C₄ hk₃ => ?_)
    refine wpAny_pure ⟨rfl, ?_, ?_, fun b o hb hM hD e => hk₃ b o hM hD (hk₂ b o hM (hk b o hb (kept b o hb hM hD e)))⟩
    · have e : (items.take (i + 1)).flatMap g = (items.take i).flatMap g ++ g d := by
        rw [List.take_succ, hd]; simp
      rw [e, ← List.append_assoc]
      exact C₄.weaken (Sub.upd hρ)
    · exact W.frame _ _ _ hst' fun b hb o e => hk₃ b o (hfM b hb) (hfD b hb) (hk₂ b o (hfM b hb) e)
  · obtain ⟨C₁, _, kept⟩ := hJ
    refine hR _ (C₁.ended (wr := wr) (fun a ha => ⟨.inl ha, fun hm => hwA a hm ha⟩) (fun b hb => .inr hb) C.avD hk |> fun c => by simpa using c) fun b o hb hM hD e => hk b o hb (kept b o hb hM hD e)
end
end Mine
end
section
open PySem PySem.W PyProof.Rows PySem.Calls
set_option Elab.async false
set_option maxRecDepth 100000
set_option linter.unusedVariables false
set_option linter.unusedSimpArgs false
namespace Mine
/-! the frame of a comprehension -/
def relab (names sc : Sc) : Sc := names.map fun (n, k) => if (k == .free && sc.lookup n == some .cell) then (n, .cell) else (n, k)
theorem relabel_names {scope : Scope} {env : Env} {B sc ρ h} (V : Vars B env sc ρ h) : (relabel scope env).names = relab scope.names sc := by
  unfold relabel relab
  simp only
  refine List.map_congr_left fun x _ => ?_
  obtain ⟨n, k⟩ := x
  simp only [V.kind, V.kindOf]
  simp
theorem lookup_relab (sc : Sc) (y : Str) : ∀ names : Sc, (relab names sc).lookup y = (names.lookup y).map fun k => if (k == .free && sc.lookup y == some .cell) then .cell else k
  | [] => rfl
  | (n, k) :: r => by
    unfold relab
    rw [List.map_cons]
    simp only
    cases hb : y == n with
    | true =>
      have : y = n := beq_iff_eq.mp hb
      subst this
      split <;> simp_all [List.lookup_cons]
    | false =>
      have ih := lookup_relab sc y r
      unfold relab at ih
      split <;> simp only [List.lookup_cons, hb] <;> exact ih
noncomputable def closeOf (cells : List (Str × Addr)) : Sc → List (Str × Addr) → List (Str × Addr)
  | [], acc => acc
  | (n, k) :: r, acc => if k == .free then closeOf cells r ((n, (cells.lookup n).getD 0) :: acc) else closeOf cells r acc
theorem closure_go {env : Env} (f : Str × NameKind → List (Str × Addr) → Sem (ForInStep (List (Str × Addr))))
    (hf : ∀ n k cs, f (n, k) cs = if (k == .free) = true then (do let a ← cellOf env n; pure (.yield ((n, a) :: cs))) else pure (.yield cs)) :
    ∀ (names : Sc) (acc : List (Str × Addr)), (∀ n, (n, NameKind.free) ∈ names → ∃ c, env.cells.lookup n = some c) → forIn names acc f = pure (closeOf env.cells names acc)
  | [], acc, _ => by rw [List.forIn_nil]; rfl
  | (n, k) :: r, acc, h => by
    rw [List.forIn_cons, hf]
    unfold closeOf
    by_cases hk : (k == .free) = true
    · rw [if_pos hk, if_pos hk]
      have hk' : k = .free := by simpa using hk
      subst hk'
      obtain ⟨c, hc⟩ := h n List.mem_cons_self
      unfold cellOf
      rw [hc]
      simp only [pure_bind]
      exact closure_go f hf r _ fun m hm => h m (List.mem_cons_of_mem _ hm)
    · rw [if_neg hk, if_neg hk, pure_bind]
      exact closure_go f hf r _ fun m hm => h m (List.mem_cons_of_mem _ hm)
theorem closureFor_pure {scope : Scope} {env : Env} (h : ∀ n, (n, NameKind.free) ∈ scope.names → ∃ c, env.cells.lookup n = some c) : closureFor scope env = pure (closeOf env.cells scope.names []) := by
  simp only [closureFor]
  rw [closure_go (env := env) _ (fun n k cs => ?_) _ _ h]
  · rfl
  · by_cases hk : (k == .free) = true
    · rw [if_pos hk]
      try simp only [hk, if_true]
    · have : (k == .free) = false := by simpa using hk
      rw [if_neg hk]
      try simp only [this, Bool.false_eq_true, if_false]
theorem lookup_closeOf (cells : List (Str × Addr)) (y : Str) : ∀ (names : Sc) (acc : List (Str × Addr)), (closeOf cells names acc).lookup y = if (y, NameKind.free) ∈ names then some ((cells.lookup y).getD 0) else acc.lookup y
  | [], acc => by simp [closeOf]
  | (n, k) :: r, acc => by
    unfold closeOf
    by_cases hk : (k == .free) = true
    · have hk' : k = .free := by simpa using hk
      subst hk'
      rw [if_pos hk, lookup_closeOf cells y r]
      by_cases hr : (y, NameKind.free) ∈ r
      · rw [if_pos hr, if_pos (List.mem_cons_of_mem _ hr)]
      · rw [if_neg hr, List.lookup_cons]
        cases hb : y == n with
        | true =>
          have : y = n := beq_iff_eq.mp hb
          subst this
          rw [if_pos List.mem_cons_self]
        | false =>
          rw [if_neg]
          intro hm
          rcases List.mem_cons.mp hm with e | hm
          · injection e with e1 _; rw [e1, beq_self_eq_true] at hb; cases hb
          · exact hr hm
    · rw [if_neg hk, lookup_closeOf cells y r]
      have : ((y, NameKind.free) ∈ (n, k) :: r) ↔ (y, NameKind.free) ∈ r := by
        constructor
        · intro hm
          rcases List.mem_cons.mp hm with e | hm
          · injection e with _ e2; rw [← e2] at hk; exact absurd rfl hk
          · exact hm
        · exact List.mem_cons_of_mem _
      simp only [this]
def cnt (names : Sc) : Nat := (names.filter (·.2 == .cell)).length
/-- own cells first, then what was handed in -/
theorem lookup_cellsFrom (y : Str) : ∀ (names : Sc) (n : Nat) (acc : List (Str × Addr)), (∀ c : Nat, (cellsFrom n names acc).lookup y = some c → ((y, NameKind.cell) ∈ names ∧ n ≤ c ∧ c < n + cnt names) ∨ acc.lookup y = some c) ∧ ((y, NameKind.cell) ∉ names → (cellsFrom n names acc).lookup y = acc.lookup y)
  | [], n, acc => ⟨fun c h => .inr h, fun _ => rfl⟩
  | (z, k) :: r, n, acc => by
    unfold cellsFrom
    by_cases hk : (k == .cell) = true
    · have hk' : k = .cell := by simpa using hk
      subst hk'
      rw [if_pos hk]
      obtain ⟨h1, h2⟩ := lookup_cellsFrom y r (n + 1) ((z, n) :: acc)
      refine ⟨fun c hc => ?_, fun hn => ?_⟩
      · rcases h1 c hc with ⟨q1, q2, q3⟩ | q
        · exact .inl ⟨List.mem_cons_of_mem _ q1, by omega, by unfold cnt at q3 ⊢; rw [List.filter_cons_of_pos (by simp), List.length_cons]; omega⟩
        · rw [List.lookup_cons] at q
          cases hb : y == z with
          | true =>
            rw [hb] at q; cases q
            have : y = z := beq_iff_eq.mp hb
            subst this
            exact .inl ⟨List.mem_cons_self, Nat.le_refl _, by unfold cnt; rw [List.filter_cons_of_pos (by simp), List.length_cons]; omega⟩
          | false => rw [hb] at q; exact .inr q
      · rw [h2 fun hm => hn (List.mem_cons_of_mem _ hm), List.lookup_cons]
        cases hb : y == z with
        | true =>
          have : y = z := beq_iff_eq.mp hb
          subst this
          exact absurd List.mem_cons_self hn
        | false => rfl
    · rw [if_neg hk]
      obtain ⟨h1, h2⟩ := lookup_cellsFrom y r n acc
      refine ⟨fun c hc => (h1 c hc).imp (fun q => ⟨List.mem_cons_of_mem _ q.1, q.2.1, by have := q.2.2; unfold cnt at this ⊢; rw [List.filter_cons_of_neg (by simpa using hk)]; exact this⟩) id, fun hn => h2 fun hm => hn (List.mem_cons_of_mem _ hm)⟩
theorem pushCells_size : ∀ (names : Sc) (h : Heap), (pushCells h names).objs.size = h.objs.size + cnt names
  | [], h => rfl
  | (_, k) :: r, h => by
    unfold pushCells
    split
    · rename_i hk
      rw [pushCells_size r, Heap.size_push]; unfold cnt; rw [List.filter_cons_of_pos (by simpa using hk), List.length_cons]; omega
    · rename_i hk
      rw [pushCells_size r]; unfold cnt; rw [List.filter_cons_of_neg (by simpa using hk)]
theorem cellsFrom_inj (n₀ : Nat) : ∀ (names : Sc) (n : Nat) (acc : List (Str × Addr)), n₀ ≤ n → (∀ (x y : Str) (c : Nat), n₀ ≤ c → acc.lookup x = some c → acc.lookup y = some c → x = y) → (∀ (y : Str) (c : Nat), acc.lookup y = some c → n₀ ≤ c → c < n) →
    ∀ (x y : Str) (c : Nat), n₀ ≤ c → (cellsFrom n names acc).lookup x = some c → (cellsFrom n names acc).lookup y = some c → x = y
  | [], n, acc, _, h1, _ => h1
  | (z, k) :: r, n, acc, hn, h1, h2 => by
    unfold cellsFrom
    split
    · refine cellsFrom_inj n₀ r (n + 1) ((z, n) :: acc) (by omega) (fun x y c hc hx hy => ?_) fun y c hy hc => ?_
      · rw [List.lookup_cons] at hx hy
        cases hbx : x == z with
        | true =>
          rw [hbx] at hx
          cases hby : y == z with
          | true => rw [beq_iff_eq.mp hbx, beq_iff_eq.mp hby]
          | false =>
            rw [hby] at hy
            have e : n = c := by simpa using hx
            have := h2 y c hy hc
            omega
        | false =>
          rw [hbx] at hx
          cases hby : y == z with
          | true =>
            rw [hby] at hy
            have e : n = c := by simpa using hy
            have := h2 x c hx hc
            omega
          | false => rw [hby] at hy; exact h1 x y c hc hx hy
      · rw [List.lookup_cons] at hy
        cases hby : y == z with
        | true => rw [hby] at hy; have e : n = c := by simpa using hy
                  omega
        | false => rw [hby] at hy; have := h2 y c hy hc; omega
    · exact cellsFrom_inj n₀ r n acc hn h1 h2
/-- what pushCells adds are cells -/
theorem pushCells_new : ∀ (names : Sc) (h : Heap) (a : Nat), h.objs.size ≤ a → a < (pushCells h names).objs.size → ∃ v, (pushCells h names).IsCell a v
  | [], h, a, h1, h2 => absurd h2 (Nat.not_lt.mpr h1)
  | (_, k) :: r, h, a, h1, h2 => by
    unfold pushCells at h2 ⊢
    split
    · rename_i hk
      rw [if_pos hk] at h2
      by_cases e : a = h.objs.size
      · subst e
        exact ⟨none, _, pushCells_keeps _ _ _ _ (Heap.get?_push_size _ rfl), rfl⟩
      · exact pushCells_new r _ a (by rw [Heap.size_push]; omega) h2
    · rename_i hk
      rw [if_neg hk] at h2
      exact pushCells_new r h a h1 h2
theorem newEnv_comp {M : Model} {A : Around} {E : Value → Shared → Prop} {s : Shared} {scope : Scope} {globals : Addr} {cl : List (Str × Addr)} {qual : Str} {env : Env} {Q : Env → Shared → Prop}
    (h : Q { scope := scope, locals := s.heap.objs.size, globals := globals, cells := cellsFrom (s.heap.objs.size + 1) scope.names cl, qual := qual, func := none, code := env.code, frame := env.frame, builtins := env.builtins }
      { s with heap := pushCells (s.heap.push { cls := .type "dict", data := .dict #[] }) scope.names }) : wpAny M A (newFunctionEnv scope globals cl [] qual none .none (some env)) Q E s := by
  simp only [newFunctionEnv, Option.isSome_some, if_true]
  refine wpAny_bind (wpAny_alloc ?_)
  refine wpAny_bind (wpAny_layCells _ (fun name kind cells => by cases hkc : kind == NameKind.cell <;> simp [hkc]) _ _ _ _ ?_)
  rw [show ({ s with heap := s.heap.push { cls := .type "dict", data := .dict #[] } } : Shared).heap.objs.size = s.heap.objs.size + 1 from Heap.size_push ..]
  simp only [List.forIn_nil]
  exact wpAny_bind (wpAny_pure (wpAny_pure h))

theorem lookup_of_mem {n : Str} {k : NameKind} : ∀ {names : Sc}, (names.map (·.1)).Nodup → (n, k) ∈ names → names.lookup n = some k
  | (m, j) :: r, hu, hm => by
    rw [List.map_cons, List.nodup_cons] at hu
    rw [List.lookup_cons]
    rcases List.mem_cons.mp hm with e | hm
    · cases e; rw [beq_self_eq_true]
    · have : (n == m) = false := by
        cases hb : n == m with
        | false => rfl
        | true => exact absurd (List.mem_map.mpr ⟨_, hm, beq_iff_eq.mp hb⟩) hu.1
      rw [this]
      exact lookup_of_mem hu.2 hm
theorem nodup_keys {n : Str} {k k' : NameKind} {names : Sc} (hu : (names.map (·.1)).Nodup) (h : (n, k) ∈ names) (h' : (n, k') ∈ names) : k = k' := by
  have h1 := lookup_of_mem hu h
  rw [lookup_of_mem hu h'] at h1
  cases h1; rfl
/-- what a comprehension takes along -/
def Cap (names : Sc) (ρ₁ ρ : Rho) : Prop := ∀ y d, ρ₁.lookup y = some d → ρ.lookup y = some d ∧ (y, NameKind.free) ∈ names
theorem Cap.nil {names : Sc} {ρ : Rho} : Cap names [] ρ := fun _ _ h => by cases h
theorem Cap.cons {names : Sc} {ρ₁ ρ : Rho} {y : Str} {d : PyData} (h1 : ρ.lookup y = some d) (h2 : (y, NameKind.free) ∈ names) (h : Cap names ρ₁ ρ) : Cap names ((y, d) :: ρ₁) ρ := fun z e he => by
  rw [List.lookup_cons] at he
  cases hb : z == y with
  | true => rw [hb] at he; cases he; rw [beq_iff_eq.mp hb]; exact ⟨h1, h2⟩
  | false => rw [hb] at he; exact h z e he
/-- the free names of a comprehension are bound, and by cells -/
def Free (names sc : Sc) (ρ : Rho) : Prop := ∀ n, (n, NameKind.free) ∈ names → (∃ d, ρ.lookup n = some d) ∧ (sc.lookup n = some .cell ∨ sc.lookup n = some .free)
theorem free_of {names sc : Sc} {ρ : Rho} (h : (names.all fun p => p.2 != .free || ((ρ.lookup p.1).isSome && (sc.lookup p.1 == some .cell || sc.lookup p.1 == some .free))) = true) : Free names sc ρ := fun n hn => by
  have := List.all_eq_true.mp h _ hn
  simp only [bne_self_eq_false, Bool.false_or, Bool.and_eq_true, Bool.or_eq_true, beq_iff_eq] at this
  exact ⟨Option.isSome_iff_exists.mp this.1, this.2⟩
theorem Free.cell {names sc : Sc} {ρ : Rho} {B env h} (f : Free names sc ρ) (V : Vars B env sc ρ h) {n : Str} (hn : (n, NameKind.free) ∈ names) : ∃ c v d, env.cells.lookup n = some c ∧ h.IsCell c (some v) ∧ ρ.lookup n = some d ∧ Rd (HasB B h) v d ∧ (sc.lookup n = some .cell ∨ (sc.lookup n = some .free ∧ (n == ("__classdict__" : Str)) = false)) := by
  obtain ⟨⟨d, hd⟩, hk⟩ := f n hn
  obtain ⟨v, r, l⟩ := V.look n d hd
  cases l with
  | loc h1 _ _ => rw [V.kindOf] at h1; rcases hk with hk | hk <;> rw [hk] at h1 <;> cases h1
  | cell h1 h2 h3 => rw [V.kindOf] at h1; exact ⟨_, v, d, h2, h3, hd, r, .inl h1⟩
  | free h1 h2 h3 h4 => rw [V.kindOf] at h1; exact ⟨_, v, d, h2, h3, hd, r, .inr ⟨h1, h4⟩⟩
theorem Free.cells {names sc : Sc} {ρ : Rho} {B env h} (f : Free names sc ρ) (V : Vars B env sc ρ h) : ∀ n, (n, NameKind.free) ∈ names → ∃ c, env.cells.lookup n = some c := fun n hn =>
  let ⟨c, _, _, h, _⟩ := f.cell V hn; ⟨c, h⟩
section
variable {prog : Program} {w : World} {A : Around}
/-- the comprehension's frame as it begins -/
theorem CI.start {s s₂ : Shared} {B : Addr → Prop} {env : Env} {sc : Sc} {ρ ρ₁ : Rho} {scope : Scope} (g : G w s.heap) (V : Vars B env sc ρ s.heap) (kp : Kp s s₂)
    (hkind : scope.kind = .function) (hu : (scope.names.map (·.1)).Nodup) (hf : Free scope.names sc ρ) (hc : Cap scope.names ρ₁ ρ) (C : Nat) (hC : C = s₂.heap.objs.size + 1) (cenv : Env)
    (he : cenv = { scope := relabel scope env, locals := C, globals := env.globals, cells := cellsFrom (C + 1) scope.names (closeOf env.cells scope.names []), qual := env.qual, func := none, code := env.code, frame := env.frame, builtins := env.builtins })
    (H : Heap) (hH : H = pushCells ((s₂.heap.push { cls := .type "list", data := .seq #[] }).push { cls := .type "dict", data := .dict #[] }) scope.names) :
    CI w s B cenv (relab scope.names sc) (fun a => @LE.le Nat _ C a ∧ a < H.objs.size) (· = s₂.heap.objs.size) s₂.heap.objs.size ρ₁ [] { s₂ with heap := H } := by
  have hz1 : (s₂.heap.push { cls := .type "list", data := .seq #[] }).objs.size = s₂.heap.objs.size + 1 := Heap.size_push ..
  have hz2 : ((s₂.heap.push { cls := .type "list", data := .seq #[] }).push { cls := .type "dict", data := .dict #[] }).objs.size = s₂.heap.objs.size + 2 := by rw [Heap.size_push, hz1]
  have hszH : H.objs.size = s₂.heap.objs.size + 2 + cnt scope.names := by rw [hH, pushCells_size, hz2]
  have keep₂ : ∀ b o, s₂.heap.get? b = some o → H.get? b = some o := fun b o e => by rw [hH]; exact pushCells_keeps _ _ _ _ (Heap.get?_push_of_some _ (Heap.get?_push_of_some _ e))
  have keep : ∀ b o, s.heap.get? b = some o → H.get? b = some o := fun b o e => keep₂ b o (kp.heap b o e)
  have hD : H.get? s₂.heap.objs.size = some { cls := .type "list", data := .seq #[] } := by rw [hH]; exact pushCells_keeps _ _ _ _ (Heap.get?_push_of_some _ (Heap.get?_push_size _ rfl))
  have hCn : H.Ns C fun _ => none := by
    rw [hH, hC, ← hz1]
    exact (Heap.Ns.new _ (.type "dict")).keeps (pushCells_keeps _ _)
  have newCell : ∀ a : Nat, s₂.heap.objs.size + 2 ≤ a → a < H.objs.size → ∃ v, H.IsCell a v := fun a h1 h2 => by
    rw [hH] at h2 ⊢
    exact pushCells_new _ _ a (by rw [hz2]; exact h1) h2
  have fresh : ∀ a : Nat, s₂.heap.objs.size ≤ a → s.heap.get? a = none := fun a ha => kp_size kp a ha
  have hcl : ∀ (y : Str) (c : Nat), cenv.cells.lookup y = some c → ((y, NameKind.cell) ∈ scope.names ∧ C + 1 ≤ c ∧ c < H.objs.size) ∨ ((y, NameKind.free) ∈ scope.names ∧ env.cells.lookup y = some c) := fun y c hy => by
    rw [he] at hy
    rcases (lookup_cellsFrom y scope.names (C + 1) _).1 c hy with q | q
    · exact .inl ⟨q.1, q.2.1, by have := q.2.2; rw [hszH]; omega⟩
    · rw [lookup_closeOf] at q
      by_cases hm : (y, NameKind.free) ∈ scope.names
      · rw [if_pos hm] at q
        obtain ⟨c', hc'⟩ := hf.cells V y hm
        rw [hc'] at q
        exact .inr ⟨hm, by rw [hc']; exact q⟩
      · rw [if_neg hm] at q; cases q
  have sN : ∀ k, scope.names.lookup k = some .free → True := fun _ _ => trivial
  have capd : ∀ y, (y, NameKind.free) ∈ scope.names → cenv.cells.lookup y = env.cells.lookup y := fun y hm => by
    have hnc : (y, NameKind.cell) ∉ scope.names := fun hm' => by
      have := nodup_keys hu hm hm'; cases this
    rw [he]
    show (cellsFrom (C + 1) scope.names _).lookup y = _
    rw [(lookup_cellsFrom y scope.names (C + 1) _).2 hnc, lookup_closeOf, if_pos hm]
    obtain ⟨c', hc'⟩ := hf.cells V y hm
    rw [hc']; rfl
  have kOf : ∀ y, cenv.kindOf y = (relab scope.names sc).lookup y := fun y => by
    unfold Env.kindOf
    rw [he]
    show (relabel scope env).names.lookup y = _
    rw [relabel_names V]
  refine ⟨g, kp.trans ⟨_, _, rfl, keep₂⟩, fun a ha => ⟨_, ha ▸ hD⟩, rfl, fun a ha hm => ?_, fun a ha => ha ▸ fresh _ (Nat.le_refl _), fun a => a ≠ s₂.heap.objs.size ∧ Nw B s.heap a, fun a ha => ha, ?_, #[], ⟨0, hD⟩, .nil⟩
  · have h1 : C ≤ a := hm.1
    have h2 : @Eq Nat a s₂.heap.objs.size := ha
    omega
  · refine ⟨⟨?_, ?_, ?_, ?_, fun y d hy => ?_⟩, ⟨_, by rw [he]; exact hCn⟩, ?_, fun a ha => ?_, fun a ha => ?_, fun y c hy => ?_, fun x y c hM hx hy => ?_, keep⟩
    · rw [he]; exact hkind
    · rw [he]; exact relabel_names V
    · rw [he]; exact V.globals
    · rw [he]; exact V.builtins
    · obtain ⟨hy, hm⟩ := hc y d hy
      obtain ⟨c, v, d', h1, h2, h3, h4, h5⟩ := hf.cell V hm
      rw [hy] at h3; cases h3
      have hne : ∀ a o, s.heap.get? a = some o → a ≠ s₂.heap.objs.size := fun a o e q => by
        have := fresh a (Nat.le_of_eq q.symm)
        rw [e] at this; cases this
      refine ⟨v, h4.mono fun a o e _ => ⟨keep a o e.get, hne a o e.get, .inl e.ok⟩, ?_⟩
      · have hl : scope.names.lookup y = some .free := lookup_of_mem hu hm
        rcases h5 with h5 | ⟨h5, h6⟩
        · exact .cell (by rw [kOf, lookup_relab, hl]; simp [h5]) (by rw [capd y hm]; exact h1) (h2.keeps keep)
        · exact .free (by rw [kOf, lookup_relab, hl]; simp [h5]) (by rw [capd y hm]; exact h1) (h2.keeps keep) h6
    · rw [he]; exact ⟨Nat.le_refl _, by show C < _; rw [hszH]; omega⟩
    · have h1 : C ≤ a := ha.1
      by_cases e : @Eq Nat a C
      · rw [e]; exact notSeq_ns hCn
      · obtain ⟨v, hv⟩ := newCell a (by omega) ha.2
        exact notSeq_cell hv
    · have h1 : C ≤ a := ha.1
      exact fresh a (by omega)
    · rcases hcl y c hy with ⟨_, q1, q2⟩ | ⟨hm, q⟩
      · refine ⟨?_, newCell c (by omega) q2, .inl ⟨by show C ≤ c; omega, q2⟩⟩
        rw [he]; exact show ¬ @Eq Nat c C by omega
      · obtain ⟨c', v, d, h1, h2, _⟩ := hf.cell V hm
        rw [h1] at q; cases q
        obtain ⟨o, h3, _⟩ := id h2
        refine ⟨?_, ⟨_, h2.keeps keep⟩, .inr ⟨o, h3⟩⟩
        rw [he]
        refine show ¬ @Eq Nat c C from fun e => ?_
        have := fresh c (by omega)
        rw [h3] at this; cases this
    · have hM1 : C ≤ c := hM.1
      rw [he] at hx hy
      refine cellsFrom_inj C scope.names (C + 1) _ (by omega) (fun x y c hc hx hy => ?_) (fun y c hy hc => ?_) x y c hM1 hx hy
      · exfalso
        rw [lookup_closeOf] at hx
        by_cases hm : (x, NameKind.free) ∈ scope.names
        · rw [if_pos hm] at hx
          obtain ⟨c', v, d, h1, h2, _⟩ := hf.cell V hm
          rw [h1] at hx
          have e : c' = c := by simpa using hx
          obtain ⟨o, h3, _⟩ := h2
          have := fresh c (by omega)
          rw [← e, h3] at this; cases this
        · rw [if_neg hm] at hx; cases hx
      · exfalso
        rw [lookup_closeOf] at hy
        by_cases hm : (y, NameKind.free) ∈ scope.names
        · rw [if_pos hm] at hy
          obtain ⟨c', v, d, h1, h2, _⟩ := hf.cell V hm
          rw [h1] at hy
          have e : c' = c := by simpa using hy
          obtain ⟨o, h3, _⟩ := h2
          have := fresh c (by omega)
          rw [← e, h3] at this; cases this
        · rw [if_neg hm] at hy; cases hy
end
end Mine
end
section
open PySem PySem.W PyProof.Rows PySem.Calls
set_option Elab.async false
set_option maxRecDepth 100000
set_option linter.unusedVariables false
set_option linter.unusedSimpArgs false
namespace Mine
def tests (ifs : List Expr) (env : Env) : Sem Bool := forIn ifs true fun c r => if r = true then do let ok ← isTrue c env (eval c env); pure (ForInStep.yield ok) else pure (ForInStep.yield r)
def emitIf (ok : Bool) (D : Addr) (elt : Expr) (env : Env) : Sem Unit := if ok = true then (do let _ ← call (.builtin "list.append") [.ref D, ← eval elt env]) else pure ()
theorem turn1 {elt iter : Expr} {x : Str} {px : Pos} {ifs : List Expr} {scope : Scope} {epos : Pos} {I D : Addr} {cenv : Env} :
  compTurn (.ListComp elt [⟨.Name x px, iter, ifs, 0⟩] scope epos) 0 (.ref I) (.ref D) cenv = standAt iter.pos >>= fun _ => pyNext (.ref I) >>= fun r => match r with
      | none => pure (.done .next)
      | some v => assign (.Name x px) cenv v >>= fun _ => (tests ifs cenv >>= fun ok => emitIf ok D elt cenv) >>= fun _ => again (.compLoop (.ListComp elt [⟨.Name x px, iter, ifs, 0⟩] scope epos) 0 (.ref I) (.ref D) cenv) := by
  rw [compTurn_list]
  refine congrArg (standAt iter.pos >>= ·) (funext fun _ => ?_)
  refine congrArg (pyNext (.ref I) >>= ·) (funext fun r => ?_)
  cases r with
  | none => rfl
  | some v =>
    show (assign (.Name x px) cenv v >>= _) = _
    refine congrArg (assign (.Name x px) cenv v >>= ·) (funext fun _ => ?_)
    rw [bind_assoc]
    refine congrArg (tests ifs cenv >>= ·) (funext fun ok => ?_)
    cases ok
    · rfl
    · rfl
theorem cellsFrom_has (x : Str) : ∀ (names : Sc) (n : Nat) (acc : List (Str × Addr)), (x, NameKind.cell) ∈ names → ∃ c : Nat, (cellsFrom n names acc).lookup x = some c ∧ n ≤ c ∧ c < n + cnt names
  | (z, k) :: r, n, acc, hm => by
    unfold cellsFrom
    by_cases hk : (k == .cell) = true
    · rw [if_pos hk]
      have hk' : k = .cell := by simpa using hk
      subst hk'
      have hcn : cnt ((z, NameKind.cell) :: r) = cnt r + 1 := by unfold cnt; rw [List.filter_cons_of_pos (by simp), List.length_cons]
      by_cases hr : (x, NameKind.cell) ∈ r
      · obtain ⟨c, h1, h2, h3⟩ := cellsFrom_has x r (n + 1) ((z, n) :: acc) hr
        exact ⟨c, h1, by omega, by omega⟩
      · have : x = z := by
          rcases List.mem_cons.mp hm with e | e
          · injection e
          · exact absurd e hr
        subst this
        exact ⟨n, by rw [(lookup_cellsFrom x r (n + 1) _).2 hr, List.lookup_cons, beq_self_eq_true], Nat.le_refl _, by omega⟩
    · rw [if_neg hk]
      have hr : (x, NameKind.cell) ∈ r := by
        rcases List.mem_cons.mp hm with e | e
        · injection e with _ e2; rw [← e2] at hk; exact absurd rfl hk
        · exact e
      have hcn : cnt ((z, k) :: r) = cnt r := by unfold cnt; rw [List.filter_cons_of_neg (by simpa using hk)]
      rw [hcn]
      exact cellsFrom_has x r n acc hr
section
variable {w : World} {k : Nat} {sc : Sc} {ρ : Rho}
def TsL (w : World) (k : Nat) (sc : Sc) (ρ : Rho) (ifs : List Expr) (b : Bool) : Prop :=
  ∀ (prog : Program) (A : Around) (s : Shared) (env : Env) (B : Addr → Prop), Rm k A → G w s.heap → Vars B env sc ρ s.heap → wpAny (model prog w) A (tests ifs env) (fun b' s' => Kp s s' ∧ b' = b) NoE s
theorem TsL.nil : TsL w k sc ρ [] true := fun _ _ _ _ _ _ _ _ => wpAny_tests_nil ⟨Kp.rfl', rfl⟩
theorem TsL.one {c : Expr} {b : Bool} (h : Ts w k sc ρ c b) : TsL w k sc ρ [c] b := fun prog A s env B R g V => wpAny_tests_one (h prog A s env B R g V)
variable {prog : Program} {A : Around}
/-- the last level's turn: tests, then the item -/
theorem CI.emit {s : Shared} {B : Addr → Prop} {cenv : Env} {M Av : Addr → Prop} {D : Addr} {ys : List PyData} {s' : Shared} {ifs : List Expr} {elt : Expr} {p : Bool} {d : PyData} {Q : Unit → Shared → Prop}
    (C : CI w s B cenv sc M Av D ρ ys s') (R : Rm k A) (ht : TsL w k sc ρ ifs p) (he : p = true → Ev w k sc ρ elt d) (hl : ys.length ≤ sizeLine)
    (h : ∀ s'', CI w s B cenv sc M Av D ρ (ys ++ if p then [d] else []) s'' → (∀ b o, ¬ M b → b ≠ D → s'.heap.get? b = some o → s''.heap.get? b = some o) → Q () s'') :
    wpAny (model prog w) A (tests ifs cenv >>= fun ok => emitIf ok D elt cenv) Q NoE s' := by
  obtain ⟨B', h1, F, vs, ⟨n, h2⟩, h3⟩ := id C.ex
  refine wpAny_bind (wpAny_mono (ht prog A s' cenv B' R (C.g.keeps C.kp.heap) F.vars) (fun ok s₁ hv => ?_) fun _ _ e => e)
  obtain ⟨kp, rfl⟩ := hv
  have C₁ := C.next kp
  cases ok with
  | false =>
    refine wpAny_pure (h s₁ ?_ fun b o _ _ e => kp.heap b o e)
    simpa using C₁
  | true =>
    refine C₁.append R (he rfl) hl fun s₂ hk C₂ => h s₂ (by simpa using C₂) fun b o _ hb e => hk b o hb (kp.heap b o e)

theorem startTwice {R : Result → Shared → Prop} {s : Shared} {elt iter : Expr} {x : Str} {px : Pos} {ifs : List Expr} {rest : List Comprehension} {scope : Scope} {epos : Pos} {I : Addr} {acc : Value} {cenv : Env} {fp wr : List Addr} {n : Nat} {P : Nat → Value → Prop} {St : Nat → Heap → Prop}
    (W : Walks prog w A I fp wr n P St) (hst : St 0 s.heap) (h : codeAny (model prog w) A (.compLoop (.ListComp elt (⟨.Name x px, iter, ifs, 0⟩ :: rest) scope epos) 0 (.ref I) acc cenv) R s) :
    codeAny (model prog w) A (.compStart (.ListComp elt (⟨.Name x px, iter, ifs, 0⟩ :: rest) scope epos) 0 (.ref I) acc cenv) R s :=
  codeAny_compStart_list h (W.self 0 s _ _ hst h)

/-- what stands when a comprehension has run -/
structure CompEnd (w : World) (s : Shared) (B : Addr → Prop) (res : List PyData) (D C : Addr) (s' : Shared) : Prop where
  kp : Kp s s'
  dn : s.heap.get? D = none
  cn : s.heap.get? C = none
  ne : D ≠ C
  ns : ∃ m, s'.heap.Ns C m
  rd : Rd (HasB (Nw B s.heap) s'.heap) (.ref D) (.list res)
theorem CI.fin {s : Shared} {B : Addr → Prop} {cenv : Env} {sc' : Sc} {M Av : Addr → Prop} {D : Addr} {ρ' : Rho} {ys : List PyData} {s' : Shared} (C : CI w s B cenv sc' M Av D ρ' ys s') : CompEnd w s B ys D cenv.locals s' := by
  obtain ⟨B', h1, F, vs, ⟨n, h2⟩, h3⟩ := C.ex
  exact ⟨C.kp, C.avNew _ C.avD, F.mnew _ F.mloc, fun e => C.avM _ C.avD (e ▸ F.mloc), F.ns, .list ⟨h2, .inr (C.avNew _ C.avD)⟩ (h3.mono fun a o e _ => ⟨e.get, (h1 a e.ok).2⟩)⟩
theorem flatMap_if {α β : Type} (p : α → Bool) (f : α → β) : ∀ l : List α, (l.flatMap fun d => if p d then [f d] else []) = (l.filter p).map f
  | [] => rfl
  | a :: l => by
    rw [List.flatMap_cons, flatMap_if p f l, List.filter_cons]
    by_cases h : p a = true
    · rw [if_pos h, if_pos h]; rfl
    · rw [if_neg h, if_neg h]; rfl
/-- a comprehension with one for -/
theorem comp1 {RR : Value → Addr → Result → Shared → Prop} {s : Shared} {B : Addr → Prop} {env : Env} {elt iter : Expr} {x : Str} {px : Pos} {ifs : List Expr} {scope : Scope} {epos : Pos} {items : List PyData} {ρ₁ : Rho} {p : PyData → Bool} {f : PyData → PyData}
    (R : Rm k A) (g : G w s.heap) (V : Vars B env sc ρ s.heap) (hit : It w k sc ρ iter items) (hlen : items.length ≤ sizeLine)
    (hkind : scope.kind = .function) (hu : (scope.names.map (·.1)).Nodup) (hf : Free scope.names sc ρ) (hc : Cap scope.names ρ₁ ρ) (hx : scope.names.lookup x = some .local ∨ scope.names.lookup x = some .cell) (hρ : ρ₁.lookup x = none)
    (ht : ∀ d ∈ items, TsL w k (relab scope.names sc) (upd ρ₁ x d) ifs (p d)) (he : ∀ d ∈ items, p d = true → Ev w k (relab scope.names sc) (upd ρ₁ x d) elt (f d))
    (hRR : ∀ D C s', CompEnd w s B ((items.filter p).map f) D C s' → RR (.ref D) C (.ok .next) s') :
    wpAny (model prog w) A (eval iter env) (fun xv s₁ => wpAny (model prog w) A (pyIter xv) (fun it s₂ => wpAny (model prog w) A (newList []) (fun acc s₃ =>
      wpAny (model prog w) A (newFunctionEnv scope env.globals (closeOf env.cells scope.names []) [] env.qual none .none (some env)) (fun cenv s₄ =>
        codeAny (model prog w) A (.compStart (.ListComp elt [⟨.Name x px, iter, ifs, 0⟩] scope epos) 0 it acc { cenv with scope := relabel scope env }) (RR acc cenv.locals) s₄) NoE s₃) NoE s₂) NoE s₁) NoE s := by
  refine wpAny_mono (hit prog A s env B R g V) (fun xv s₁ h₁ => ?_) fun _ _ e => e
  refine wpAny_mono h₁.2 (fun it s₂ h₂ => ?_) fun _ _ e => e
  obtain ⟨kp, I, fp, wr, P, St, rfl, W, hst, hfp, hwn, hfs, hwo, hP⟩ := h₂
  refine wpAny_newObj_type (newEnv_comp ?_)
  have hz1 : (s₂.heap.push { cls := .type "list", data := .seq #[] }).objs.size = s₂.heap.objs.size + 1 := Heap.size_push ..
  dsimp only
  generalize hH : pushCells ((s₂.heap.push { cls := .type "list", dict := none, data := .seq ([] : List Value).toArray }).push { cls := .type "dict", data := .dict #[] }) scope.names = H
  have hC0 : (s₂.heap.push { cls := .type "list", dict := none, data := .seq ([] : List Value).toArray }).objs.size = s₂.heap.objs.size + 1 := Heap.size_push ..
  rw [hC0]
  have C := CI.start g V kp hkind hu hf hc (s₂.heap.objs.size + 1) rfl _ rfl H hH.symm
  have hHs : H.objs.size = s₂.heap.objs.size + 1 + 1 + cnt scope.names := by rw [← hH, pushCells_size, Heap.size_push, hC0]
  have keep₂ : ∀ b o, s₂.heap.get? b = some o → H.get? b = some o := fun b o e => by rw [← hH]; exact pushCells_keeps _ _ _ _ (Heap.get?_push_of_some _ (Heap.get?_push_of_some _ e))
  have hst' : St 0 H := W.frame _ _ _ hst fun b _ o e => keep₂ b o e
  have hfM : ∀ b ∈ fp, ¬ (@LE.le Nat _ (s₂.heap.objs.size + 1) b ∧ b < H.objs.size) := fun b hb q => by
    have h1 : @LT.lt Nat _ b s₂.heap.objs.size := hfp b hb
    have h2 := q.1
    omega
  have hfD : ∀ b ∈ fp, b ≠ s₂.heap.objs.size := fun b hb => Nat.ne_of_lt (hfp b hb)
  refine startTwice W hst' (CI.level W _ (fun d => if p d then [f d] else []) turn1 C hst' hwn hfM hfD (fun b hb q => hfD b (W.sub b hb) q) hwo (fun i v hv => ?_) ?_ hρ (fun d hd ys' Av' s' Q C' hl hQ => ?_) fun s' C' _ => ?_)
  · obtain ⟨d, hd, rd⟩ := hP i v hv
    refine ⟨d, fun a => a ≠ s₂.heap.objs.size ∧ Nw B s.heap a, hd, fun a ha => ha, rd.mono fun a o e _ => ⟨keep₂ a o e.get, Nat.ne_of_lt (Heap.lt_size e.get), e.ok⟩⟩
  · rcases hx with hx | hx
    · exact .inl (by rw [lookup_relab, hx]; rfl)
    · refine .inr ⟨by rw [lookup_relab, hx]; rfl, ?_⟩
      obtain ⟨c, h1, h2, h3⟩ := cellsFrom_has x scope.names (s₂.heap.objs.size + 1 + 1) (closeOf env.cells scope.names []) (mem_of_lookup hx)
      exact ⟨c, h1, by show s₂.heap.objs.size + 1 ≤ c; omega, by rw [hHs]; exact h3⟩
  · refine C'.emit R (ht d hd) (he d hd) ?_ hQ
    rw [flatMap_if] at hl
    have h1 := List.length_filter_le p items
    rw [List.length_map, List.length_nil] at hl
    omega
  · refine hRR _ _ s' ?_
    have C'' := C'
    rw [List.nil_append, flatMap_if] at C''
    exact C''.fin
/-- [elt for x in iter if test] -/
theorem Ev.comp {elt iter : Expr} {x : Str} {px : Pos} {ifs : List Expr} {scope : Scope} {epos : Pos} {items : List PyData} (ρ₁ : Rho) (p : PyData → Bool) (f : PyData → PyData)
    (hit : It w k sc ρ iter items) (hlen : items.length ≤ sizeLine)
    (hkind : scope.kind = .function) (hu : (scope.names.map (·.1)).Nodup) (hf : Free scope.names sc ρ) (hc : Cap scope.names ρ₁ ρ) (hx : scope.names.lookup x = some .local ∨ scope.names.lookup x = some .cell) (hρ : ρ₁.lookup x = .none)
    (ht : ∀ d ∈ items, TsL w k (relab scope.names sc) (upd ρ₁ x d) ifs (p d)) (he : ∀ d ∈ items, p d = true → Ev w k (relab scope.names sc) (upd ρ₁ x d) elt (f d))
    (hs : ∀ env x, foldedSetIterable iter env x = pure x := by intro _ _; rfl) :
    Ev w k sc ρ (.ListComp elt [⟨.Name x px, iter, ifs, 0⟩] scope epos) (.list ((items.filter p).map f)) := fun prog A s env B R g V => by
  rw [eval_ListComp]
  refine wpAny_comprehension_free (use := .none) rfl (hs env) (closureFor_pure (hf.cells V)) hkind (fun y hy hl => hl ▸ lookup_of_mem hu hy) ?_
  refine comp1 R g V hit hlen hkind hu hf hc hx hρ ht he (RR := fun acc C => compPost (model prog w) A NoE .none (Post B s _) acc C) fun D C s' e => ?_
  obtain ⟨m, hn⟩ := e.ns
  refine ⟨m, hn, fun h' hs' => ⟨?_, ?_⟩⟩
  · obtain ⟨hh, tk, rfl, hk⟩ := e.kp
    exact ⟨h', tk, rfl, fun b o q => hs'.extBut b o (fun hb => by rw [hb, e.cn] at q; cases q) (hk b o q)⟩
  · refine e.rd.mono fun a o q sq => ⟨hs'.extBut a o (fun hb => ?_) q.get, q.ok⟩
    subst hb
    obtain ⟨o', q1, q2⟩ := notSeq_ns hn
    rw [q.get] at q1; cases q1; exact q2 sq
end
end Mine
end
section
open PySem PySem.W PyProof.Rows PySem.Calls
set_option Elab.async false
set_option maxRecDepth 100000
set_option linter.unusedVariables false
set_option linter.unusedSimpArgs false
namespace Mine
/-! statements -/
abbrev Own := Option (Str × List PyData)
/-- a frame at a statement: its names, and one list of its own that it may change -/
structure Fs (h₀ : Heap) (B : Addr → Prop) (env : Env) (sc : Sc) (M : Addr → Prop) (ow : Own) (oa : Addr) (ρ : Rho) (s : Shared) : Prop where
  fm : Fm h₀ B env sc M ρ s.heap
  cl : ∀ a, s.heap.get? a = none → B a
  oc : ∀ x, sc.lookup x = some .cell → ∃ c, env.cells.lookup x = some c ∧ M c
  own : ∀ x xs, ow = some (x, xs) → ∃ vs, Ld env s.heap x (.ref oa) ∧ s.heap.PlainList oa vs ∧ Rds (HasB B s.heap) vs.toList xs ∧ ¬ B oa ∧ ¬ M oa ∧ h₀.get? oa = none
structure Kb (M : Addr → Prop) (s s' : Shared) : Prop where
  ex : ∃ h' tk, s' = { s with heap := h', toks := tk } ∧ ∀ b o, ¬ M b → s.heap.get? b = some o → h'.get? b = some o
theorem Kb.heap {M : Addr → Prop} {s s' : Shared} (x : Kb M s s') : ∀ b o, ¬ M b → s.heap.get? b = some o → s'.heap.get? b = some o := by
  obtain ⟨h1, t1, rfl, k1⟩ := x
  exact k1
theorem Kb.of {M : Addr → Prop} {s s' : Shared} (x : Kp s s') : Kb M s s' := by
  obtain ⟨h1, t1, e, k1⟩ := x
  exact ⟨h1, t1, e, fun b o _ q => k1 b o q⟩
theorem Kb.trans {M : Addr → Prop} {s s' s'' : Shared} (x : Kb M s s') (y : Kb M s' s'') : Kb M s s'' := by
  obtain ⟨h1, t1, rfl, k1⟩ := x
  obtain ⟨h2, t2, rfl, k2⟩ := y
  exact ⟨h2, t2, rfl, fun b o hb e => k2 b o hb (k1 b o hb e)⟩
theorem Kb.mono {M M' : Addr → Prop} {s s' : Shared} (x : Kb M s s') (h : ∀ a, M a → M' a) : Kb M' s s' := by
  obtain ⟨h1, t1, e, k1⟩ := x
  exact ⟨h1, t1, e, fun b o hb q => k1 b o (fun hm => hb (h b hm)) q⟩
inductive Out where
  | nxt (ow : Own) (ρ : Rho)
  | ret (d : PyData)
/-- the objects that a statement may change -/
def MO (M : Addr → Prop) (ow : Own) (oa a : Addr) : Prop := M a ∨ (ow.isSome = true ∧ a = oa)
def SP (h₀ : Heap) (B : Addr → Prop) (env : Env) (sc : Sc) (M : Addr → Prop) (ow₀ : Own) (oa : Addr) (s : Shared) : Out → Flow → Shared → Prop
  | .nxt ow ρ, fl, s' => fl = .next ∧ Kb (MO M ow₀ oa) s s' ∧ Fs h₀ B env sc M ow oa ρ s'
  | .ret d, fl, s' => ∃ v, fl = .ret v ∧ Kb (MO M ow₀ oa) s s' ∧ Rd (HasB B s'.heap) v d
def Ex (w : World) (k : Nat) (sc : Sc) (ow : Own) (ρ : Rho) (st : Stmt) (o : Out) : Prop :=
  ∀ (prog : Program) (A : Around) (s : Shared) (env : Env) (B : Addr → Prop) (h₀ : Heap) (M : Addr → Prop) (oa : Addr), Rm k A → G w h₀ → Fs h₀ B env sc M ow oa ρ s → wpAny (model prog w) A (exec st env) (SP h₀ B env sc M ow oa s o) NoE s
def Exs (w : World) (k : Nat) (sc : Sc) (ow : Own) (ρ : Rho) (sts : List Stmt) (o : Out) : Prop :=
  ∀ (prog : Program) (A : Around) (s : Shared) (env : Env) (B : Addr → Prop) (h₀ : Heap) (M : Addr → Prop) (oa : Addr), Rm k A → G w h₀ → Fs h₀ B env sc M ow oa ρ s → wpAny (model prog w) A (execs sts env) (SP h₀ B env sc M ow oa s o) NoE s
section
variable {w : World} {k : Nat} {sc : Sc} {ow : Own} {oa : Addr} {ρ : Rho} {h₀ : Heap} {B : Addr → Prop} {env : Env} {M : Addr → Prop} {s : Shared}
theorem Fs.g {s : Shared} (F : Fs h₀ B env sc M ow oa ρ s) (g : G w h₀) : G w s.heap := g.keeps F.fm.base
theorem Fs.nwB (F : Fs h₀ B env sc M ow oa ρ s) {a : Addr} (h : Nw B s.heap a) : B a := h.elim id (F.cl a)
theorem Fs.next {s' : Shared} (F : Fs h₀ B env sc M ow oa ρ s) (kp : Kp s s') : Fs h₀ B env sc M ow oa ρ s' where
  fm := (F.fm.next kp).monoB fun a o _ _ h => F.nwB h
  cl := fun a ha => F.cl a (kp_none kp ha)
  oc := F.oc
  own := fun x xs e => let ⟨vs, h1, ⟨n, h2⟩, h3, h4⟩ := F.own x xs e; ⟨vs, h1.keeps kp.heap, ⟨n, kp.heap _ _ h2⟩, h3.mono fun b o q _ => ⟨kp.heap _ _ q.get, q.ok⟩, h4⟩
theorem Fs.weaken {ρ' : Rho} (F : Fs h₀ B env sc M ow oa ρ s) (hs : Sub ρ' ρ) : Fs h₀ B env sc M ow oa ρ' s := ⟨F.fm.weaken hs, F.cl, F.oc, F.own⟩
theorem Fs.rd {s' : Shared} (F : Fs h₀ B env sc M ow oa ρ s) {v : Value} {d : PyData} (r : Rd (HasB (Nw B s.heap) s'.heap) v d) : Rd (HasB B s'.heap) v d := r.mono fun a o e _ => ⟨e.get, F.nwB e.ok⟩
theorem SP.pre {ow₀ : Own} {s₁ : Shared} {o : Out} {fl : Flow} {s' : Shared} (kb : Kb (MO M ow₀ oa) s s₁) (x : SP h₀ B env sc M ow₀ oa s₁ o fl s') : SP h₀ B env sc M ow₀ oa s o fl s' := by
  cases o with
  | nxt ow ρ => exact ⟨x.1, kb.trans x.2.1, x.2.2⟩
  | ret d => obtain ⟨v, h1, h2, h3⟩ := x; exact ⟨v, h1, kb.trans h2, h3⟩
theorem Exs.nil : Exs w k sc ow ρ [] (.nxt ow ρ) := fun _ _ _ _ _ _ _ _ _ _ F => wpAny_execs_nil ⟨rfl, .of Kp.rfl', F⟩
theorem MO.same {ow' : Own} (h : ow.isSome = ow'.isSome) : MO M ow oa = MO M ow' oa := by funext a; unfold MO; rw [h]
theorem SP.chg {ow₀ ow₁ : Own} (h : ow₀.isSome = ow₁.isSome) {o : Out} {fl : Flow} {s' : Shared} (x : SP h₀ B env sc M ow₀ oa s o fl s') : SP h₀ B env sc M ow₁ oa s o fl s' := by
  cases o with
  | nxt ow ρ => exact ⟨x.1, MO.same (M := M) (oa := oa) h ▸ x.2.1, x.2.2⟩
  | ret d => obtain ⟨v, h1, h2, h3⟩ := x; exact ⟨v, h1, MO.same (M := M) (oa := oa) h ▸ h2, h3⟩
theorem Exs.cons {st : Stmt} {rest : List Stmt} {ow' : Own} {ρ' : Rho} {o : Out} (h : Ex w k sc ow ρ st (.nxt ow' ρ')) (hs : Exs w k sc ow' ρ' rest o) (hw : ow.isSome = ow'.isSome := by rfl) : Exs w k sc ow ρ (st :: rest) o := fun prog A s env B h₀ M oa R g F =>
  wpAny_execs_cons (wpAny_mono (h prog A s env B h₀ M oa R g F) (fun fl s₁ h₁ => by
    obtain ⟨rfl, kb, F₁⟩ := h₁
    exact wpAny_mono (hs prog A s₁ env B h₀ M oa R g F₁) (fun _ _ h₂ => .pre kb (.chg hw.symm h₂)) fun _ _ x => x) fun _ _ x => x)
theorem Exs.ret {st : Stmt} {rest : List Stmt} {d : PyData} (h : Ex w k sc ow ρ st (.ret d)) : Exs w k sc ow ρ (st :: rest) (.ret d) := fun prog A s env B h₀ M oa R g F =>
  wpAny_execs_cons (wpAny_mono (h prog A s env B h₀ M oa R g F) (fun fl s₁ h₁ => by
    obtain ⟨v, rfl, h₂⟩ := h₁
    exact ⟨v, rfl, h₂⟩) fun _ _ x => x)
theorem Exs.weaken {sts : List Stmt} {ow' : Own} {ρ₁ ρ₂ : Rho} (h : Exs w k sc ow ρ sts (.nxt ow' ρ₁)) (hs : Sub ρ₂ ρ₁) : Exs w k sc ow ρ sts (.nxt ow' ρ₂) := fun prog A s env B h₀ M oa R g F =>
  wpAny_mono (h prog A s env B h₀ M oa R g F) (fun fl s' h' => ⟨h'.1, h'.2.1, h'.2.2.weaken hs⟩) fun _ _ x => x
theorem Exs.pre {sts : List Stmt} {ρ' : Rho} {o : Out} (h : Exs w k sc ow ρ' sts o) (hs : Sub ρ' ρ) : Exs w k sc ow ρ sts o := fun prog A s env B h₀ M oa R g F => h prog A s env B h₀ M oa R g (F.weaken hs)
/-- an expression at a statement -/
theorem Fs.ev {prog : Program} {A : Around} {e : Expr} {d : PyData} {Q : Value → Shared → Prop} (F : Fs h₀ B env sc M ow oa ρ s) (R : Rm k A) (g : G w h₀) (he : Ev w k sc ρ e d)
    (h : ∀ v s', Kp s s' → Fs h₀ B env sc M ow oa ρ s' → Rd (HasB B s'.heap) v d → Q v s') : wpAny (model prog w) A (eval e env) Q NoE s :=
  wpAny_mono (he prog A s env B R (F.g g) F.fm.vars) (fun v s' h' => h v s' h'.1 (F.next h'.1) (F.rd h'.2)) fun _ _ x => x
/-- the own list beside the names -/
def full : Own → Rho → Rho
  | none, ρ => ρ
  | some (x, xs), ρ => (x, .list xs) :: ρ
theorem Fs.full (F : Fs h₀ B env sc M ow oa ρ s) : Vars (fun _ => True) env sc (full ow ρ) s.heap := by
  have V := F.fm.vars.monoB (B' := fun _ => True) fun _ _ _ _ _ => trivial
  cases ow with
  | none => exact V
  | some p =>
    obtain ⟨x, xs⟩ := p
    refine ⟨V.kind, V.names, V.globals, V.builtins, fun y d hy => ?_⟩
    rw [show Mine.full (some (x, xs)) ρ = (x, .list xs) :: ρ from rfl, List.lookup_cons] at hy
    cases hb : y == x with
    | true =>
      rw [hb] at hy; cases hy
      obtain ⟨vs, h1, ⟨n, h2⟩, h3, _⟩ := F.own x xs rfl
      rw [beq_iff_eq.mp hb]
      exact ⟨_, .list ⟨h2, trivial⟩ (h3.mono fun b o q _ => ⟨q.get, trivial⟩), h1⟩
    | false => rw [hb] at hy; exact V.look y d hy
theorem Fs.ts {prog : Program} {A : Around} {e : Expr} {b : Bool} {Q : Bool → Shared → Prop} (F : Fs h₀ B env sc M ow oa ρ s) (R : Rm k A) (g : G w h₀) (he : Ts w k sc (Mine.full ow ρ) e b)
    (h : ∀ s', Kp s s' → Fs h₀ B env sc M ow oa ρ s' → Q b s') : wpAny (model prog w) A (isTrue e env (eval e env)) Q NoE s :=
  wpAny_mono (he prog A s env _ R (F.g g) F.full) (fun v s' h' => by obtain ⟨kp, rfl⟩ := h'; exact h s' kp (F.next kp)) fun _ _ x => x
/-- a store of a name that is not the own list's -/
theorem Fs.store {prog : Program} {A : Around} {E : Value → Shared → Prop} {x : Str} {v : Value} {d : PyData} {Q : Unit → Shared → Prop} (F : Fs h₀ B env sc M ow oa ρ s) (hx : sc.lookup x = some .local ∨ sc.lookup x = some .cell)
    (ho : ∀ y ys, ow = some (y, ys) → (y == x) = false) (r : Rd (HasB B s.heap) v d) (h : ∀ s', Kb M s s' → Fs h₀ B env sc M ow oa (upd ρ x d) s' → Q () s') : wpAny (model prog w) A (storeName env x v) Q E s := by
  refine Fm.store F.fm (hx.imp id fun hx => ⟨hx, F.oc x hx⟩) r fun h' tk hk hld hnone _ F' => h _ ⟨h', tk, rfl, hk⟩ ⟨F', fun a ha => F.cl a (hnone a ha), F.oc, fun y ys e => ?_⟩
  obtain ⟨vs, h1, ⟨n, h2⟩, h3, h4, h5, h6⟩ := F.own y ys e
  refine ⟨vs, hld y _ (ho y ys e) h1, ⟨n, hk _ _ h5 h2⟩, h3.mono fun b o q sq => ⟨hk b o (fun hm => ?_) q.get, q.ok⟩, h4, h5, h6⟩
  obtain ⟨o', q1, q2⟩ := F.fm.mobj b hm
  rw [q.get] at q1; cases q1; exact q2 sq
end
end Mine
end
section
open PySem PySem.W PyProof.Rows PySem.Calls
set_option Elab.async false
set_option maxRecDepth 100000
set_option linter.unusedVariables false
set_option linter.unusedSimpArgs false
namespace Mine
def notOwn (ow : Own) (x : Str) : Bool := match ow with
  | none => true
  | some (y, _) => !(y == x)
theorem notOwn_of {ow : Own} {x : Str} (h : notOwn ow x = true) : ∀ y ys, ow = some (y, ys) → (y == x) = false := fun y ys e => by subst e; simpa [notOwn] using h
theorem Kb.toMO {M : Addr → Prop} {ow : Own} {oa : Addr} {s s' : Shared} (x : Kb M s s') : Kb (MO M ow oa) s s' := x.mono fun _ h => .inl h
section
variable {w : World} {k : Nat} {sc : Sc} {ow : Own} {ρ : Rho}
def stores (sc : Sc) (x : Str) : Prop := sc.lookup x = some .local ∨ sc.lookup x = some .cell
/-- x = e -/
theorem Ex.assign {x : Str} {px pos : Pos} {e : Expr} {d : PyData} (he : Ev w k sc ρ e d) (hx : stores sc x) (ho : notOwn ow x = true := by rfl)
    (hs : ∀ env : Env, (∀ y, env.kindOf y = sc.lookup y) → swapsWith e (some (.Name x px)) pos.line env = pure false := by intro _ _; rfl) : Ex w k sc ow ρ (.Assign [.Name x px] e pos) (.nxt ow (upd ρ x d)) := fun prog A s env B h₀ M oa R g F => by
  refine wpAny_Assign_Name (F.ev R g he fun v s₁ kp F₁ r => ?_) (hs env F.fm.vars.kindOf)
  exact F₁.store hx (notOwn_of ho) r fun s₂ kb F₂ => ⟨rfl, (Kb.of kp).trans kb.toMO, F₂⟩
theorem swaps_cell {elt : Expr} {gens : List Comprehension} {scope : Scope} {p q : Pos} {t : Str} {line : Nat} (hk : sc.lookup t = some .cell) : ∀ env : Env, (∀ y, env.kindOf y = sc.lookup y) → swapsWith (.ListComp elt gens scope p) (some (.Name t q)) line env = pure false := fun env h => by
  show (pure (env.blockKind == .function && env.kindOf t == some .local && q.line == p.line && !(scope.names.any fun (n, k) => n == t && (k == .local || k == .cell))) : Sem Bool) = pure false
  rw [h, hk]
  have e : ((some NameKind.cell : Option NameKind) == some NameKind.local) = false := rfl
  rw [e, Bool.and_false, Bool.false_and, Bool.false_and]
theorem swaps_local {elt : Expr} {gens : List Comprehension} {scope : Scope} {p q : Pos} {t : Str} {line : Nat} {env : Env} (hb : env.scope.kind = .function) (hk : env.kindOf t = some .local) (hl : (q.line == p.line) = true) (hn : (scope.names.any fun (n, k) => n == t && (k == .local || k == .cell)) = false) :
    swapsWith (.ListComp elt gens scope p) (some (.Name t q)) line env = pure true := by
  show (pure (env.blockKind == .function && env.kindOf t == some .local && q.line == p.line && !(scope.names.any fun (n, k) => n == t && (k == .local || k == .cell))) : Sem Bool) = pure true
  rw [hk, hl, hn]
  unfold Env.blockKind
  rw [hb]
  rfl
/-- y = [elt for x in iter if test], y a plain local -/
theorem Ex.assignComp {elt iter : Expr} {x y : Str} {px py pos : Pos} {ifs : List Expr} {scope : Scope} {epos : Pos} {items : List PyData} (ρ₁ : Rho) (p : PyData → Bool) (f : PyData → PyData)
    (hy : sc.lookup y = some .local) (hl : (py.line == epos.line) = true) (hn : (scope.names.any fun (n, k) => n == y && (k == .local || k == .cell)) = false)
    (hit : It w k sc ρ iter items) (hlen : items.length ≤ sizeLine)
    (hkind : scope.kind = .function) (hu : (scope.names.map (·.1)).Nodup) (hf : Free scope.names sc ρ) (hc : Cap scope.names ρ₁ ρ) (hx : scope.names.lookup x = some .local ∨ scope.names.lookup x = some .cell) (hρ : ρ₁.lookup x = .none)
    (ht : ∀ d ∈ items, TsL w k (relab scope.names sc) (upd ρ₁ x d) ifs (p d)) (he : ∀ d ∈ items, p d = true → Ev w k (relab scope.names sc) (upd ρ₁ x d) elt (f d)) (ho : notOwn ow y = true := by rfl)
    (hs : ∀ env x, foldedSetIterable iter env x = pure x := by intro _ _; rfl) :
    Ex w k sc ow ρ (.Assign [.Name y py] (.ListComp elt [⟨.Name x px, iter, ifs, 0⟩] scope epos) pos) (.nxt ow (upd ρ y (.list ((items.filter p).map f)))) := fun prog A s env B h₀ M oa R g F => by
  have V := F.fm.vars
  rw [exec_Assign_Name_used _ _ _ _ (swaps_local V.kind (by rw [V.kindOf]; exact hy) hl hn)]
  refine wpAny_bind (wpAny_standAt (wpAny_bind ?_))
  show wpAny _ A (do let _ ← comprehension (.ListComp elt [⟨.Name x px, iter, ifs, 0⟩] scope epos) scope env _ (newList []) false (eval iter env) (some (PySem.assign (.Name y py) env))) _ _ s
  refine wpAny_bind (wpAny_mono (wpAny_comprehension_free (use := some (PySem.assign (.Name y py) env)) (Q := fun _ s' => SP h₀ B env sc M ow oa s (.nxt ow (upd ρ y (.list ((items.filter p).map f)))) .next s') rfl (hs env) (closureFor_pure (hf.cells V)) hkind (fun y hy hl => hl ▸ lookup_of_mem hu hy) ?_) (fun _ s' hq => wpAny_pure (wpAny_pure hq)) fun _ _ e => e)
  refine comp1 R (F.g g) V hit hlen hkind hu hf hc hx hρ ht he (RR := fun acc C => compPost (model prog w) A NoE (some (PySem.assign (.Name y py) env)) _ acc C) fun D C s' e => ?_
  have F₁ := F.next e.kp
  refine wpAny_assign_Name (F₁.store (.inl hy) (notOwn_of ho) (F.rd e.rd) fun s₂ kb F₂ => ?_)
  obtain ⟨m, hn'⟩ := e.ns
  have hCM : ¬ M C := fun hm => by
    obtain ⟨o, q, _⟩ := F.fm.mobj C hm
    rw [e.cn] at q; cases q
  have hC₂ : s₂.heap.Ns C m := hn'.at' fun o q => kb.heap C o hCM q
  obtain ⟨H2, tk2, e2, hk2⟩ := (Kb.of (M := M) e.kp).trans kb
  subst e2
  refine ⟨m, hC₂, fun h' hs' => ⟨rfl, ⟨h', tk2, rfl, fun b o hb q => hs'.extBut b o (fun hbC => by rw [hbC, e.cn] at q; cases q) (hk2 b o (fun hm => hb (.inl hm)) q)⟩, ?_⟩⟩
  have h0C : h₀.get? C = none := by
    cases q : h₀.get? C with
    | none => rfl
    | some o => have := F.fm.base C o q; rw [e.cn] at this; cases this
  have hCne : ∀ a o, H2.get? a = some o → SeqObj o → a ≠ C := fun a o q sq hb => by
    subst hb
    obtain ⟨o', q1, q2⟩ := notSeq_ns hC₂
    rw [show H2.get? a = some o' from q1] at q; cases q; exact q2 sq
  refine ⟨F₂.fm.change (· = C) (fun b o hb q => hs'.extBut b o hb q) (fun a o ha q sq => absurd ha (hCne a o q sq)) (fun a ha => ha ▸ hCM) (fun a ha => ha ▸ h0C), fun a ha => ?_, F₂.oc, fun z zs ez => ?_⟩
  · by_cases hb : a = C
    · rw [hb]; exact F.cl C e.cn
    · exact F₂.cl a (by rw [← hs'.2 a hb]; exact ha)
  · obtain ⟨vs, h1, ⟨n, h2⟩, h3, h4, h5, h6⟩ := F₂.own z zs ez
    have haC : oa ≠ C := hCne oa _ h2 ⟨.inl rfl, _, _, rfl⟩
    refine ⟨vs, ?_, ⟨n, hs'.extBut _ _ haC h2⟩, h3.mono fun b o q sq => ⟨hs'.extBut b o (hCne b o q.get sq) q.get, q.ok⟩, h4, h5, h6⟩
    have hcell : ∀ {y c u}, env.cells.lookup y = some c → H2.IsCell c u → h'.IsCell c u := fun hc q => q.sameBut hs' fun hb => by
      rcases (F.fm.cells _ _ hc).2.2 with qm | ⟨o, qm⟩
      · exact hCM (hb ▸ qm)
      · rw [hb, h0C] at qm; cases qm
    cases h1 with
    | loc q1 q2 q3 => exact .loc q1 (q2.sameBut hs' fun hb => hCM (hb ▸ F.fm.mloc)) q3
    | cell q1 q2 q3 => exact .cell q1 q2 (hcell q2 q3)
    | free q1 q2 q3 q4 => exact .free q1 q2 (hcell q2 q3) q4
end
end Mine
end
section
open PySem PySem.W PyProof.Rows PySem.Calls
set_option Elab.async false
set_option maxRecDepth 100000
set_option linter.unusedVariables false
set_option linter.unusedSimpArgs false
namespace Mine
section
variable {w : World} {k : Nat} {sc : Sc} {ow : Own} {ρ : Rho}
/-! x op= e, of ints -/
def Ip (op : Operator) (a b r : Int) : Prop := ∀ (prog : Program) (w : World) (A : Around) (s : Shared) (t u : Tok) (Q : Value → Shared → Prop) (E : Value → Shared → Prop), (∀ t' n, Q (.int r t') { s with toks := n }) → wpAny (model prog w) A (inplaceOp op (.int a t) (.int b u)) Q E s
theorem Ip.add {a b : Int} : Ip .Add a b (a + b) := fun _ _ _ _ _ _ _ _ h => P.iadd_int (h _ _)
theorem Ip.sub {a b : Int} : Ip .Sub a b (a - b) := fun _ _ _ _ _ _ _ _ h => P.isub_int (h _ _)
theorem Ip.mul {a b : Int} (hm : IntMulOk a b) : Ip .Mult a b (a * b) := fun _ _ _ _ _ _ _ _ h => P.imul_int (h _ _) hm
theorem Ip.shl {a n : Int} (hn : 0 ≤ n) (hb : (Builtin.Int.intBits a : Int) + n ≤ 2 ^ 27) : Ip .LShift a n (a * 2 ^ n.toNat) := fun _ _ _ _ _ _ _ _ h => ilshift_int hn hb (h _ _)
theorem Ip.shr {a n : Int} (hn : 0 ≤ n) : Ip .RShift a n (a.fdiv (2 ^ n.toNat)) := fun _ _ _ _ _ _ _ _ h => irshift_int hn (h _ _)
theorem Ex.aug {x : Str} {px pos : Pos} {op : Operator} {e : Expr} {a b r : Int} (ha : ρ.lookup x = some (.int a)) (he : Ev w k sc ρ e (.int b)) (ho : Ip op a b r) (hx : stores sc x) (hn : notOwn ow x = true := by rfl) :
    Ex w k sc ow ρ (.AugAssign (.Name x px) op e pos) (.nxt ow (upd ρ x (.int r))) := fun prog A s env B h₀ M oa R g F => by
  refine wpAny_AugAssign_Name (wpAny_mono (ev_load ha F.fm.vars) (fun v s₀ h => ?_) fun _ _ x => x)
  obtain ⟨rfl, r0⟩ := h
  cases r0
  refine F.ev R g he fun v s₁ kp F₁ r1 => ?_
  cases r1
  refine ho _ _ _ _ _ _ _ _ fun t' n => ?_
  exact (F₁.next (Kp.tok n)).store hx (notOwn_of hn) (.int _ _) fun s₂ kb F₂ => ⟨rfl, (Kb.of (kp.trans (Kp.tok n))).trans kb.toMO, F₂⟩
/-! if, return -/
theorem Ex.ite {t : Expr} {body orelse : List Stmt} {pos : Pos} {b : Bool} {o : Out} (ht : Ts w k sc (full ow ρ) t b) (h1 : b = true → Exs w k sc ow ρ body o) (h2 : b = false → Exs w k sc ow ρ orelse o) : Ex w k sc ow ρ (.If t body orelse pos) o := fun prog A s env B h₀ M oa R g F => by
  refine wpAny_If (F.ts R g ht fun s₁ kp F₁ => ?_)
  cases b with
  | true => exact wpAny_mono (h1 rfl prog A s₁ env B h₀ M oa R g F₁) (fun _ _ h => .pre (.of kp) h) fun _ _ x => x
  | false => exact wpAny_mono (h2 rfl prog A s₁ env B h₀ M oa R g F₁) (fun _ _ h => .pre (.of kp) h) fun _ _ x => x
theorem Ex.return {e : Expr} {pos : Pos} {d : PyData} (he : Ev w k sc ρ e d) : Ex w k sc ow ρ (.Return (some e) pos) (.ret d) := fun prog A s env B h₀ M oa R g F =>
  wpAny_Return_some (F.ev R g he fun v s₁ kp F₁ r => ⟨v, rfl, .of kp, r⟩)
theorem Ex.returnNone {pos : Pos} : Ex w k sc ow ρ (.Return none pos) (.ret .none) := fun prog A s env B h₀ M oa R g F => wpAny_Return_none ⟨_, rfl, .of Kp.rfl', .none⟩
/-! a, b = e -/
theorem kp_ext {s : Shared} {h' : Heap} (h : Heap.ExtBut s.heap.objs.size s.heap h') : Kp s { s with heap := h' } := ⟨h', s.toks, rfl, fun b o e => h b o (Nat.ne_of_lt (Heap.lt_size e)) e⟩
theorem Fs.keepR {oa : Addr} {h₀ : Heap} {B : Addr → Prop} {env : Env} {M : Addr → Prop} {s s' : Shared} (F : Fs h₀ B env sc M ow oa ρ s) (kb : Kb M s s') {v : Value} {d : PyData} (r : Rd (HasB B s.heap) v d) : Rd (HasB B s'.heap) v d :=
  r.mono fun a o e sq => ⟨kb.heap a o (fun hm => by obtain ⟨o', q1, q2⟩ := F.fm.mobj a hm; rw [e.get] at q1; cases q1; exact q2 sq) e.get, e.ok⟩
theorem Fs.store2 {oa : Addr} {prog : Program} {A : Around} {h₀ : Heap} {B : Addr → Prop} {env : Env} {M : Addr → Prop} {s : Shared} {x y : Str} {v u : Value} {a b : PyData} {f g : Value → Sem Unit} {Q : Unit → Shared → Prop} (F : Fs h₀ B env sc M ow oa ρ s)
    (hf : ∀ (s : Shared) (Q : Unit → Shared → Prop), wpAny (model prog w) A (storeName env x v) Q NoE s → wpAny (model prog w) A (f v) Q NoE s) (hg : ∀ (s : Shared) (Q : Unit → Shared → Prop), wpAny (model prog w) A (storeName env y u) Q NoE s → wpAny (model prog w) A (g u) Q NoE s)
    (hx : Mine.stores sc x) (hy : Mine.stores sc y) (hox : notOwn ow x = true) (hoy : notOwn ow y = true) (r : Rd (HasB B s.heap) v a) (r' : Rd (HasB B s.heap) u b)
    (h : ∀ s', Kb M s s' → Fs h₀ B env sc M ow oa (upd (upd ρ x a) y b) s' → Q () s') : wpAny (model prog w) A (assignInOrder [f, g] [v, u]) Q NoE s := by
  refine wpAny_bind (wpAny_holding (hf s _ (F.store hx (notOwn_of hox) r fun s₁ kb F₁ => ?_)))
  refine wpAny_bind (wpAny_holding (hg s₁ _ (F₁.store hy (notOwn_of hoy) (F.keepR kb r') fun s₂ kb₂ F₂ => ?_)))
  exact wpAny_pure (h s₂ (kb.trans kb₂) F₂)
theorem tuple2_inv {B : Addr → Prop} {h : Heap} {v : Value} {a b : PyData} (x : Rd (HasB B h) v (.tuple [a, b])) : ∃ t v₁ v₂, v = .ref t ∧ IsTup h t #[v₁, v₂] ∧ Rd (HasB B h) v₁ a ∧ Rd (HasB B h) v₂ b := by
  obtain ⟨t, items, m, rfl, _, ht, rs⟩ := x.tuple_inv
  obtain ⟨l⟩ := items
  cases rs with
  | cons r1 r2 =>
  cases r2 with
  | cons r2 r3 =>
  cases r3
  exact ⟨t, _, _, rfl, ht, r1, r2⟩
theorem Ex.tuple2 {x y : Str} {px py pt pos : Pos} {n : Nat} {e : Expr} {a b : PyData} (he : Ev w k sc ρ e (.tuple [a, b])) (hx : stores sc x) (hy : stores sc y) (hox : notOwn ow x = true := by rfl) (hoy : notOwn ow y = true := by rfl)
    (hs : ∀ env, swapsWithSole [.Tuple [.Name x px, .Name y py] n pt] e pos.line env = pure false := by intro _; rfl) (hw : ∀ env, swappedStores [.Tuple [.Name x px, .Name y py] n pt] e env = pure none := by intro _; rfl) :
    Ex w k sc ow ρ (.Assign [.Tuple [.Name x px, .Name y py] n pt] e pos) (.nxt ow (upd (upd ρ x a) y b)) := fun prog A s env B h₀ M oa R g F => by
  refine Assign_Tuple (F.ev R g he fun v s₁ kp F₁ r => ?_) (hs env) (hw env)
  obtain ⟨t, v₁, v₂, rfl, ht, r1, r2⟩ := tuple2_inv r
  show wpAny _ _ (do standAt pt; unpack (.ref t) [(false, PySem.assign (.Name x px) env), (false, PySem.assign (.Name y py) env)]) _ _ _
  refine wpAny_bind (wpAny_standAt (unpack_tuple R.hd ht rfl rfl fun h' hk => ?_))
  have kp' := kp_ext hk
  exact Fs.store2 (F₁.next kp') (fun s Q h => wpAny_assign_Name h) (fun s Q h => wpAny_assign_Name h) hx hy hox hoy (F₁.rd (r1.next kp')) (F₁.rd (r2.next kp')) fun s' kb F' => ⟨rfl, (Kb.of (kp.trans kp')).trans kb.toMO, F'⟩
/-! a, b = c, d -/
theorem swap2 {env : Env} {x y : Str} {px py pt pv : Pos} {n n' : Nat} {v1 v2 : Expr} (hb : env.blockKind = .function) (hx : env.kindOf x = some .local) (hy : env.kindOf y = some .local) (hl : (py.line == px.line) = true) (hne : (x == y) = false)
    (h1 : isStarred v1 = false) (h2 : isStarred v2 = false) (hf : [v1, v2].all (foldedForSure 8) = false) (hc : [v1, v2].all (constantsAlone 8) = false) :
    swappedStores [.Tuple [.Name x px, .Name y py] n pt] (.Tuple [v1, v2] n' pv) env = pure (some [x, y]) := by
  have hst : ([v1, v2].any fun | .Starred .. => true | _ => false) = false := by
    have e : ∀ v : Expr, isStarred v = false → (match v with | .Starred .. => true | _ => false) = false := fun v h => by cases v <;> first | rfl | cases h
    simp only [List.any_cons, List.any_nil, e v1 h1, e v2 h2, Bool.or_false]
  have hxy : ¬ x = y := fun e => by rw [e, beq_self_eq_true] at hne; cases hne
  have her : ([x, y] : List Str).eraseDups = [x, y] := by
    have hyx : (y == x) = false := by
      cases h : y == x with
      | false => rfl
      | true => exact absurd (beq_iff_eq.mp h).symm hxy
    rw [List.eraseDups_cons, List.filter_cons_of_pos (by rw [hyx]; rfl), List.filter_nil, List.eraseDups_cons]
    rfl
  have hpx : ((Expr.Name x px).pos.line) = px.line := rfl
  have hpl : py.line = px.line := by simpa using hl
  unfold swappedStores
  simp only [hf, hc, hb, hx, hy, hpx, hpl, List.length_cons, List.length_nil, List.filterMap_cons, List.filterMap_nil, List.head?_cons, Option.map_some, Option.getD_some, beq_self_eq_true, Bool.and_self, if_true, her]
  rw [if_neg (by decide)]
  split
  · rename_i e
    exact absurd (hst.symm.trans e) (by decide)
  · rfl
end
end Mine
end
section
open PySem PySem.W PyProof.Rows PySem.Calls
set_option Elab.async false
set_option maxRecDepth 100000
set_option linter.unusedVariables false
set_option linter.unusedSimpArgs false
namespace Mine
section
variable {w : World} {k : Nat} {sc : Sc} {ow : Own} {ρ : Rho}
theorem swap2no {env : Env} {x y : Str} {px py pt pv : Pos} {n n' : Nat} {v1 v2 : Expr} (hf : [v1, v2].all (foldedForSure 8) = true) :
    swappedStores [.Tuple [.Name x px, .Name y py] n pt] (.Tuple [v1, v2] n' pv) env = pure none := by
  unfold swappedStores
  simp only [hf, if_true]
  split
  · rfl
  · split
    · rfl
    · split <;> rfl
theorem kp_rd {oa : Addr} {h₀ : Heap} {B : Addr → Prop} {env : Env} {M : Addr → Prop} {s s' : Shared} (F : Fs h₀ B env sc M ow oa ρ s) (kp : Kp s s') {v : Value} {d : PyData} (r : Rd (HasB B s.heap) v d) : Rd (HasB B s'.heap) v d := F.rd (r.next kp)
/-- a, b = c, d: the last is stored first -/
theorem Ex.swap {x y : Str} {px py pt pv pos : Pos} {n n' : Nat} {e1 e2 : Expr} {a b : PyData} (h1 : Ev w k sc ρ e1 a) (h2 : Ev w k sc ρ e2 b) (hx : sc.lookup x = some .local) (hy : sc.lookup y = some .local) (hl : (py.line == px.line) = true := by rfl) (hne : (x == y) = false := by decide +kernel)
    (hs1 : isStarred e1 = false := by rfl) (hs2 : isStarred e2 = false := by rfl) (hf : [e1, e2].all (foldedForSure 8) = false := by rfl) (hc : [e1, e2].all (constantsAlone 8) = false := by rfl) (hox : notOwn ow x = true := by rfl) (hoy : notOwn ow y = true := by rfl)
    (he1 : isStarred e1 = false := by rfl) (he2 : isStarred e2 = false := by rfl)
    (hs : ∀ env, swapsWithSole [.Tuple [.Name x px, .Name y py] n pt] (.Tuple [e1, e2] n' pv) pos.line env = pure false := by intro _; rfl) :
    Ex w k sc ow ρ (.Assign [.Tuple [.Name x px, .Name y py] n pt] (.Tuple [e1, e2] n' pv) pos) (.nxt ow (upd (upd ρ y b) x a)) := fun prog A s env B h₀ M oa R g F => by
  have V := F.fm.vars
  have he : Ev w k sc ρ (.Tuple [e1, e2] n' pv) (.tuple [a, b]) := Ev.tuple (.cons h1 (.cons h2 .nil he2) he1) (show 2 ≤ 1000 by decide)
  refine Assign_Tuple_swapped (names := [x, y]) (F.ev R g he fun v s₁ kp F₁ r => ?_) (hs env) (swap2 (by unfold Env.blockKind; rw [V.kind]; rfl) (by rw [V.kindOf]; exact hx) (by rw [V.kindOf]; exact hy) hl hne hs1 hs2 hf hc)
  obtain ⟨t, v₁, v₂, rfl, ht, r1, r2⟩ := tuple2_inv r
  refine unpackItems_tuple (items := #[v₁, v₂]) R.hd ht fun h' hk => ?_
  have kp' := kp_ext hk
  show wpAny _ _ (assignInOrder [fun v => bindName env y v, fun v => bindName env x v] [v₂, v₁]) _ _ _
  exact Fs.store2 (F₁.next kp') (fun s Q h => wpAny_bindName h) (fun s Q h => wpAny_bindName h) (.inl hy) (.inl hx) hoy hox (kp_rd F₁ kp' r2) (kp_rd F₁ kp' r1) fun s' kb F' => ⟨rfl, (Kb.of (kp.trans kp')).trans kb.toMO, F'⟩
/-- a, b = constants -/
theorem Ex.consts {x y : Str} {px py pt pv pos : Pos} {n n' : Nat} {e1 e2 : Expr} {a b : PyData} (h1 : Ev w k sc ρ e1 a) (h2 : Ev w k sc ρ e2 b) (hx : stores sc x) (hy : stores sc y)
    (hf : [e1, e2].all (foldedForSure 8) = true := by rfl) (hox : notOwn ow x = true := by rfl) (hoy : notOwn ow y = true := by rfl)
    (he1 : isStarred e1 = false := by rfl) (he2 : isStarred e2 = false := by rfl)
    (hs : ∀ env, swapsWithSole [.Tuple [.Name x px, .Name y py] n pt] (.Tuple [e1, e2] n' pv) pos.line env = pure false := by intro _; rfl) :
    Ex w k sc ow ρ (.Assign [.Tuple [.Name x px, .Name y py] n pt] (.Tuple [e1, e2] n' pv) pos) (.nxt ow (upd (upd ρ x a) y b)) :=
  Ex.tuple2 (Ev.tuple (.cons h1 (.cons h2 .nil he2) he1) (show 2 ≤ 1000 by decide)) hx hy hox hoy hs fun env => swap2no hf
/-! x.append(e) on the own list -/
theorem ld_load {env : Env} {x : Str} {v : Value} {prog : Program} {A : Around} {E : Value → Shared → Prop} {s : Shared} {Q : Value → Shared → Prop} (hk : env.scope.kind = .function) (l : Ld env s.heap x v) (h : Q v s) : wpAny (model prog w) A (loadName env x) Q E s := by
  cases l with
  | loc h1 h2 h3 => exact wpAny_loadName_local hk h1 h2 h3 h
  | cell h1 h2 h3 => exact wpAny_loadName_cell hk h1 h2 h3 h
  | free h1 h2 h3 h4 => exact wpAny_loadName_free hk h1 h2 h3 h h4
/-- the own list has turned into other items -/
theorem Fs.changed {h₀ : Heap} {B : Addr → Prop} {env : Env} {M : Addr → Prop} {s : Shared} {x : Str} {xs ys : List PyData} {h' : Heap} {a : Addr} {vs : Array Value} (F : Fs h₀ B env sc M (some (x, xs)) a ρ s) (l : Ld env s.heap x (.ref a)) (hB : ¬ B a) (hM : ¬ M a) (h0 : h₀.get? a = none)
    (hp : h'.PlainList a vs) (hs : Heap.SameBut a s.heap h') (rs : Rds (HasB B s.heap) vs.toList ys) : Fs h₀ B env sc M (some (x, ys)) a ρ { s with heap := h' } := by
  have fm := F.fm.change (h' := h') (· = a) (fun b o hb e => hs.extBut b o hb e) (fun b o hb _ _ q => hB (hb ▸ q)) (fun b hb => hb ▸ hM) (fun b hb => hb ▸ h0)
  have hcell : ∀ {y c u}, env.cells.lookup y = some c → s.heap.IsCell c u → h'.IsCell c u := fun hc q => q.sameBut hs fun hb => by
    rcases (F.fm.cells _ _ hc).2.2 with qm | ⟨o, qm⟩
    · exact hM (hb ▸ qm)
    · rw [hb, h0] at qm; cases qm
  refine ⟨fm, fun b hb => F.cl b ?_, F.oc, fun y ys' e => ?_⟩
  · by_cases q : b = a
    · subst q; obtain ⟨n, e⟩ := hp; rw [hb] at e; cases e
    · rw [← hs.2 b q]; exact hb
  · cases e
    refine ⟨vs, ?_, hp, rs.mono fun b o q _ => ⟨hs.extBut b o (fun hb => hB (hb ▸ q.ok)) q.get, q.ok⟩, hB, hM, h0⟩
    cases l with
    | loc q1 q2 q3 => exact .loc q1 (q2.sameBut hs fun hb => hM (hb ▸ F.fm.mloc)) q3
    | cell q1 q2 q3 => exact .cell q1 q2 (hcell q2 q3)
    | free q1 q2 q3 q4 => exact .free q1 q2 (hcell q2 q3) q4
theorem kb_own {M : Addr → Prop} {x : Str} {xs : List PyData} {s : Shared} {h' : Heap} {a : Addr} (hs : Heap.SameBut a s.heap h') : Kb (MO M (some (x, xs)) a) s { s with heap := h' } :=
  ⟨h', s.toks, rfl, fun b o hb e => hs.extBut b o (fun q => hb (.inr ⟨rfl, q⟩)) e⟩
theorem Ex.append {x : Str} {px apos pos spos : Pos} {e : Expr} {xs : List PyData} {d : PyData} (he : Ev w k sc ρ e d) (hl : xs.length ≤ sizeLine) (hd : (x == ("__debug__" : Str)) = false := by decide +kernel)
    (hline : (apos.endLine == pos.line) = true := by rfl)
    (hse : isStarred e = false := by rfl) :
    Ex w k sc (some (x, xs)) ρ (.Expr (.Call (.Attribute (.Name x px) (Str.ofString "append") apos) [e] [] pos) spos) (.nxt (some (x, xs ++ [d])) ρ) := fun prog A s env B h₀ M oa R g F => by
  refine wpAny_Expr ?_ (by unfold interactive; rw [F.fm.vars.kind]; rfl) rfl
  obtain ⟨vs, l, ⟨n, hp⟩, rs, hB, hM, h0⟩ := F.own x xs rfl
  refine wpAny_Call_method rfl (by rw [(star_all (pos := pos) env (es := [e]) (by rw [List.all_cons, hse]; rfl)).2]; rfl) hline PySem.F.plainAttrs_list PySem.F.slot_list_append PySem.F.type_list_append (wpAny_Name (ld_load F.fm.vars.kind l ?_) hd)
  refine ⟨⟨_, hp, rfl⟩, fun b e => by cases e; exact ⟨_, hp, rfl⟩, callWith_method1 ?_ (star_cons hse env) rfl⟩
  refine wpAny_items_cons (F.ev R g he fun v s₁ kp F₁ r => wpAny_items_nil ?_) (star_cons hse env)
  obtain ⟨vs', l', hp', rs', hB', hM', h0'⟩ := F₁.own x xs rfl
  have hz : vs'.size = xs.length := by rw [← rs'.length]; simp
  refine wpAny_list_append_plain (hsz := by rw [hz]; exact hl) hp' fun h' hp'' hs' => ⟨rfl, (Kb.of kp).trans (kb_own hs'), ?_⟩
  exact F₁.changed l' hB' hM' h0' hp'' hs' (by rw [Array.toList_push]; exact rs'.snoc r)
end
end Mine
end
section
open PySem PySem.W PyProof.Rows PySem.Calls
set_option Elab.async false
set_option maxRecDepth 100000
set_option linter.unusedVariables false
set_option linter.unusedSimpArgs false
namespace Mine
section
variable {w : World} {k : Nat} {sc : Sc} {ow : Own} {ρ : Rho}
theorem Fm.rebase {h₀ : Heap} {B B'' : Addr → Prop} {env : Env} {M : Addr → Prop} {ρ'' : Rho} {h h' : Heap} {x : Str} (F : Fm h₀ B env sc M ρ h) (hk : ∀ b o, ¬ M b → h.get? b = some o → h'.get? b = some o) (hld : ∀ y u, (y == x) = false → Ld env h y u → Ld env h' y u)
    (F' : Fm h₀ B'' env sc M ρ'' h') (hx : ρ.lookup x = none) : Fm h₀ B env sc M ρ h' :=
  { F' with vars := ⟨F'.vars.kind, F'.vars.names, F'.vars.globals, F'.vars.builtins, fun y d hy => by
      obtain ⟨v, r, l⟩ := F.vars.look y d hy
      have hyx : (y == x) = false := by
        cases hb : y == x with
        | false => rfl
        | true => rw [beq_iff_eq.mp hb, hx] at hy; cases hy
      refine ⟨v, r.mono fun a o e sq => ⟨hk a o (fun hm => ?_) e.get, e.ok⟩, hld y v hyx l⟩
      obtain ⟨o', q1, q2⟩ := F.mobj a hm
      rw [e.get] at q1; cases q1; exact q2 sq⟩ }
theorem execs_append {env : Env} (b : List Stmt) : ∀ a : List Stmt, execs (a ++ b) env = (execs a env >>= fun f => match f with | .next => execs b env | f => pure f)
  | [] => by rw [List.nil_append, execs_nil, pure_bind]
  | st :: a => by
    rw [List.cons_append, execs_cons, execs_cons, bind_assoc]
    refine congrArg (exec st env >>= ·) (funext fun f => ?_)
    cases f with
    | next => exact execs_append b a
    | brk => rw [pure_bind]
    | cont => rw [pure_bind]
    | ret v => rw [pure_bind]
/-- x = [] and a run of statements that fill it; behind them it is a list like others -/
theorem Exs.ownBlock {x : Str} {px lpos pos : Pos} {blk rest : List Stmt} {xs : List PyData} {ρ₁ : Rho} {o : Out} (hx : stores sc x) (hρ : ρ.lookup x = none) (hρ₁ : ρ₁.lookup x = none)
    (hblk : Exs w k sc (some (x, [])) ρ blk (.nxt (some (x, xs)) ρ₁)) (hrest : Exs w k sc none (upd ρ₁ x (.list xs)) rest o) :
    Exs w k sc none ρ (.Assign [.Name x px] (.List [] lpos) pos :: (blk ++ rest)) o := fun prog A s env B h₀ M oa R g F => by
  refine wpAny_execs_cons (wpAny_Assign_Name (wpAny_List (wpAny_items_nil ⟨Nat.zero_le _, ?_⟩)) rfl)
  have kp : Kp s { s with heap := s.heap.push { cls := .type "list", data := .seq ([] : List Value).toArray } } := Kp.push _
  have hnew : s.heap.get? s.heap.objs.size = none := push_none _
  generalize ha : s.heap.objs.size = a at *
  have hB0 : B a := F.cl a hnew
  have h0a : h₀.get? a = none := by
    cases q : h₀.get? a with
    | none => rfl
    | some o => have := F.fm.base a o q; rw [hnew] at this; cases this
  have hMa : ¬ M a := fun hm => by obtain ⟨o, q, _⟩ := F.fm.mobj a hm; rw [hnew] at q; cases q
  have hp : (s.heap.push { cls := .type "list", data := .seq ([] : List Value).toArray }).get? a = some { cls := .type "list", data := .seq ([] : List Value).toArray } := by rw [← ha]; exact Heap.get?_push_size _ rfl
  have F1 : Fm h₀ (fun b => B b ∧ b ≠ a) env sc M ρ (s.heap.push { cls := .type "list", data := .seq ([] : List Value).toArray }) :=
    (F.fm.monoB (B' := fun b => B b ∧ b ≠ a) fun b o e _ hb => ⟨hb, fun q => by rw [q, hnew] at e; cases e⟩).change (fun _ => False) (fun b o _ e => kp.heap b o e) (fun _ _ q => q.elim) (fun _ q => q.elim) (fun _ q => q.elim)
  have F2 : Fm h₀ B env sc M ρ (s.heap.push { cls := .type "list", data := .seq ([] : List Value).toArray }) := F1.monoB fun b o _ _ hb => hb.1
  generalize hs₁ : ({ s with heap := s.heap.push { cls := .type "list", data := .seq ([] : List Value).toArray } } : Shared) = s₁ at *
  have e₁ : s.heap.push { cls := .type "list", data := .seq ([] : List Value).toArray } = s₁.heap := by rw [← hs₁]
  rw [e₁] at F1 F2 hp
  refine Fm.store F2 (hx.imp id fun hx => ⟨hx, F.oc x hx⟩) (.list ⟨hp, hB0⟩ .nil) fun h' tk hk hld hnone lx F3 => ?_
  have F4 : Fs h₀ (fun b => B b ∧ b ≠ a) env sc M (some (x, [])) a ρ { s₁ with heap := h', toks := tk } := by
    refine ⟨F1.rebase hk hld F3 hρ, fun b hb => ⟨F.cl b (kp_none kp (hnone b hb)), fun q => ?_⟩, F.oc, fun y ys e => ?_⟩
    · have := hk a _ hMa hp
      rw [q] at hb
      rw [show h'.get? a = none from hb] at this; cases this
    · cases e
      exact ⟨_, lx, ⟨_, hk _ _ hMa hp⟩, .nil, fun q => q.2 rfl, hMa, h0a⟩
  show wpAny _ _ (execs (blk ++ rest) env) _ _ _
  rw [execs_append]
  refine wpAny_bind (wpAny_mono (hblk prog A _ env _ h₀ M a R g F4) (fun fl s₃ h₃ => ?_) fun _ _ e => e)
  obtain ⟨rfl, kb, F5⟩ := h₃
  have kb1 : Kb M s { s₁ with heap := h', toks := tk } := (Kb.of kp).trans ⟨h', tk, rfl, hk⟩
  have kb2 : Kb (MO M none oa) s s₃ := by
    obtain ⟨H1, t1, q1, k1⟩ := kb1
    obtain ⟨H2, t2, q2, k2⟩ := kb
    have k1' : ∀ b o, ¬ M b → s.heap.get? b = some o → ({ s₁ with heap := h', toks := tk } : Shared).heap.get? b = some o := by rw [q1]; exact k1
    rw [q1] at q2
    refine ⟨H2, t2, q2, fun b o hb e => k2 b o (fun hm => ?_) (k1' b o (fun q => hb (.inl q)) e)⟩
    rcases hm with hm | ⟨_, hm⟩
    · exact hb (.inl hm)
    · rw [hm, hnew] at e; cases e
  obtain ⟨vs, l5, ⟨n5, hp5⟩, rs5, _, _, _⟩ := F5.own x xs rfl
  have F6 : Fs h₀ B env sc M none oa (upd ρ₁ x (.list xs)) s₃ := by
    refine ⟨{ F5.fm with vars := ⟨F5.fm.vars.kind, F5.fm.vars.names, F5.fm.vars.globals, F5.fm.vars.builtins, fun y d hy => ?_⟩ }, fun b hb => (F5.cl b hb).1, F.oc, fun y ys e => by cases e⟩
    rw [lookup_upd] at hy
    cases hb : y == x with
    | true =>
      rw [hb] at hy; cases hy
      rw [beq_iff_eq.mp hb]
      exact ⟨_, .list ⟨hp5, hB0⟩ (rs5.mono fun b o q _ => ⟨q.get, q.ok.1⟩), l5⟩
    | false =>
      rw [hb] at hy
      obtain ⟨v, r, l⟩ := F5.fm.vars.look y d hy
      exact ⟨v, r.mono fun b o q _ => ⟨q.get, q.ok.1⟩, l⟩
  exact wpAny_mono (hrest prog A s₃ env B h₀ M oa R g F6) (fun _ _ h => .pre kb2 h) fun _ _ e => e
end
end Mine
end
section
open PySem PySem.W PyProof.Rows PySem.Calls
set_option Elab.async false
set_option maxRecDepth 100000
set_option linter.unusedVariables false
set_option linter.unusedSimpArgs false
namespace Mine
section
variable {w : World} {k : Nat} {sc : Sc} {ow : Own} {oa : Addr} {ρ : Rho}
/-- objects that are none of the frame's have changed -/
theorem Fs.moved {h₀ : Heap} {B : Addr → Prop} {env : Env} {M : Addr → Prop} {s : Shared} {h' : Heap} {tk : Nat} {wr : List Addr} (F : Fs h₀ B env sc M ow oa ρ s) (hk : ∀ b o, b ∉ wr → s.heap.get? b = some o → h'.get? b = some o)
    (hB : ∀ a o, a ∈ wr → s.heap.get? a = some o → SeqObj o → ¬ B a) (hM : ∀ a ∈ wr, ¬ M a) (h0 : ∀ a ∈ wr, h₀.get? a = none) (ho : ow.isSome = true → oa ∉ wr) (hc : ∀ a ∈ wr, h'.get? a = none → B a) : Fs h₀ B env sc M ow oa ρ { s with heap := h', toks := tk } := by
  refine ⟨F.fm.change (· ∈ wr) hk hB hM h0, fun a ha => ?_, F.oc, fun x xs e => ?_⟩
  · by_cases q : a ∈ wr
    · exact hc a q ha
    · refine F.cl a ?_
      cases e : s.heap.get? a with
      | none => rfl
      | some o => have := hk a o q e; rw [show h'.get? a = none from ha] at this; cases this
  · obtain ⟨vs, h1, ⟨n, h2⟩, h3, h4, h5, h6⟩ := F.own x xs e
    have how : oa ∉ wr := ho (by rw [e]; rfl)
    refine ⟨vs, ?_, ⟨n, hk _ _ how h2⟩, h3.mono fun b o q sq => ⟨hk b o (fun hm => hB b o hm q.get sq q.ok) q.get, q.ok⟩, h4, h5, h6⟩
    have hcell : ∀ {y c u}, env.cells.lookup y = some c → s.heap.IsCell c u → h'.IsCell c u := fun hc q => by
      obtain ⟨o, q1, q2⟩ := q
      refine ⟨o, hk _ o (fun hm => ?_) q1, q2⟩
      rcases (F.fm.cells _ _ hc).2.2 with qm | ⟨o, qm⟩
      · exact hM _ hm qm
      · rw [h0 _ hm] at qm; cases qm
    cases h1 with
    | loc q1 q2 q3 => exact .loc q1 (q2.at' fun o e => hk _ o (fun hm => hM _ hm F.fm.mloc) e) q3
    | cell q1 q2 q3 => exact .cell q1 q2 (hcell q2 q3)
    | free q1 q2 q3 q4 => exact .free q1 q2 (hcell q2 q3) q4
theorem MO.iff {M : Addr → Prop} {ow ow' : Own} (h : ow.isSome = ow'.isSome) {a : Addr} : MO M ow oa a ↔ MO M ow' oa a := by unfold MO; rw [h]
/-- for x in iter: body -/
theorem Ex.for {x : Str} {px pos : Pos} {iter : Expr} {body : List Stmt} {items : List PyData} (ows : Nat → Own) (ρs : Nat → Rho) (hit : It w k sc ρ iter items) (h0 : ows 0 = ow) (hs0 : Sub (ρs 0) ρ) (hx : stores sc x)
    (hw : ∀ i, (ows i).isSome = ow.isSome) (hn : ∀ i, notOwn (ows i) x = true)
    (hbody : ∀ i d, items[i]? = some d → Exs w k sc (ows i) (upd (ρs i) x d) body (.nxt (ows (i + 1)) (ρs (i + 1)))) (hs : ∀ env x, foldedSetIterable iter env x = pure x := by intro _ _; rfl) :
    Ex w k sc ow ρ (.For (.Name x px) iter body [] pos) (.nxt (ows items.length) (ρs items.length)) := fun prog A s env B h₀ M oa R g F => by
  refine wpAny_For (wpAny_mono (hit prog A s env B R (F.g g) F.fm.vars) (fun xv s₁ h₁ => wpAny_mono h₁.2 (fun it s₂ h₂ => ?_) fun _ _ e => e) fun _ _ e => e) (hs env)
  obtain ⟨kp, I, fp, wr, P, St, rfl, W, hst, hfp, hwn, hfs, hwo, hP⟩ := h₂
  have F₂ := F.next kp
  have hfM : ∀ b ∈ fp, ¬ M b := fun b hb hm => by
    obtain ⟨o, q1, q2⟩ := F.fm.mobj b hm
    rcases hfs b hb with q | ⟨_, o', q, sq⟩
    · rw [q] at q1; cases q1
    · rw [q] at q1; cases q1; exact q2 sq
  have hfo : ow.isSome = true → ∀ b ∈ fp, b ≠ oa := fun e b hb q => by
    obtain ⟨⟨z, zs⟩, ez⟩ := Option.isSome_iff_exists.mp e
    obtain ⟨vs, _, ⟨n, h2⟩, _, h4, _⟩ := F.own z zs ez
    rcases hfs b hb with q' | ⟨hb', _⟩
    · rw [q, h2] at q'; cases q'
    · exact h4 (q ▸ hb')
  have hfMO : ∀ b ∈ fp, ¬ MO M ow oa b := fun b hb q => q.elim (hfM b hb) fun q => hfo q.1 b hb q.2
  have h0w : ∀ a ∈ wr, h₀.get? a = none := fun a ha => by
    cases e : h₀.get? a with
    | none => rfl
    | some o => have := F.fm.base a o e; rw [hwn a ha] at this; cases this
  have hBw : ∀ {i : Nat} {h : Heap}, St i h → ∀ a o, a ∈ wr → h.get? a = some o → SeqObj o → ¬ B a := fun st a o ha e sq => by
    obtain ⟨o', e', q'⟩ := hwo _ _ st a ha
    rw [e] at e'; cases e'; exact absurd sq q'
  refine codeAny_forLoop_any (fun n s' => ∃ i, i ≤ items.length ∧ n = items.length + 1 - i ∧ Fs h₀ B env sc M (ows i) oa (ρs i) s' ∧ St i s'.heap ∧ (∃ h' tk, s' = { s with heap := h', toks := tk }) ∧ ∀ b o, b ∉ wr → ¬ MO M ow oa b → s₂.heap.get? b = some o → s'.heap.get? b = some o)
    (fun n s' hI => ?_) (items.length + 1) ⟨0, Nat.zero_le _, rfl, by rw [h0]; exact F₂.weaken hs0, hst, (by obtain ⟨h', tk, e, _⟩ := kp; exact ⟨h', tk, e⟩), fun _ _ _ _ e => e⟩
  obtain ⟨i, hi, rfl, F₃, st, ⟨H, T, rfl⟩, kept⟩ := hI
  by_cases hlt : i < items.length
  · refine W.item i _ _ _ hlt st fun v h' tk hv st' hk => ?_
    obtain ⟨d, hd, rd⟩ := hP i v hv
    have F₄ := F₃.moved (tk := tk) hk (hBw st) (fun a ha => hfM a (W.sub a ha)) h0w (fun e hm => hfo (by rw [← hw i]; exact e) oa (W.sub _ hm) rfl) fun a ha e => by
      obtain ⟨o, q, _⟩ := hwo _ _ st' a ha; rw [e] at q; cases q
    have rd' : Rd (HasB B h') v d := rd.mono fun a o e sq => by
      have hBa : B a := F.nwB e.ok
      have hwa : a ∉ wr := fun hm => by obtain ⟨o', e', q'⟩ := hwo _ _ hst a hm; rw [e.get] at e'; cases e'; exact q' sq
      have hMa : ¬ MO M ow oa a := fun q => by
        rcases q with q | ⟨q, rfl⟩
        · obtain ⟨o', e', q'⟩ := F₂.fm.mobj a q; rw [e.get] at e'; cases e'; exact q' sq
        · obtain ⟨⟨z, zs⟩, ez⟩ := Option.isSome_iff_exists.mp q
          obtain ⟨_, _, _, _, h4, _⟩ := F.own z zs ez
          exact h4 hBa
      exact ⟨hk a o hwa (kept a o hwa hMa e.get), hBa⟩
    show wpAny _ _ (letOwnedTupleGo (.Name x px) (.ref I) v) _ _ _
    refine wpAny_pure (wpAny_assign_Name (F₄.store hx (notOwn_of (hn i)) rd' fun s₃ kb F₅ => ?_))
    refine wpAny_mono (hbody i d hd prog A s₃ env B h₀ M oa R g F₅) (fun fl s₄ h₄ => ?_) fun _ _ e => e.elim
    obtain ⟨rfl, kb₂, F₆⟩ := h₄
    have keep4 : ∀ b o, ¬ MO M ow oa b → h'.get? b = some o → s₄.heap.get? b = some o := fun b o hb e => kb₂.heap b o (fun q => hb ((MO.iff (hw i)).mp q)) (kb.heap b o (fun q => hb (.inl q)) e)
    refine ⟨items.length + 1 - (i + 1), by omega, i + 1, hlt, rfl, F₆, W.frame _ _ _ st' fun b hb o e => keep4 b o (hfMO b hb) e, ?_, fun b o hb hm e => keep4 b o hm (hk b o hb (kept b o hb hm e))⟩
    obtain ⟨H1, t1, q1, _⟩ := kb
    obtain ⟨H2, t2, q2, _⟩ := kb₂
    subst q1
    exact ⟨H2, t2, q2⟩
  · have hin : i = items.length := by omega
    subst hin
    refine W.done _ _ _ st fun h' tk hk => wpAny_execs_nil ⟨rfl, ⟨h', tk, rfl, fun b o hb e => ?_⟩, ?_⟩
    · have hbw : b ∉ wr := fun hm => by rw [hwn b hm] at e; cases e
      exact hk b o hbw (kept b o hbw hb (kp.heap b o e))
    · exact F₃.moved (tk := tk) hk (hBw st) (fun a ha => hfM a (W.sub a ha)) h0w (fun e hm => hfo (by rw [← hw _]; exact e) oa (W.sub _ hm) rfl) fun a ha e => F.cl a (hwn a ha)
end
end Mine
end
section
open PySem PySem.W PyProof.Rows PySem.Calls
set_option Elab.async false
set_option maxRecDepth 100000
set_option linter.unusedVariables false
set_option linter.unusedSimpArgs false
namespace Mine
section
variable {w : World} {k : Nat} {sc : Sc} {ow : Own} {ρ : Rho}
/-- while test: body, n turns -/
theorem Ex.while {t : Expr} {body : List Stmt} {pos : Pos} (n : Nat) (ρs : Nat → Rho) (hs0 : Sub (ρs 0) ρ) (ht : ∀ i, i < n → Ts w k sc (full ow (ρs i)) t true) (hf : Ts w k sc (full ow (ρs n)) t false)
    (hbody : ∀ i, i < n → Exs w k sc ow (ρs i) body (.nxt ow (ρs (i + 1)))) : Ex w k sc ow ρ (.While t body [] pos) (.nxt ow (ρs n)) := fun prog A s env B h₀ M oa R g F => by
  refine wpAny_While (codeAny_loop rfl (fun m s' => ∃ i, i ≤ n ∧ m = n - i ∧ Kb (MO M ow oa) s s' ∧ Fs h₀ B env sc M ow oa (ρs i) s') (fun m s' hI => ?_) n ⟨0, Nat.zero_le _, rfl, .of Kp.rfl', F.weaken hs0⟩)
  obtain ⟨i, hi, rfl, kb, F₁⟩ := hI
  show wpAny _ A ((whileTurn t body [] env).onRaise (fun x => do noteFrame x env; theTreesLotGoes x)) _ _ s'
  refine wpAny_noted ?_
  unfold whileTurn
  by_cases hlt : i < n
  · refine wpAny_bind (wpAny_mono (F₁.ts (Q := fun b s'' => b = true ∧ Kp s' s'' ∧ Fs h₀ B env sc M ow oa (ρs i) s'') R g (ht i hlt) fun s₂ kp F₂ => ⟨rfl, kp, F₂⟩) (fun b s₂ h₂ => ?_) fun _ _ e => e.elim)
    obtain ⟨rfl, kp, F₂⟩ := h₂
    simp only [if_true]
    refine wpAny_bind (wpAny_mono (hbody i hlt prog A s₂ env B h₀ M oa R g F₂) (fun fl s₃ h₃ => ?_) fun _ _ e => e.elim)
    obtain ⟨rfl, kb₂, F₃⟩ := h₃
    exact wpAny_pure ⟨rfl, n - (i + 1), by omega, i + 1, hlt, rfl, (kb.trans (.of kp)).trans kb₂, F₃⟩
  · have : i = n := by omega
    subst this
    refine wpAny_bind (wpAny_mono (F₁.ts (Q := fun b s'' => b = false ∧ Kp s' s'' ∧ Fs h₀ B env sc M ow oa (ρs i) s'') R g hf fun s₂ kp F₂ => ⟨rfl, kp, F₂⟩) (fun b s₂ h₂ => ?_) fun _ _ e => e.elim)
    obtain ⟨rfl, kp, F₂⟩ := h₂
    simp only [Bool.false_eq_true, if_false]
    exact wpAny_bind (wpAny_execs_nil (wpAny_pure ⟨rfl, kb.trans (.of kp), F₂⟩))
/-! a call of a def -/
theorem bindL_of {kindOf : Str → Option NameKind} {x : Str} (hx : kindOf x = some .local) : ∀ (binds : List (Str × Value)) (m : Str → Option Value), bindL kindOf binds m x = (binds.reverse.lookup x).or (m x)
  | [], m => by simp [bindL]
  | (n, v) :: r, m => by
    unfold bindL
    rw [bindL_of hx r, List.reverse_cons, List.lookup_append, Option.or_assoc]
    congr 1
    rw [List.lookup_cons, List.lookup_nil]
    cases hb : x == n with
    | true =>
      have : x = n := beq_iff_eq.mp hb
      subst this
      rw [if_pos hx]; simp
    | false =>
      have hne : x ≠ n := fun e => by rw [e, beq_self_eq_true] at hb; cases hb
      split <;> simp [hne]
theorem bindC_of {kindOf : Str → Option NameKind} {x : Str} (hx : kindOf x = some .cell) : ∀ (binds : List (Str × Value)) (m : Str → Option Value), bindC kindOf binds m x = (binds.reverse.lookup x).or (m x)
  | [], m => by simp [bindC]
  | (n, v) :: r, m => by
    unfold bindC
    rw [bindC_of hx r, List.reverse_cons, List.lookup_append, Option.or_assoc]
    congr 1
    rw [List.lookup_cons, List.lookup_nil]
    cases hb : x == n with
    | true =>
      have : x = n := beq_iff_eq.mp hb
      subst this
      rw [if_neg (by rw [hx]; decide)]; simp
    | false =>
      have hne : x ≠ n := fun e => by rw [e, beq_self_eq_true] at hb; cases hb
      split <;> simp [hne]
theorem lookup_rev {α : Type} (x : Str) : ∀ l : List (Str × α), (l.map (·.1)).Nodup → l.reverse.lookup x = l.lookup x
  | [], _ => rfl
  | (n, v) :: r, h => by
    rw [List.map_cons, List.nodup_cons] at h
    rw [List.reverse_cons, List.lookup_append, lookup_rev x r h.2, List.lookup_cons, List.lookup_cons, List.lookup_nil]
    cases hb : x == n with
    | true =>
      have : x = n := beq_iff_eq.mp hb
      subst this
      cases e : r.lookup x with
      | none => rfl
      | some u => exact absurd (List.mem_map.mpr ⟨_, mem_of_lookup e, rfl⟩) h.1
    | false => cases r.lookup x <;> rfl
theorem lookup_zip {B : Addr → Obj → Prop} {x : Str} : ∀ {ps : List Str} {vs : List Value} {ds : List PyData} {d : PyData}, Rds B vs ds → (ps.zip ds).lookup x = some d → ∃ v, (ps.zip vs).lookup x = some v ∧ Rd B v d
  | [], _, _, _, _, h => by simp at h
  | p :: ps, _, _, _, .nil, h => by simp at h
  | p :: ps, _, _, d, .cons r rs, h => by
    rw [List.zip_cons_cons, List.lookup_cons] at h ⊢
    cases hb : x == p with
    | true => rw [hb] at h; cases h; exact ⟨_, rfl, r⟩
    | false => rw [hb] at h; exact lookup_zip rs h
/-- what is known of a def -/
structure DefAt (w : World) (f : Addr) (fd : FuncData) (ps : List Str) (body : List Stmt) (sc : Sc) : Prop where
  look : ∃ oc od osl, (KK w).lookup f = some ⟨oc, od, .func fd, osl⟩
  code : codeIn (KK w) fd.code fd.qualname = true
  body : fd.body = .stmts body
  bind : ∀ vs : List Value, vs.length = ps.length → bindArgs fd ⟨vs, []⟩ = pure (ps.zip vs)
  clo : fd.closure = []
  names : fd.scope.names = sc
  kinds : ∀ p ∈ ps, sc.lookup p = some .local ∨ sc.lookup p = some .cell
  nodup : ps.Nodup
  co : fd.scope.isCoroutine = false
  gen : fd.scope.isGenerator = false
  kind : fd.scope.kind = .function
  glob : fd.globals = mainGlobals
  bi : fd.builtins = builtinsNs
theorem Fn.of {f : Addr} {fd : FuncData} {ps : List Str} {body : List Stmt} {sc : Sc} {ds : List PyData} {d : PyData} (D : DefAt w f fd ps body sc) (hl : ds.length = ps.length) (h : Exs w k sc none (ps.zip ds) body (.ret d)) : Fn w (k + 1) (.ref f) ds d := fun prog A s vs B R g rs => by
  have hvl : vs.length = ps.length := by rw [rs.length, hl]
  obtain ⟨oc, od, osl, hlk⟩ := D.look
  obtain ⟨mg, mb, T⟩ := g.t
  have hmap : (ps.zip vs).map (·.1) = ps := by rw [List.map_fst_zip]; omega
  refine wpAny_call (codeAny_call_cells R.depth (g.k _ _ hlk) rfl T.nolimit (codeRec_of g.k D.code) D.body (D.bind vs hvl) D.clo (fun x hx => ?_) (fun s₁ IC => ?_) D.co D.gen D.kind)
  · have hm : x.1 ∈ ps := by rw [← hmap]; exact List.mem_map.mpr ⟨x, hx, rfl⟩
    rw [D.names]
    refine (D.kinds _ hm).imp id fun q => ⟨q, ?_⟩
    obtain ⟨c, hc, _⟩ := cellsFrom_has x.1 sc (s.heap.objs.size + 1) [] (mem_of_lookup q)
    rw [hc]; rfl
  · generalize he : callEnvC fd s.heap.objs.size f = env at *
    have eL : env.locals = s.heap.objs.size := by rw [← he]; rfl
    have eS : env.scope = fd.scope := by rw [← he]; rfl
    have eC : env.cells = cellsFrom (s.heap.objs.size + 1) fd.scope.names [] := by rw [← he]; rfl
    have kOf : ∀ y, env.kindOf y = sc.lookup y := fun y => by unfold Env.kindOf; rw [eS, D.names]
    have hM : ∀ a, (a = env.locals ∨ ∃ x, env.cells.lookup x = some a) → ∃ o, s₁.heap.get? a = some o ∧ ¬ SeqObj o := fun a ha => by
      rcases ha with rfl | ⟨x, hx⟩
      · exact notSeq_ns IC.toInCall.ns
      · exact notSeq_cell (IC.cell x a hx)
    have hnew : ∀ a, (a = env.locals ∨ ∃ x, env.cells.lookup x = some a) → s.heap.get? a = none := fun a ha => by
      have hge : s.heap.objs.size ≤ a := by
        rcases ha with rfl | ⟨x, hx⟩
        · exact IC.toInCall.fresh
        · exact Nat.le_of_lt (Nat.lt_of_le_of_lt IC.toInCall.fresh (IC.above x a (mem_of_lookup hx)))
      cases e : s.heap.get? a with
      | none => rfl
      | some o => exact absurd (Heap.lt_size e) (Nat.not_lt.mpr hge)
    have F : Fs s.heap (Nw B s.heap) env sc (fun a => a = env.locals ∨ ∃ x, env.cells.lookup x = some a) none 0 (ps.zip ds) s₁ := by
      refine ⟨⟨⟨by rw [eS]; exact D.kind, by rw [eS]; exact D.names, by rw [← he]; exact D.glob, by rw [← he]; exact D.bi, fun x d' hx => ?_⟩, ⟨_, IC.toInCall.ns⟩, .inl rfl, hM, hnew, fun x c hc => ?_, fun x y c _ hx hy => ?_, IC.toInCall.keep⟩, fun a ha => ?_, fun x hx => ?_, fun x xs e => by cases e⟩
      · obtain ⟨v, hv, rv⟩ := lookup_zip rs hx
        refine ⟨v, rv.mono fun a o e _ => ⟨IC.toInCall.keep a o e.get, .inl e.ok⟩, ?_⟩
        have hmem : x ∈ ps := by rw [← hmap]; exact List.mem_map.mpr ⟨_, mem_of_lookup hv, rfl⟩
        have hrev : (ps.zip vs).reverse.lookup x = some v := by rw [lookup_rev x _ (by rw [hmap]; exact D.nodup)]; exact hv
        rcases D.kinds x hmem with q | q
        · refine .loc (by rw [kOf]; exact q) IC.toInCall.ns ?_
          rw [bindL_of (by rw [kOf]; exact q), hrev]; rfl
        · obtain ⟨c, hc, _⟩ := cellsFrom_has x sc (s.heap.objs.size + 1) [] (mem_of_lookup q)
          have hc' : env.cells.lookup x = some c := by rw [eC, D.names]; exact hc
          refine .cell (by rw [kOf]; exact q) hc' ?_
          have := IC.cell x c hc'
          rw [bindC_of (by rw [kOf]; exact q), hrev] at this
          exact this
      · exact ⟨Nat.ne_of_gt (IC.above x c (mem_of_lookup hc)), ⟨_, IC.cell x c hc⟩, .inl (.inr ⟨x, hc⟩)⟩
      · exact name_of_addr IC.apart (mem_of_lookup hx) (mem_of_lookup hy)
      · refine .inr ?_
        cases e : s.heap.get? a with
        | none => rfl
        | some o => rw [IC.toInCall.keep a o e] at ha; cases ha
      · obtain ⟨c, hc, _⟩ := cellsFrom_has x sc (s.heap.objs.size + 1) [] (mem_of_lookup hx)
        have hc' : env.cells.lookup x = some c := by rw [eC, D.names]; exact hc
        exact ⟨c, hc', .inr ⟨x, hc'⟩⟩
    refine wpAny_mono (h prog (A.deeper env) s₁ env _ s.heap _ 0 (R.deeper env) g F) (fun fl s' h' => ?_) fun _ _ e => e.elim
    obtain ⟨v, rfl, kb, r⟩ := h'
    refine ⟨?_, r⟩
    obtain ⟨H1, T1, e1⟩ := IC.toInCall.same
    obtain ⟨H2, T2, e2, k2⟩ := kb
    have k1 := IC.toInCall.keep
    subst e1
    exact ⟨H2, T2, e2, fun b o e => k2 b o (fun q => q.elim (fun q => by rw [hnew b q] at e; cases e) fun q => by cases q.1) (k1 b o e)⟩
end
end Mine
end
section
open PySem PySem.W PyProof.Rows PySem.Calls
set_option Elab.async false
set_option maxRecDepth 100000
set_option linter.unusedVariables false
namespace Mine
open PySem.Challenge
def fnBody : Stmt → List Stmt
  | .FunctionDef _ _ b _ _ _ _ _ _ _ => b
  | _ => []
def fnScope : Stmt → Sc
  | .FunctionDef _ _ _ _ _ _ s _ _ _ => s.names
  | _ => []
def fnPs : Stmt → List Str
  | .FunctionDef _ a _ _ _ _ _ _ _ _ => a.args.map (·.arg)
  | _ => []
def topSt (i : Nat) : Stmt := pw_pw0016_01.main.body.getD i (.Pass ⟨0, 0, 0, 0⟩)
def IsDef (w : World) (f : Addr) (i : Nat) : Prop := ∃ fd, DefAt w f fd (fnPs (topSt i)) (fnBody (topSt i)) (fnScope (topSt i))
theorem Fn.def {w : World} {k : Nat} {f : Addr} {i : Nat} {ds : List PyData} {d : PyData} (D : IsDef w f i) (hl : ds.length = (fnPs (topSt i)).length) (h : Exs w k (fnScope (topSt i)) none ((fnPs (topSt i)).zip ds) (fnBody (topSt i)) (.ret d)) : Fn w (k + 1) (.ref f) ds d :=
  let ⟨_, D⟩ := D; Fn.of D hl h
theorem len2 {vs : List Value} (h : vs.length = 2) : ∃ a b, vs = [a, b] := by
  match vs, h with
  | [a, b], _ => exact ⟨a, b, rfl⟩
theorem len1 {vs : List Value} (h : vs.length = 1) : ∃ a, vs = [a] := by
  match vs, h with
  | [a], _ => exact ⟨a, rfl⟩
theorem len3 {vs : List Value} (h : vs.length = 3) : ∃ a b c, vs = [a, b, c] := by
  match vs, h with
  | [a, b, c], _ => exact ⟨a, b, c, rfl⟩
theorem len6 {vs : List Value} (h : vs.length = 6) : ∃ a b c d e f, vs = [a, b, c, d, e, f] := by
  match vs, h with
  | [a, b, c, d, e, f], _ => exact ⟨a, b, c, d, e, f, rfl⟩
theorem def_hdn (w : World) : IsDef w 43 3 := ⟨_, ⟨_, _, _, rfl⟩, rfl, rfl, fun vs h => by obtain ⟨a, rfl⟩ := len1 h; rfl, rfl, rfl, by decide +kernel, by decide +kernel, rfl, rfl, rfl, rfl, rfl⟩
theorem def_udm (w : World) : IsDef w 50 4 := ⟨_, ⟨_, _, _, rfl⟩, rfl, rfl, fun vs h => by obtain ⟨a, b, rfl⟩ := len2 h; rfl, rfl, rfl, by decide +kernel, by decide +kernel, rfl, rfl, rfl, rfl, rfl⟩
theorem def_d2 (w : World) : IsDef w 57 7 := ⟨_, ⟨_, _, _, rfl⟩, rfl, rfl, fun vs h => by obtain ⟨a, b, c, rfl⟩ := len3 h; rfl, rfl, rfl, by decide +kernel, by decide +kernel, rfl, rfl, rfl, rfl, rfl⟩
theorem def_d3 (w : World) : IsDef w 64 8 := ⟨_, ⟨_, _, _, rfl⟩, rfl, rfl, fun vs h => by obtain ⟨a, b, c, d, e, f, rfl⟩ := len6 h; rfl, rfl, rfl, by decide +kernel, by decide +kernel, rfl, rfl, rfl, rfl, rfl⟩
theorem def_i2d (w : World) : IsDef w 71 9 := ⟨_, ⟨_, _, _, rfl⟩, rfl, rfl, fun vs h => by obtain ⟨a, b, rfl⟩ := len2 h; rfl, rfl, rfl, by decide +kernel, by decide +kernel, rfl, rfl, rfl, rfl, rfl⟩
theorem def_d2i (w : World) : IsDef w 78 10 := ⟨_, ⟨_, _, _, rfl⟩, rfl, rfl, fun vs h => by obtain ⟨a, b, rfl⟩ := len2 h; rfl, rfl, rfl, by decide +kernel, by decide +kernel, rfl, rfl, rfl, rfl, rfl⟩
theorem def_dmp (w : World) : IsDef w 85 11 := ⟨_, ⟨_, _, _, rfl⟩, rfl, rfl, fun vs h => by obtain ⟨a, b, rfl⟩ := len2 h; rfl, rfl, rfl, by decide +kernel, by decide +kernel, rfl, rfl, rfl, rfl, rfl⟩
theorem def_idm (w : World) : IsDef w 92 12 := ⟨_, ⟨_, _, _, rfl⟩, rfl, rfl, fun vs h => by obtain ⟨a, b, rfl⟩ := len2 h; rfl, rfl, rfl, by decide +kernel, by decide +kernel, rfl, rfl, rfl, rfl, rfl⟩
theorem def_lname (w : World) : IsDef w 97 14 := ⟨_, ⟨_, _, _, rfl⟩, rfl, rfl, fun vs h => by obtain ⟨a, rfl⟩ := len1 h; rfl, rfl, rfl, by decide +kernel, by decide +kernel, rfl, rfl, rfl, rfl, rfl⟩
theorem def_under (w : World) : IsDef w 104 15 := ⟨_, ⟨_, _, _, rfl⟩, rfl, rfl, fun vs h => by obtain ⟨a, b, rfl⟩ := len2 h; rfl, rfl, rfl, by decide +kernel, by decide +kernel, rfl, rfl, rfl, rfl, rfl⟩
theorem def_hung (w : World) : IsDef w 109 16 := ⟨_, ⟨_, _, _, rfl⟩, rfl, rfl, fun vs h => by obtain ⟨a, rfl⟩ := len1 h; rfl, rfl, rfl, by decide +kernel, by decide +kernel, rfl, rfl, rfl, rfl, rfl⟩
theorem def_parted (w : World) : IsDef w 114 17 := ⟨_, ⟨_, _, _, rfl⟩, rfl, rfl, fun vs h => by obtain ⟨a, rfl⟩ := len1 h; rfl, rfl, rfl, by decide +kernel, by decide +kernel, rfl, rfl, rfl, rfl, rfl⟩
theorem def_law (w : World) : IsDef w 119 18 := ⟨_, ⟨_, _, _, rfl⟩, rfl, rfl, fun vs h => by obtain ⟨a, rfl⟩ := len1 h; rfl, rfl, rfl, by decide +kernel, by decide +kernel, rfl, rfl, rfl, rfl, rfl⟩
end Mine
end
section
open PySem PySem.W PyProof.Rows PySem.Calls
set_option Elab.async false
set_option maxRecDepth 100000
set_option linter.unusedVariables false
namespace Mine
open PySem.Challenge
abbrev dot : Str := Str.ofString "."
/-! the names: labels (0 for a, 1 for b), the nearest to the top last, and the top: 0 local, 1 com, 2 the figure -/
structure Cd where
  ls : List Nat
  t : Nat
  deriving DecidableEq
def topS : Nat → Str
  | 0 => Str.ofString "local"
  | 1 => Str.ofString "com"
  | _ => Str.ofString "7"
def labS : Nat → Str
  | 0 => Str.ofString "a"
  | _ => Str.ofString "b"
def Cd.parts (c : Cd) : List Str := c.ls.map labS ++ [topS c.t]
def Cd.str (c : Cd) : Str := Txt.join dot c.parts
def labLists : List (List Nat) := [[], [0], [1], [0, 0], [0, 1], [1, 0], [1, 1], [0, 0, 0], [0, 0, 1], [0, 1, 0], [0, 1, 1], [1, 0, 0], [1, 0, 1], [1, 1, 0], [1, 1, 1]]
def codes : List Cd := [0, 1, 2].flatMap fun t => labLists.map fun l => ⟨l, t⟩
def Un (c d : Cd) : Bool := decide (d.ls.length < c.ls.length) && (c.t == d.t && (c.t != 2 && (c.ls.drop (c.ls.length - d.ls.length) == d.ls)))
open Builtin Builtin.Str in
theorem code_facts : ∀ c ∈ codes, Txt.split c.str dot = c.parts ∧ c.str.length ≤ 20 ∧ (partsBetween c.str (occurrences c.str dot 0 c.str.length (c.str.length + 1)) dot.length).length ≤ 20 ∧ c.parts.length ≤ 4 ∧ SeqAt.shaped (.str c.str) = true ∧ SeqAt.shaped (.list (c.parts.map .str)) = true := by decide +kernel
/-! _law_under -/
theorem pick_from (xs : List PyData) (n : Nat) (h : n ≤ xs.length) : pick xs (some (n : Int)) none none = xs.drop n := by
  have key : ∀ (m : Nat) (ys : List PyData), (List.range m).filterMap (fun i => ys[i]?) = ys.take m := fun m => by
    induction m with
    | zero => intro ys; simp
    | succ m ih =>
      intro ys
      rw [List.range_succ, List.filterMap_append, ih, List.take_add_one]
      cases e : ys[m]? <;> simp [e]
  unfold pick sliceBounds sliceRange
  have e1 : (if ((n : Int)) < 0 then ((n : Int)) + (xs.length : Int) else (n : Int)) = n := if_neg (by omega)
  simp only [Option.getD_none, e1]
  simp only [show ((1 : Int) > 0) = True by simp, if_true]
  have e2 : max (0 : Int) (min (n : Int) (xs.length : Int)) = n := by omega
  rw [e2]
  have e3 : (if (n : Int) < (xs.length : Int) then ((xs.length : Int) - n + 1 - 1) / 1 else 0).toNat = xs.length - n := by
    split
    · rw [Int.ediv_one]; omega
    · omega
  rw [e3, List.filterMap_map]
  have e4 : (fun i => xs[i]?) ∘ (fun k : Nat => ((n : Int) + 1 * (k : Int)).toNat) = fun i => (xs.drop n)[i]? := by
    funext i
    simp only [Function.comp, List.getElem?_drop]
    congr 1
    omega
  rw [e4, key]
  exact List.take_of_length_le (by rw [List.length_drop]; omega)
section
variable {w : World} {k : Nat}
abbrev ss (l : List Str) : PyData := .list (l.map .str)
theorem nm_len {w : World} {sc : Sc} (h : sc.lookup (Str.ofString "len") = some .globalImplicit) : Nm w sc (Str.ofString "len") (.builtin "len") := .bi h rfl rfl (by decide +kernel) (by decide +kernel)
open Builtin Builtin.Str in
theorem under_raw {x y : Str} {lx ly : List Str} (hx : x.length ≤ 1000) (hy : y.length ≤ 1000) (px : (partsBetween x (occurrences x dot 0 x.length (x.length + 1)) dot.length).length ≤ 1000) (py : (partsBetween y (occurrences y dot 0 y.length (y.length + 1)) dot.length).length ≤ 1000)
    (ex : Txt.split x dot = lx) (ey : Txt.split y dot = ly) (sx : lx.length ≤ 100) (sy : ly.length ≤ 100) (h1 : SeqAt.shaped (ss lx) = true) (h2 : SeqAt.shaped (ss ly) = true) (h3 : ∀ n : Nat, SeqAt.shaped (.list ((lx.map PyData.str).drop n)) = true) {l : Str} (hl : ly.getLast? = some l) (hls : SeqAt.shaped (.str l) = true) :
    Fn w 1 (.ref 104) [.str x, .str y] (.bool (decide ((lx.length : Int) > ly.length) && (PyData.eqv (.list ((lx.map PyData.str).drop (lx.length - ly.length))) (ss ly) && !PyData.eqv (.str l) (.str (Str.ofString "7"))))) := by
  refine Fn.def (def_under w) rfl ?_
  refine Exs.cons (Ex.swap (a := ss lx) (b := ss ly) ?_ ?_ rfl rfl) (Exs.ret (Ex.return ?_))
  · rw [← ex]
    exact Ev.meth1 (Ev.name rfl) (Evs.cons Ev.str Evs.nil) Ty.str F.plainAttrs_str F.slot_str_split F.type_str_split (Me.split rfl hx px)
  · rw [← ey]
    exact Ev.meth1 (Ev.name rfl) (Evs.cons Ev.str Evs.nil) Ty.str F.plainAttrs_str F.slot_str_split F.type_str_split (Me.split rfl hy py)
  · refine Ev.bop (Bop.and ?_ fun c1 => Bop.and ?_ fun c2 => Bop.one ?_)
    · refine Ev.cmp (Ev.call (nm_len rfl) keepsOk.builtin (Evs.cons (Ev.name rfl) Evs.nil) (Fn.lenL ?_)) (Ev.call (nm_len rfl) keepsOk.builtin (Evs.cons (Ev.name rfl) Evs.nil) (Fn.lenL ?_)) ?_
      · rw [List.length_map]; exact Nat.le_trans sx (by decide)
      · rw [List.length_map]; exact Nat.le_trans sy (by decide)
      · rw [List.length_map, List.length_map]; exact Cm.gtI
    · have hgt : ly.length < lx.length := by have := of_decide_eq_true c1; omega
      refine Ev.cmp (a := .list ((lx.map PyData.str).drop (lx.length - ly.length))) ?_ (Ev.name rfl) (Cm.eqD (h3 _) h2)
      rw [← pick_from _ _ (by rw [List.length_map]; omega)]
      refine Ev.slice (Ev.name rfl) (Pt.some ?_) Pt.none Pt.none (by intro h; cases h) (by rw [List.length_map]; exact Nat.le_trans sx (by decide))
      rw [show (((lx.length - ly.length : Nat)) : Int) = (lx.length : Int) - ly.length by omega]
      refine Ev.binop (Ev.call (nm_len rfl) keepsOk.builtin (Evs.cons (Ev.name rfl) Evs.nil) (Fn.lenL ?_)) (Ev.call (nm_len rfl) keepsOk.builtin (Evs.cons (Ev.name rfl) Evs.nil) (Fn.lenL ?_)) ?_
      · rw [List.length_map]; exact Nat.le_trans sx (by decide)
      · rw [List.length_map]; exact Nat.le_trans sy (by decide)
      · rw [List.length_map, List.length_map]; exact Op2.subI
    · have hne : 0 < ly.length := by
        cases ly with
        | nil => cases hl
        | cons => simp
      refine Ev.cmp (Ev.sub (i := .int (-1)) (Ev.name rfl) (Ev.neg Ev.int) (Ix.listNeg (d := .str l) (by decide) (by rw [List.length_map]; omega) (by decide) ?_)) Ev.str (Cm.neD hls (by decide +kernel))
      rw [List.length_map, List.getElem?_map, show ((-1 : Int) + ly.length).toNat = ly.length - 1 by omega, ← List.getLast?_eq_getElem?, hl]
      rfl
theorem shaped_drop {l : List PyData} (h : SeqAt.shaped (.list l) = true) (n : Nat) : SeqAt.shaped (.list (l.drop n)) = true := by
  have h1 : PyData.canLayAll0 l = true := by simpa [PyData.canLay0] using SeqAt.canLay_of_shaped h
  have h2 := SeqAt.depth_of_shaped h
  have key : ∀ (l : List PyData) (n : Nat), PyData.canLayAll0 l = true → PyData.canLayAll0 (l.drop n) = true ∧ PyData.depthAll (l.drop n) ≤ PyData.depthAll l := fun l => by
    induction l with
    | nil => intro n _; simp [PyData.canLayAll0]
    | cons x l ih =>
      intro n h
      cases n with
      | zero => exact ⟨h, Nat.le_refl _⟩
      | succ n =>
        simp only [PyData.canLayAll0, Bool.and_eq_true] at h
        obtain ⟨a, b⟩ := ih n h.2
        exact ⟨a, Nat.le_trans b (Nat.le_max_right _ _)⟩
  obtain ⟨a, b⟩ := key l n h1
  have h3 : PyData.depthAll l + 1 ≤ 64 := h2
  unfold SeqAt.shaped
  simp only [PyData.canLay0, a, Bool.true_and, decide_eq_true_eq]
  show PyData.depthAll _ + 1 ≤ 64
  omega
def rawUn (lx ly : List Str) (l : Str) : Bool := decide ((lx.length : Int) > ly.length) && (PyData.eqv (.list ((lx.map PyData.str).drop (lx.length - ly.length))) (ss ly) && !PyData.eqv (.str l) (.str (Str.ofString "7")))
theorem rawUn_codes : ∀ c ∈ codes, ∀ d ∈ codes, rawUn c.parts d.parts (topS d.t) = Un c d := by decide +kernel
theorem under_spec {c d : Cd} (hc : c ∈ codes) (hd : d ∈ codes) : Fn w 1 (.ref 104) [.str c.str, .str d.str] (.bool (Un c d)) := by
  obtain ⟨c1, c2, c3, c4, c5, c6⟩ := code_facts c hc
  obtain ⟨d1, d2, d3, d4, d5, d6⟩ := code_facts d hd
  rw [← rawUn_codes c hc d hd]
  exact under_raw (by omega) (by omega) (by omega) (by omega) c1 d1 (by omega) (by omega) c6 d6 (shaped_drop c6) (by unfold Cd.parts; rw [List.getLast?_append]; rfl) (by
    have : d.t = 0 ∨ d.t = 1 ∨ d.t = 2 := (show ∀ d ∈ codes, d.t = 0 ∨ d.t = 1 ∨ d.t = 2 by decide +kernel) d hd
    rcases this with h | h | h <;> rw [h] <;> decide +kernel)
end
end Mine
end
section
open PySem PySem.W PyProof.Rows PySem.Calls
set_option Elab.async false
set_option maxRecDepth 100000
set_option linter.unusedVariables false
namespace Mine
open PySem.Challenge
/-! _law_name -/
def bitOf (n : Int) (k : Nat) : Nat := (((n.fdiv 16).fdiv (2 ^ k)).fmod 2).toNat
def topOf (n : Int) : Nat := match ((n.fdiv 4).fmod 4).toNat with
  | 0 => 0
  | 1 => 0
  | 2 => 1
  | _ => 2
def codeOf (n : Int) : Cd := ⟨((List.range (n.fmod 4).toNat).map (bitOf n)).reverse, topOf n⟩
theorem bit_lt (n : Int) (k : Nat) : bitOf n k = 0 ∨ bitOf n k = 1 := by
  unfold bitOf
  have h1 := Int.fmod_nonneg_of_pos ((n.fdiv 16).fdiv (2 ^ k)) (show (0 : Int) < 2 by decide)
  have h2 := Int.fmod_lt_of_pos ((n.fdiv 16).fdiv (2 ^ k)) (show (0 : Int) < 2 by decide)
  omega
theorem all_codes' : ∀ (t : Fin 3) (x y z : Fin 2), (⟨[], t.val⟩ : Cd) ∈ codes ∧ (⟨[x.val], t.val⟩ : Cd) ∈ codes ∧ (⟨[y.val, x.val], t.val⟩ : Cd) ∈ codes ∧ (⟨[z.val, y.val, x.val], t.val⟩ : Cd) ∈ codes := by decide +kernel
theorem all_codes (t : Nat) (ht : t < 3) (x : Nat) (hx : x < 2) (y : Nat) (hy : y < 2) (z : Nat) (hz : z < 2) : (⟨[], t⟩ : Cd) ∈ codes ∧ (⟨[x], t⟩ : Cd) ∈ codes ∧ (⟨[y, x], t⟩ : Cd) ∈ codes ∧ (⟨[z, y, x], t⟩ : Cd) ∈ codes := all_codes' ⟨t, ht⟩ ⟨x, hx⟩ ⟨y, hy⟩ ⟨z, hz⟩
theorem codeOf_mem (n : Int) : codeOf n ∈ codes := by
  have h1 := Int.fmod_nonneg_of_pos n (show (0 : Int) < 4 by decide)
  have h2 := Int.fmod_lt_of_pos n (show (0 : Int) < 4 by decide)
  have ht : topOf n = 0 ∨ topOf n = 1 ∨ topOf n = 2 := by unfold topOf; split <;> simp
  have hm : (n.fmod 4).toNat = 0 ∨ (n.fmod 4).toNat = 1 ∨ (n.fmod 4).toNat = 2 ∨ (n.fmod 4).toNat = 3 := by omega
  have b0 := bit_lt n 0
  have b1 := bit_lt n 1
  have b2 := bit_lt n 2
  have all := all_codes (topOf n) (by omega) (bitOf n 0) (by omega) (bitOf n 1) (by omega) (bitOf n 2) (by omega)
  unfold codeOf
  rcases hm with hm | hm | hm | hm <;> rw [hm]
  · exact all.1
  · exact all.2.1
  · exact all.2.2.1
  · exact all.2.2.2
section
variable {w : World} {k : Nat}
theorem nm_range {w : World} {sc : Sc} (h : sc.lookup (Str.ofString "range") = some .globalImplicit) : Nm w sc (Str.ofString "range") (.type "range") := .bi h rfl rfl (by decide +kernel) (by decide +kernel)
theorem mem_upto {n : Nat} {d : PyData} (h : d ∈ upto n) : ∃ i, i < n ∧ d = .int (i : Int) := by
  unfold upto at h
  obtain ⟨i, hi, rfl⟩ := List.mem_map.mp h
  exact ⟨i, List.mem_range.mp hi, rfl⟩
theorem filter_tt {α : Type} (l : List α) : l.filter (fun _ => true) = l := List.filter_eq_self.mpr fun _ _ => rfl
theorem fm_congr {α β : Type} {f g : α → Option β} : ∀ {l : List α}, (∀ x ∈ l, f x = g x) → l.filterMap f = l.filterMap g
  | [], _ => rfl
  | a :: l, h => by rw [List.filterMap_cons, List.filterMap_cons, h a List.mem_cons_self, fm_congr fun x hx => h x (List.mem_cons_of_mem _ hx)]
theorem pick_rev (xs : List PyData) : pick xs none none (some (-1)) = xs.reverse := by
  unfold pick sliceBounds sliceRange
  simp only [Option.getD_some]
  have e0 : ¬ ((-1 : Int) > 0) := by decide
  simp only [e0, if_false]
  have e3 : (if ((xs.length : Int) - 1) > -1 then ((xs.length : Int) - 1 - -1 - -1 - 1) / (- -1) else 0).toNat = xs.length := by
    split
    · rw [show (- -1 : Int) = 1 by decide, Int.ediv_one]; omega
    · omega
  rw [e3, List.filterMap_map]
  have key : ∀ (ys : List PyData) (m : Nat), m ≤ ys.length → (List.range m).filterMap (fun i => ys[i]?) = ys.take m := fun ys m => by
    induction m with
    | zero => intro _; simp
    | succ m ih =>
      intro h
      rw [List.range_succ, List.filterMap_append, ih (by omega), List.take_add_one]
      cases e : ys[m]? <;> simp [e]
  have e4 : (List.range xs.length).filterMap ((fun i => xs[i]?) ∘ fun k : Nat => ((xs.length : Int) - 1 + -1 * (k : Int)).toNat) = (List.range xs.length).filterMap (fun i => xs.reverse[i]?) := by
    refine fm_congr fun i hi => ?_
    have hi := List.mem_range.mp hi
    simp only [Function.comp]
    rw [List.getElem?_reverse hi]
    congr 1
    omega
  rw [e4, key _ _ (by rw [List.length_reverse]; exact Nat.le_refl _)]
  exact List.take_of_length_le (by rw [List.length_reverse]; exact Nat.le_refl _)
def labF (n : Int) : PyData → PyData
  | .int k => .str (labS (bitOf n k.toNat))
  | _ => .none
theorem szl : (sizeLine : Nat) = 16777216 := by decide +kernel
set_option maxHeartbeats 4000000 in
theorem lname_spec (n : Int) : Fn w 1 (.ref 97) [.int n] (.str (codeOf n).str) := by
  have h1 := Int.fmod_nonneg_of_pos n (show (0 : Int) < 4 by decide)
  have h2 := Int.fmod_lt_of_pos n (show (0 : Int) < 4 by decide)
  refine Fn.def (def_lname w) rfl ?_
  refine Exs.cons (Ex.assignComp [(Str.ofString "number", .int n)] (fun _ => true) (labF n) rfl rfl rfl (It.range (nm_range rfl) (Ev.binop (Ev.name rfl) Ev.int (Op2.modI (by decide))) h1 (by omega)) (by rw [upto_length]; show _ ≤ 2 ^ 24; omega) rfl (by decide +kernel) (free_of rfl) (Cap.cons rfl (by decide +kernel) Cap.nil) (.inl rfl) rfl (fun d hd => TsL.nil) fun d hd _ => ?_) (Exs.ret (Ex.return ?_))
  · obtain ⟨i, hi, rfl⟩ := mem_upto hd
    have hi3 : i ≤ 3 := by omega
    have hb := bit_lt n i
    have hi4 : ((2 : Int) ^ i).natAbs.log2 < 9000 ∧ (2 : Int) ^ i ≠ 0 := (show ∀ i, i < 4 → ((2 : Int) ^ i).natAbs.log2 < 9000 ∧ (2 : Int) ^ i ≠ 0 by decide +kernel) i (by omega)
    have hv : (((n.fdiv 16).fdiv (2 ^ i)).fmod 2) = (bitOf n i : Int) := by
      unfold bitOf
      have := Int.fmod_nonneg_of_pos ((n.fdiv 16).fdiv (2 ^ i)) (show (0 : Int) < 2 by decide)
      omega
    refine Ev.sub (i := .int (bitOf n i : Int)) Ev.str ?_ ?_
    · rw [← hv]
      refine Ev.binop (a := .int ((n.fdiv 16).fdiv (2 ^ i))) (Ev.binop (Ev.binop (Ev.name rfl) Ev.int (Op2.divI (by decide) (by decide +kernel))) ?_ (Op2.divI hi4.2 hi4.1)) Ev.int (Op2.modI (by decide))
      refine Ev.binop (b := .int (i : Int)) Ev.int (Ev.name rfl) ?_
      have := Op2.powI (w := w) (k := 0) (a := 2) (n := (i : Int)) (by omega) (by
        have : (Builtin.Int.intBits 2 : Int) = 2 := by decide +kernel
        rw [this]; omega)
      simpa using this
    · show Ix _ _ _ _ (.str (labS (bitOf n (i : Int).toNat)))
      rw [Int.toNat_natCast]
      rcases hb with hb | hb <;> rw [hb]
      · exact Ix.str (c := 97) (by decide) (by decide) rfl
      · exact Ix.str (c := 98) (by decide) (by decide) rfl
  · rw [filter_tt]
    have e1 : (upto (n.fmod 4).toNat).map (labF n) = ((List.range (n.fmod 4).toNat).map (bitOf n)).map fun b => PyData.str (labS b) := by
      unfold upto
      rw [List.map_map, List.map_map]
      refine List.map_congr_left fun i _ => ?_
      show PyData.str (labS (bitOf n (i : Int).toNat)) = _
      rw [Int.toNat_natCast]; rfl
    rw [e1]
    have hcl := code_facts _ (codeOf_mem n)
    have htp : ∃ j : Nat, ((n.fdiv 4).fmod 4).toNat = j ∧ j < 4 := ⟨_, rfl, by
      have := Int.fmod_nonneg_of_pos (n.fdiv 4) (show (0 : Int) < 4 by decide)
      have := Int.fmod_lt_of_pos (n.fdiv 4) (show (0 : Int) < 4 by decide)
      omega⟩
    have hm4 := Int.fmod_nonneg_of_pos (n.fdiv 4) (show (0 : Int) < 4 by decide)
    have hm5 := Int.fmod_lt_of_pos (n.fdiv 4) (show (0 : Int) < 4 by decide)
    show Ev _ _ _ _ _ (.str (Txt.join dot (codeOf n).parts))
    refine Ev.meth1 Ev.str (Evs.cons (d := .list ((codeOf n).parts.map .str)) ?_ Evs.nil) Ty.str F.plainAttrs_str F.slot_str_join F.type_str_join (Me.join (x := dot) (xs := (codeOf n).parts) ?_)
    · have e2 : (codeOf n).parts.map PyData.str = ((((List.range (n.fmod 4).toNat).map (bitOf n)).map fun b => PyData.str (labS b)).reverse) ++ [PyData.str (topS (topOf n))] := by
        unfold Cd.parts codeOf
        simp [List.map_reverse]
      rw [e2]
      refine Ev.binop (Ev.slice (l := none) (u := none) (t := some (-1)) (Ev.name rfl) Pt.none Pt.none (Pt.some (Ev.neg Ev.int)) (by decide) (by simp; have := szl; omega)) (Ev.list (Evs.cons (d := .str (topS (topOf n))) ?_ Evs.nil) (show 1 ≤ 1000 by decide)) ?_
      · refine Ev.sub (Ev.tuple (Evs.cons Ev.str (Evs.cons Ev.str (Evs.cons Ev.str (Evs.cons Ev.str Evs.nil)))) (show 4 ≤ 1000 by decide)) (Ev.binop (Ev.binop (Ev.name rfl) Ev.int (Op2.divI (by decide) (by decide +kernel))) Ev.int (Op2.modI (by decide))) ?_
        unfold topOf
        generalize hq : (n.fdiv 4).fmod 4 = q at *
        have : q = 0 ∨ q = 1 ∨ q = 2 ∨ q = 3 := by omega
        rcases this with h | h | h | h <;> rw [h] <;> exact Ix.tuple (by decide) (by decide) rfl rfl
      · rw [pick_rev]
        exact Op2.addL (by simp; have := szl; omega)
    · exact (show ∀ c ∈ codes, JoinOk dot c.parts = true by decide +kernel) _ (codeOf_mem n)
end
end Mine
end
section
open PySem PySem.W PyProof.Rows PySem.Calls PySem.Builtin PySem.Builtin.Re
set_option Elab.async false
set_option maxRecDepth 100000
set_option linter.unusedVariables false
set_option maxHeartbeats 4000000
namespace Mine
theorem slot_search : Slot "re.Pattern" "search" "re.Pattern.search" :=
  .of (owner := "re.Pattern") (n := "search") (by rw [typeLookup_type, builtinLookup_eq_fast]; kernel_rfl) (by decide +kernel) (by decide +kernel) (by decide +kernel)
    (by first | exact .inl (by decide +kernel) | exact .inr (by decide +kernel)) (by rw [isSubtype_type]; kernel_rfl)
theorem type_search : typeOf (.builtin "re.Pattern.search") = pure (.type "method_descriptor") := by show builtinType _ = _; rw [builtinType_eq_fast]; kernel_rfl
theorem entry_search : entryFor table "re.Pattern.search" = some Builtin.«re.Pattern.search» := entryFor_of_tree (by kernel_rfl)
theorem plainAttrs_pattern : PlainAttrs "re.Pattern" :=
  ⟨⟨"object.__getattribute__", by rw [typeLookup_type, builtinLookup_eq_fast]; kernel_rfl, by decide +kernel⟩, by rw [typeLookup_type, builtinLookup_eq_fast]; kernel_rfl⟩
theorem args_search (a b : Value) : argsOk "re.Pattern.search" ⟨[a, b], []⟩ := by
  unfold argsOk
  kernel_rfl
theorem noBool_match : typeLookup (.type "re.Match") "__bool__" = pure none := by rw [typeLookup_type, builtinLookup_eq_fast]; kernel_rfl
theorem noLen_match : typeLookup (.type "re.Match") "__len__" = pure none := by rw [typeLookup_type, builtinLookup_eq_fast]; kernel_rfl
theorem named_search (v : Value) : reNamed "re.Pattern.search" "search" ["string", "pos", "endpos"] 1 [v] [] = pure [some v, none, none] := by rfl
noncomputable def drive : Nat → Sre.M → Option Sre.M
  | 0, _ => none
  | n + 1, m => let m := m.runFor reTurnSteps; if m.outcome.isSome then some m else drive n m
section
variable {prog : Program} {w : World} {A : Around} {E : Value → Shared → Prop} {s : Shared}
theorem wp_drive : ∀ (n N : Nat) (m m' : Sre.M) {Q : Sre.M → Shared → Prop}, drive n m = some m' → n ≤ N → Q m' s → wpAny (model prog w) A (reDrive N m) Q E s
  | 0, _, _, _, _, h, _, _ => nomatch h
  | n + 1, 0, _, _, _, _, h, _ => absurd h (by omega)
  | n + 1, N + 1, m, m', Q, h, hn, hq => by
    unfold drive at h
    unfold reDrive
    simp only at h ⊢
    split
    · rename_i h'
      rw [if_pos h'] at h
      cases h
      exact wpAny_pure hq
    · rename_i h'
      rw [if_neg h'] at h
      exact wpAny_bind (wpAny_rule (wp_drive n N _ m' h (by omega) hq))
theorem wp_says (f : Nat → Bool) (g : Nat → String) : ∀ (xs : List Nat) {Q : PUnit → Shared → Prop}, Q ⟨⟩ s → wpAny (model prog w) A (forIn xs PUnit.unit fun i _ => do
    if f i then rule (g i)
    pure (ForInStep.yield PUnit.unit)) Q E s
  | [], Q, h => wpAny_pure h
  | x :: xs, Q, h => by
    rw [List.forIn_cons]
    refine wpAny_bind ?_
    cases f x
    · exact wpAny_pure (wp_says f g xs h)
    · exact wpAny_bind (wpAny_rule (wpAny_pure (wp_says f g xs h)))
def ipCode : Array Nat := #[14, 8, 1, 2, 4294967295, 1, 1, 46, 0, 16, 46, 24, 9, 1, 4294967295, 13, 4, 8, 0, 0, 1, 6, 5, 1]
/-- the machine for a search of the text x -/
def seek (x : Str) : Sre.M := Sre.forSearch ipCode x.cps 0 0 x.cps.size false
def hits (m : Sre.M) : Option Bool := match m.outcome with | some .matched => some true | some .failed => some false | _ => none
theorem target_wp {x : Str} {t : Tok} {Q : ReTarget → Shared → Prop} (g : G w s.heap) (hx : x.cps.size < 2 ^ 63 - 1)
    (h : Q { pattern := .ref 36, string := .str x t, code := ipCode, text := x.cps, kind := 0, groups := 0, pos := 0, lim := x.cps.size } s) :
    wpAny (model prog w) A (reTarget "re.Pattern.search" "search" ⟨[.ref 36, .str x t], []⟩) Q E s := by
  have e36 := g.k 36 _ rfl
  have e35 := g.k 35 _ rfl
  unfold reTarget
  simp only [named_search]
  obtain ⟨hp, gg, d, tk, os⟩ := s
  wp_walk using wpAny_loadPart' e36, wpAny_loadPart' e35
  have e1 : Min.min ((2 : Int) ^ 63 - 1).toNat (x.cps, 0).fst.size = x.cps.size := by
    have : ((2 : Int) ^ 63 - 1).toNat = 2 ^ 63 - 1 := by decide +kernel
    rw [this]; exact Nat.min_eq_right (by show x.cps.size ≤ _; omega)
  have e2 : Min.min (Int.toNat 0) (x.cps, 0).fst.size = 0 := Nat.zero_min _
  rw [e1, e2]
  have e3 : ∀ ws : Array Value, ws = (match (some ws) with | some x => x | none => #[]) := fun _ => rfl
  have e4 : Array.map (fun x : Int => x.toNat) (Array.map reRawOf #[Value.int 14 0, Value.int 8 0, Value.int 1 0, Value.int 2 0, Value.int 4294967295 0, Value.int 1 0,
                    Value.int 1 0, Value.int 46 0, Value.int 0 0, Value.int 16 0, Value.int 46 0, Value.int 24 0,
                    Value.int 9 0, Value.int 1 0, Value.int 4294967295 0, Value.int 13 0, Value.int 4 0, Value.int 8 0,
                    Value.int 0 0, Value.int 0 0, Value.int 1 0, Value.int 6 0, Value.int 5 0, Value.int 1 0]) = ipCode := by decide +kernel
  simp only [Option.getD_some]
  rw [e4]
  exact h
theorem answer_wp {x : Str} {t : Tok} {m : Sre.M} {n : Nat} {b : Bool} {Q : Value → Shared → Prop} (hm : drive n (seek x) = some m) (hn : n ≤ 1000) (hb : hits m = some b)
    (h0 : b = false → Q .none s) (h1 : b = true → ∀ ob ob', ob'.cls = .type "re.Match" → ob'.isFreed = false → Q (.ref (s.heap.push ob).objs.size) { s with heap := (s.heap.push ob).push ob' }) :
    wpAny (model prog w) A (reAnswer { pattern := .ref 36, string := .str x t, code := ipCode, text := x.cps, kind := 0, groups := 0, pos := 0, lim := x.cps.size } (seek x)) (fun fin s' => ∃ v, fin = .done (.ret v) ∧ Q v s') E s := by
  unfold reAnswer reRunToEnd
  refine wpAny_bind (wpAny_bind (wp_drive n _ _ m hm ?_ ?_))
  · have : (1000 : Nat) ≤ 2 ^ 64 := by decide +kernel
    omega
  refine wpAny_bind (wp_says _ _ _ ?_)
  unfold hits at hb
  split at hb
  · rename_i ho
    cases hb
    rw [ho]
    refine wpAny_pure ?_
    simp only
    unfold reNewMatch
    simp only [List.range_zero, List.flatMap_nil, List.any_nil, Bool.false_eq_true, if_false]
    refine wpAny_bind (wpAny_bind (wpAny_newTuple ?_))
    exact wpAny_newObj_type (wpAny_pure ⟨_, rfl, h1 rfl _ _ rfl rfl⟩)
  · rename_i ho
    cases hb
    rw [ho]
    exact wpAny_pure (wpAny_pure ⟨_, rfl, h0 rfl⟩)
  · cases hb
theorem search_meets {x : Str} {t : Tok} {m : Sre.M} {n : Nat} {b : Bool} (hm : drive n (seek x) = some m) (hn : n ≤ 1000) (hb : hits m = some b) (hx : x.cps.size < 2 ^ 63 - 1) :
    ∀ w0 : World, ∀ {A : Around} {s : Shared} {Q : Value → Shared → Prop}, G w0 s.heap → (b = false → Q .none s) → (b = true → ∀ ob ob', ob'.cls = .type "re.Match" → ob'.isFreed = false → Q (.ref (s.heap.push ob).objs.size) { s with heap := (s.heap.push ob).push ob' }) →
    wpAny (model prog w0) A (call (.builtin "re.Pattern.search") [.ref 36, .str x t]) Q E s := by
  intro w0 A s Q g h0 h1
  have hT : s.TypeIs (.ref 36) "re.Pattern" := ⟨_, g.k 36 _ rfl, rfl⟩
  refine wpAny_call (codeAny_call_builtin slot_search.plain entry_search (slot_search.check _ _ _ _ _ _ _ _ hT (args_search _ _) ?_))
  unfold Builtin.«re.Pattern.search»
  refine wpAny_bind (target_wp g hx ?_)
  refine wpAny_mono (answer_wp (Q := Q) hm hn hb h0 h1) (fun fin s' h' => ?_) fun _ _ x => x
  obtain ⟨v, rfl, hv⟩ := h'
  exact hv
end
section
variable {w : World} {k : Nat} {sc : Sc} {ρ : Rho}
def Sees (x : Str) (b : Bool) : Prop := ∃ n m, drive n (seek x) = some m ∧ n ≤ 1000 ∧ hits m = some b ∧ x.cps.size < 2 ^ 63 - 1
theorem Ts.search {o e : Expr} {y : Str} {apos npos pos : Pos} {x : Str} {b : Bool} (n : Nm w sc y (.ref 36)) (he : Ev w k sc ρ e (.str x)) (hs : Sees x b)
    (hbase : ∀ env, attributeBase (.Name y npos) (Str.ofString "search") env (eval (.Name y npos) env) = eval (.Name y npos) env := by intro _; rfl) (hline : (apos.endLine == pos.line) = true := by rfl)
    (hst : isStarred e = false := by rfl)  :
    Ts w k sc ρ (.Call (.Attribute (.Name y npos) (Str.ofString "search") apos) [e] [] pos) b := fun prog A s env B R g V => by
  obtain ⟨nn, m, hm, hn, hb, hx⟩ := hs
  have hall := (star_all (es := [e]) (pos := pos) env (by rw [List.all_cons, hst]; rfl)).2
  refine wpAny_isTrue_value (Q := fun b' s' => Kp s s' ∧ b' = b) ?_ rfl
  refine wpAny_Call_method (hbase env) (by rw [hall]; rfl) hline plainAttrs_pattern slot_search type_search (n.go g V ⟨⟨_, g.k 36 _ rfl, rfl⟩, fun x e => by cases e; exact ⟨_, g.k 36 _ rfl, rfl⟩, callWith_method1 ?_ (star_cons hst env) rfl⟩)
  have hev : Evs w k sc ρ [e] [.str x] := Evs.cons he Evs.nil hst
  refine wpAny_mono (hev prog A s env B pos R g V) (fun vs s₁ h₁ => ?_) fun _ _ x => x
  obtain ⟨k1, r1⟩ := h₁
  cases r1 with
  | cons r rs =>
  cases rs
  cases r with
  | str _ t =>
  refine search_meets hm hn hb hx w (g.keeps k1.heap) (fun hb => ?_) (fun hb ob ob' hc hf => ?_)
  · subst hb
    exact wpAny_pure ⟨k1, rfl⟩
  · subst hb
    have hT : Shared.TypeIs { s₁ with heap := (s₁.heap.push ob).push ob' } (.ref (s₁.heap.push ob).objs.size) "re.Match" := ⟨_, Heap.get?_push_size _ hf, hc⟩
    unfold truthy
    refine wpAny_bind (wpAny_callSpecial?_none (name := Str.ofString "__bool__") hT noBool_match ?_)
    refine wpAny_bind (wpAny_specialOf (name := Str.ofString "__len__") hT noLen_match ?_)
    exact wpAny_pure ⟨k1.trans ((Kp.push ob).trans (Kp.push (s := { s₁ with heap := s₁.heap.push ob }) ob')), rfl⟩
end
end Mine
end
section
open PySem PySem.W PyProof.Rows PySem.Calls
set_option Elab.async false
set_option maxRecDepth 100000
set_option linter.unusedVariables false
set_option maxHeartbeats 4000000
namespace Mine
section
variable {w : World} {k : Nat}
theorem hdn_spec {x : Str} {b : Bool} (h : Sees x b) : Fn w (k + 1) (.ref 43) [.str x] (.bool (!b)) := by
  refine Fn.def (def_hdn w) rfl ?_
  cases b
  · exact Exs.cons (Ex.ite (Ts.search (o := .Constant .none 0 ⟨0, 0, 0, 0⟩) (.mod rfl rfl (by decide +kernel)) (Ev.name rfl) h) (fun e => by cases e) fun _ => Exs.nil) (Exs.ret (Ex.return Ev.bool))
  · exact Exs.ret (Ex.ite (Ts.search (o := .Constant .none 0 ⟨0, 0, 0, 0⟩) (.mod rfl rfl (by decide +kernel)) (Ev.name rfl) h) (fun _ => Exs.ret (Ex.return Ev.bool)) fun e => by cases e)
abbrev same (a b : Str) : Bool := PyData.eqv (.str a) (.str b)
def udm (a b : Str) (ha hb : Bool) : Bool :=
  if !(!ha && (!hb && true)) then same a b else
  if Txt.startswith b dot && (Txt.endswith a b && true) then true else
  if !Txt.startswith b dot && (same a b && true) then true else false
theorem nm_hdn {sc : Sc} (h : sc.lookup (Str.ofString "liberal_is_HDN") = some .globalImplicit) : Nm w sc (Str.ofString "liberal_is_HDN") (.ref 43) := .mod h rfl (by decide +kernel)
theorem udm_spec {x y a b : Str} {ha hb : Bool} (ex : Txt.lower x = a) (ey : Txt.lower y = b) (sa : Sees a ha) (sb : Sees b hb) (la : a.length ≤ 1000) (lb : b.length ≤ 1000) (hs1 : SeqAt.shaped (.str a) = true) (hs2 : SeqAt.shaped (.str b) = true) :
    Fn w (k + 2) (.ref 50) [.str x, .str y] (.bool (udm a b ha hb)) := by
  subst ex ey
  have la' := la
  have lb' := lb
  generalize hA : Txt.lower x = a at *
  generalize hB : Txt.lower y = b at *
  refine Fn.def (k := k + 1) (def_udm w) rfl ?_
  refine Exs.cons (Ex.assign (d := .str a) (by rw [← hA]; exact Ev.meth0 (Ev.name rfl) Ty.str F.plainAttrs_str F.slot_str_lower F.type_str_lower (Me.lower (by rw [hA]; exact la'))) (.inl rfl)) ?_
  refine Exs.cons (Ex.assign (d := .str b) (by rw [← hB]; exact Ev.meth0 (Ev.name rfl) Ty.str F.plainAttrs_str F.slot_str_lower F.type_str_lower (Me.lower (by rw [hB]; exact lb'))) (.inl rfl)) ?_
  unfold udm
  cases hc : !(!ha && (!hb && true)) with
  | true =>
    rw [if_pos rfl]
    refine Exs.ret (Ex.ite (b := true) ?_ (fun _ => ?_) fun e => by cases e)
    · rw [← hc]
      refine Ts.not (Ts.all (All.and ?_ fun _ => All.and ?_ fun _ => All.andNil))
      · exact Ts.val (Ev.call (nm_hdn rfl) (keepsOk.def rfl) (Evs.cons (Ev.name rfl) Evs.nil) (hdn_spec sa)) Tr.bool
      · exact Ts.val (Ev.call (nm_hdn rfl) (keepsOk.def rfl) (Evs.cons (Ev.name rfl) Evs.nil) (hdn_spec sb)) Tr.bool
    · cases hd : same a b
      · exact Exs.cons (Ex.ite (b := false) (by rw [← hd]; exact Ts.cmp (Ev.name rfl) (Ev.name rfl) (Cm.eqD hs1 hs2)) (fun e => by cases e) fun _ => Exs.nil) (Exs.ret (Ex.return Ev.bool))
      · exact Exs.ret (Ex.ite (b := true) (by rw [← hd]; exact Ts.cmp (Ev.name rfl) (Ev.name rfl) (Cm.eqD hs1 hs2)) (fun _ => Exs.ret (Ex.return Ev.bool)) fun e => by cases e)
  | false =>
    rw [if_neg (by decide)]
    refine Exs.cons (Ex.ite (b := false) ?_ (fun e => by cases e) fun _ => Exs.nil) ?_
    · rw [← hc]
      refine Ts.not (Ts.all (All.and ?_ fun _ => All.and ?_ fun _ => All.andNil))
      · exact Ts.val (Ev.call (nm_hdn rfl) (keepsOk.def rfl) (Evs.cons (Ev.name rfl) Evs.nil) (hdn_spec sa)) Tr.bool
      · exact Ts.val (Ev.call (nm_hdn rfl) (keepsOk.def rfl) (Evs.cons (Ev.name rfl) Evs.nil) (hdn_spec sb)) Tr.bool
    refine Exs.cons (Ex.assign (d := .bool (Txt.startswith b dot)) (Ev.meth1 (Ev.name rfl) (Evs.cons Ev.str Evs.nil) Ty.str F.plainAttrs_str F.slot_str_startswith F.type_str_startswith Me.startswith) (.inl rfl)) ?_
    cases hc2 : Txt.startswith b dot && (Txt.endswith a b && true) with
    | true =>
      rw [if_pos rfl]
      refine Exs.ret (Ex.ite (b := true) ?_ (fun _ => Exs.ret (Ex.return Ev.bool)) fun e => by cases e)
      rw [← hc2]
      refine Ts.all (All.and (Ts.val (Ev.name rfl) Tr.bool) fun _ => All.and ?_ fun _ => All.andNil)
      exact Ts.val (Ev.meth1 (Ev.name rfl) (Evs.cons (Ev.name rfl) Evs.nil) Ty.str F.plainAttrs_str F.slot_str_endswith F.type_str_endswith Me.endswith) Tr.bool
    | false =>
      rw [if_neg (by decide)]
      refine Exs.cons (Ex.ite (b := false) ?_ (fun e => by cases e) fun _ => Exs.nil) ?_
      · rw [← hc2]
        refine Ts.all (All.and (Ts.val (Ev.name rfl) Tr.bool) fun _ => All.and ?_ fun _ => All.andNil)
        exact Ts.val (Ev.meth1 (Ev.name rfl) (Evs.cons (Ev.name rfl) Evs.nil) Ty.str F.plainAttrs_str F.slot_str_endswith F.type_str_endswith Me.endswith) Tr.bool
      cases hc3 : !Txt.startswith b dot && (same a b && true) with
      | true =>
        rw [if_pos rfl]
        refine Exs.ret (Ex.ite (b := true) ?_ (fun _ => Exs.ret (Ex.return Ev.bool)) fun e => by cases e)
        rw [← hc3]
        exact Ts.all (All.and (Ts.not (Ts.val (Ev.name rfl) Tr.bool)) fun _ => All.and (Ts.cmp (Ev.name rfl) (Ev.name rfl) (Cm.eqD hs1 hs2)) fun _ => All.andNil)
      | false =>
        rw [if_neg (by decide)]
        refine Exs.cons (Ex.ite (b := false) ?_ (fun e => by cases e) fun _ => Exs.nil) (Exs.ret (Ex.return Ev.bool))
        rw [← hc3]
        exact Ts.all (All.and (Ts.not (Ts.val (Ev.name rfl) Tr.bool)) fun _ => All.and (Ts.cmp (Ev.name rfl) (Ev.name rfl) (Cm.eqD hs1 hs2)) fun _ => All.andNil)
end
end Mine
end
section
open PySem PySem.W PyProof.Rows PySem.Calls
set_option Elab.async false
set_option maxRecDepth 100000
set_option linter.unusedVariables false
set_option maxHeartbeats 4000000
namespace Mine
noncomputable def sees (x : Str) : Option Bool := (drive 300 (seek x)).bind hits
theorem Sees.of {x : Str} {b : Bool} (h : sees x = some b) (hx : x.length ≤ 1000) : Sees x b := by
  unfold sees at h
  cases e : drive 300 (seek x) with
  | none => rw [e] at h; cases h
  | some m =>
    rw [e] at h
    exact ⟨300, m, e, by decide, h, by have : x.cps.size ≤ 1000 := hx; omega⟩
def ipN (c : Cd) : Bool := c.t == 2 && !c.ls.isEmpty
def ipD (c : Cd) : Bool := c.t == 2
def good (x : Str) : Bool := decide (x.length ≤ 20) && SeqAt.shaped (.str x)
def tailS (c : Cd) : Str := match c.ls.getLast? with | some l => labS l | none => topS c.t
def ipT (c : Cd) : Bool := c.t == 2 && c.ls.isEmpty
def loc : Str := Str.ofString "local"
set_option maxRecDepth 1000000
/-- the codes, in six parts -/
def codesOf (t : Nat) (ls : List (List Nat)) : List Cd := ls.map fun l => ⟨l, t⟩
abbrev lls1 : List (List Nat) := [[], [0], [1], [0, 0], [0, 1], [1, 0], [1, 1]]
abbrev lls2 : List (List Nat) := [[0, 0, 0], [0, 0, 1], [0, 1, 0], [0, 1, 1], [1, 0, 0], [1, 0, 1], [1, 1, 0], [1, 1, 1]]
theorem codes_six : codes = codesOf 0 lls1 ++ codesOf 0 lls2 ++ (codesOf 1 lls1 ++ codesOf 1 lls2) ++ (codesOf 2 lls1 ++ codesOf 2 lls2) := rfl
theorem codes_cases {p : Cd → Prop} (h1 : ∀ c ∈ codesOf 0 lls1, p c) (h2 : ∀ c ∈ codesOf 0 lls2, p c) (h3 : ∀ c ∈ codesOf 1 lls1, p c) (h4 : ∀ c ∈ codesOf 1 lls2, p c) (h5 : ∀ c ∈ codesOf 2 lls1, p c) (h6 : ∀ c ∈ codesOf 2 lls2, p c) : ∀ c ∈ codes, p c := fun c hc => by
  rw [codes_six] at hc
  simp only [List.mem_append] at hc
  rcases hc with ((h | h) | (h | h)) | (h | h)
  · exact h1 c h
  · exact h2 c h
  · exact h3 c h
  · exact h4 c h
  · exact h5 c h
  · exact h6 c h
abbrev NameLow (c : Cd) : Prop := Txt.lower (Txt.upper c.str) = c.str ∧ good c.str = true ∧ good (Txt.upper c.str) = true ∧ sees c.str = some (ipN c)
theorem name_low1 : ∀ c ∈ codesOf 0 lls1, NameLow c := by decide +kernel
theorem name_low2 : ∀ c ∈ codesOf 0 lls2, NameLow c := by decide +kernel
theorem name_low3 : ∀ c ∈ codesOf 1 lls1, NameLow c := by decide +kernel
theorem name_low4 : ∀ c ∈ codesOf 1 lls2, NameLow c := by decide +kernel
theorem name_low5 : ∀ c ∈ codesOf 2 lls1, NameLow c := by decide +kernel
theorem name_low6 : ∀ c ∈ codesOf 2 lls2, NameLow c := by decide +kernel
theorem name_low : ∀ c ∈ codes, NameLow c := codes_cases name_low1 name_low2 name_low3 name_low4 name_low5 name_low6
abbrev DotLow (c : Cd) : Prop := Txt.lower (dot ++ c.str) = dot ++ c.str ∧ good (dot ++ c.str) = true ∧ sees (dot ++ c.str) = some (ipD c)
theorem dot_low1 : ∀ c ∈ codesOf 0 lls1, DotLow c := by decide +kernel
theorem dot_low2 : ∀ c ∈ codesOf 0 lls2, DotLow c := by decide +kernel
theorem dot_low3 : ∀ c ∈ codesOf 1 lls1, DotLow c := by decide +kernel
theorem dot_low4 : ∀ c ∈ codesOf 1 lls2, DotLow c := by decide +kernel
theorem dot_low5 : ∀ c ∈ codesOf 2 lls1, DotLow c := by decide +kernel
theorem dot_low6 : ∀ c ∈ codesOf 2 lls2, DotLow c := by decide +kernel
theorem dot_low : ∀ c ∈ codes, DotLow c := codes_cases dot_low1 dot_low2 dot_low3 dot_low4 dot_low5 dot_low6
theorem tail_low : ∀ c ∈ codes, Txt.lower (dot ++ tailS c) = dot ++ tailS c ∧ good (dot ++ tailS c) = true ∧ sees (dot ++ tailS c) = some (ipT c) := by decide +kernel
theorem loc_low : Txt.lower loc = loc ∧ good loc = true ∧ sees loc = some false := by decide +kernel
theorem pair_dot : ∀ c ∈ codes, ∀ o ∈ codes, udm c.str (dot ++ o.str) (ipN c) (ipD o) = Un c o := by decide +kernel
theorem own_up : ∀ c ∈ codes, udm c.str c.str (ipN c) (ipN c) = true ∧ udm c.str loc (ipN c) false = same c.str loc ∧ udm c.str (dot ++ tailS c) (ipN c) (ipT c) = false := by decide +kernel
theorem good_len {x : Str} (h : good x = true) : x.length ≤ 1000 := by
  unfold good at h
  rw [Bool.and_eq_true] at h
  have := of_decide_eq_true h.1
  omega
theorem good_sh {x : Str} (h : good x = true) : SeqAt.shaped (.str x) = true := by
  unfold good at h
  rw [Bool.and_eq_true] at h
  exact h.2
section
variable {w : World} {k : Nat} {c o : Cd}
theorem udm_dot (hc : c ∈ codes) (ho : o ∈ codes) : Fn w (k + 2) (.ref 50) [.str (Txt.upper c.str), .str (dot ++ o.str)] (.bool (Un c o)) := by
  obtain ⟨a1, a2, _, a4⟩ := name_low c hc
  obtain ⟨b1, b2, b3⟩ := dot_low o ho
  rw [← pair_dot c hc o ho]
  exact udm_spec a1 b1 (.of a4 (good_len a2)) (.of b3 (good_len b2)) (good_len a2) (good_len b2) (good_sh a2) (good_sh b2)
theorem udm_up (hc : c ∈ codes) : Fn w (k + 2) (.ref 50) [.str (Txt.upper c.str), .str (Txt.upper c.str)] (.bool true) := by
  obtain ⟨a1, a2, _, a4⟩ := name_low c hc
  rw [← (own_up c hc).1]
  exact udm_spec a1 a1 (.of a4 (good_len a2)) (.of a4 (good_len a2)) (good_len a2) (good_len a2) (good_sh a2) (good_sh a2)
theorem udm_loc (hc : c ∈ codes) : Fn w (k + 2) (.ref 50) [.str (Txt.upper c.str), .str loc] (.bool (same c.str loc)) := by
  obtain ⟨a1, a2, _, a4⟩ := name_low c hc
  obtain ⟨b1, b2, b3⟩ := loc_low
  rw [← (own_up c hc).2.1]
  exact udm_spec a1 b1 (.of a4 (good_len a2)) (.of b3 (good_len b2)) (good_len a2) (good_len b2) (good_sh a2) (good_sh b2)
theorem udm_tail (hc : c ∈ codes) : Fn w (k + 2) (.ref 50) [.str (Txt.upper c.str), .str (dot ++ tailS c)] (.bool false) := by
  obtain ⟨a1, a2, _, a4⟩ := name_low c hc
  obtain ⟨b1, b2, b3⟩ := tail_low c hc
  rw [← (own_up c hc).2.2]
  exact udm_spec a1 b1 (.of a4 (good_len a2)) (.of b3 (good_len b2)) (good_len a2) (good_len b2) (good_sh a2) (good_sh b2)
end
end Mine
end
section
open PySem PySem.W PyProof.Rows PySem.Calls
set_option Elab.async false
set_option maxRecDepth 100000
set_option linter.unusedVariables false
set_option maxHeartbeats 4000000
namespace Mine
/-! the names of a list of codes -/
abbrev nmS (c : Cd) : PyData := .str c.str
abbrev nms (cs : List Cd) : List PyData := cs.map nmS
def decS (d : PyData) : Cd := (codes.find? fun o => PyData.eqv d (nmS o)).getD ⟨[], 0⟩
theorem decS_nm : ∀ c ∈ codes, decS (nmS c) = c := by decide +kernel
structure Ok (cs : List Cd) : Prop where
  mem : ∀ c ∈ cs, c ∈ codes
  len : cs.length ≤ 5
def ov (cs : List Cd) (c : Cd) : Nat := (cs.filter (Un c)).length
noncomputable def hfr (cs : List Cd) : Nat → List Int
  | 0 => [0]
  | i + 1 => (hfr cs i).map (· + 1) ++ (List.replicate (ov cs (cs.getD i ⟨[], 0⟩)) (hfr cs i)).flatten
theorem Un_irr (c : Cd) : Un c c = false := by unfold Un; simp
theorem ov_lt {cs : List Cd} {c : Cd} (h : c ∈ cs) : ov cs c < cs.length := by
  unfold ov
  exact List.length_filter_lt_length_iff_exists.mpr ⟨c, h, by rw [Un_irr]; decide⟩
theorem ov_le (cs : List Cd) (c : Cd) : ov cs c ≤ cs.length := List.length_filter_le _ _
theorem rep_len (n : Nat) (xs : List Int) : (List.replicate n xs).flatten.length = n * xs.length := by
  induction n with
  | zero => simp
  | succ n ih => rw [List.replicate_succ, List.flatten_cons, List.length_append, ih, Nat.succ_mul]; omega
theorem hfr_len {cs : List Cd} (h : Ok cs) : ∀ i, i ≤ cs.length → (hfr cs i).length ≤ 5 ^ i
  | 0, _ => by simp [hfr]
  | i + 1, hi => by
    have ih := hfr_len h i (by omega)
    have e : cs.getD i ⟨[], 0⟩ ∈ cs := by
      rw [List.getD_eq_getElem?_getD, List.getElem?_eq_getElem (by omega)]
      exact List.getElem_mem _
    have := ov_lt e
    have h5 := h.len
    show ((hfr cs i).map (· + 1) ++ (List.replicate (ov cs (cs.getD i ⟨[], 0⟩)) (hfr cs i)).flatten).length ≤ 5 ^ (i + 1)
    rw [List.length_append, List.length_map, rep_len]
    have h4 : ov cs (cs.getD i ⟨[], 0⟩) ≤ 4 := by omega
    have := Nat.mul_le_mul_right (hfr cs i).length h4
    rw [Nat.pow_succ]
    omega
def incF : PyData → PyData
  | .int a => .int (a + 1)
  | _ => .none
def cntF (fs : List Int) : PyData → PyData
  | .int j => .int (fs.countP (· == j))
  | _ => .none
noncomputable def hungD (cs : List Cd) : List PyData := (upto (cs.length + 1)).map (cntF (hfr cs cs.length))
theorem nm_under {w : World} {sc : Sc} (h : sc.lookup (Str.ofString "_law_under") = some .globalImplicit) : Nm w sc (Str.ofString "_law_under") (.ref 104) := .mod h rfl (by decide +kernel)
theorem ints_layable (fs : List Int) : PyData.canLayAll0 (fs.map PyData.int) = true := by
  induction fs with
  | nil => rfl
  | cons a fs ih => exact ih
theorem Fn.mono {w : World} {k k' : Nat} {f : Value} {ds : List PyData} {d : PyData} (h : Fn w k f ds d) (hk : k ≤ k') : Fn w k' f ds d := fun prog A s vs B R g r => h prog A s vs B (R.mono hk) g r
section
variable {w : World}
theorem hung_spec {cs : List Cd} (h : Ok cs) : Fn w 3 (.ref 109) [.list (nms cs)] (.list (hungD cs)) := by
  have h5 := h.len
  have hz : cs.length ≤ sizeLine := by have := szl; omega
  refine Fn.def (k := 2) (def_hung w) rfl ?_
  refine Exs.cons (Ex.assign (d := .list ((hfr cs 0).map .int)) (Ev.list (Evs.cons Ev.int Evs.nil) (show 1 ≤ 1000 by decide)) (.inr rfl)) ?_
  let ρs : Nat → Rho := fun i => [(Str.ofString "names", .list (nms cs)), (Str.ofString "frees", .list ((hfr cs i).map .int))]
  refine Exs.cons (Ex.for (items := nms cs) (fun _ => none) ρs (It.name rfl) rfl (Sub.cons rfl (Sub.cons rfl Sub.nil)) (.inr rfl) (fun _ => rfl) (fun _ => rfl) fun i d hd => ?_) (Exs.ret (Ex.return ?_))
  · obtain ⟨c, hc, rfl⟩ : ∃ c, cs[i]? = some c ∧ d = nmS c := by
      rw [List.getElem?_map] at hd
      cases e : cs[i]? with
      | none => rw [e] at hd; cases hd
      | some c => rw [e] at hd; cases hd; exact ⟨c, rfl, rfl⟩
    have hi : i < cs.length := by
      by_cases q : i < cs.length
      · exact q
      · rw [List.getElem?_eq_none (by omega)] at hc; cases hc
    have hcm : c ∈ cs := List.mem_of_getElem? hc
    have hcd : cs.getD i ⟨[], 0⟩ = c := by rw [List.getD_eq_getElem?_getD, hc]; rfl
    have hl : (hfr cs i).length ≤ 625 := Nat.le_trans (hfr_len h i (by omega)) (by
      have := Nat.pow_le_pow_right (n := 5) (by decide) (show i ≤ 4 by omega)
      exact this)
    refine Exs.weaken (ρ₁ := upd (upd (upd (ρs i) (Str.ofString "name") (nmS c)) (Str.ofString "over") (.list (((nms cs).filter fun d => Un c (decS d)).map id))) (Str.ofString "frees") (.list ((hfr cs (i + 1)).map .int))) ?_ (Sub.cons rfl (Sub.cons rfl Sub.nil))
    refine Exs.cons (Ex.assignComp [(Str.ofString "name", nmS c)] (fun d => Un c (decS d)) id rfl rfl rfl (It.name rfl) (by rw [List.length_map]; exact hz) rfl (by decide +kernel) (free_of rfl) (Cap.cons rfl (by decide +kernel) Cap.nil) (.inl rfl) rfl (fun d hd => ?_) fun d hd _ => Ev.name rfl) (Exs.cons (Ex.assign ?_ (.inr rfl)) Exs.nil)
    · obtain ⟨o, ho, rfl⟩ := List.mem_map.mp hd
      rw [decS_nm o (h.mem o ho)]
      exact TsL.one (Ts.val (Ev.call (nm_under rfl) (keepsOk.def rfl) (Evs.cons (Ev.name rfl) (Evs.cons (Ev.name rfl) Evs.nil)) (Fn.mono (under_spec (h.mem c hcm) (h.mem o ho)) (by decide))) Tr.bool)
    · have e0 : (hfr cs (i + 1)).map PyData.int = ((((hfr cs i).map PyData.int).filter fun _ => true).map incF) ++ (List.replicate (ov cs c) ((hfr cs i).map PyData.int)).flatten := by
        show ((hfr cs i).map (· + 1) ++ (List.replicate (ov cs (cs.getD i ⟨[], 0⟩)) (hfr cs i)).flatten).map PyData.int = _
        rw [filter_tt, hcd, List.map_append, List.map_map, List.map_map, List.map_flatten, List.map_replicate]
        rfl
      rw [e0]
      have hlen : ((nms cs).filter fun d => Un c (decS d)).length = ov cs c := by
        unfold ov
        rw [List.filter_map, List.length_map]
        congr 1
        refine List.filter_congr fun o ho => ?_
        show Un c (decS (nmS o)) = _
        rw [decS_nm o (h.mem o ho)]
      refine Ev.binop (b := .list (List.replicate (ov cs c) ((hfr cs i).map PyData.int)).flatten) (Ev.comp [] (fun _ => true) incF (It.name rfl) (by rw [List.length_map]; have := szl; omega) rfl (by decide +kernel) (free_of rfl) Cap.nil (.inl rfl) rfl (fun d hd => TsL.nil) fun d hd _ => ?_) (Ev.binop (b := .int (ov cs c : Int)) (Ev.name rfl) ?_ ?_) ?_
      · obtain ⟨a, _, rfl⟩ := List.mem_map.mp hd
        exact Ev.binop (Ev.name rfl) Ev.int Op2.addI
      · rw [← hlen, show ((((nms cs).filter fun d => Un c (decS d)).length : Nat) : Int) = ((((nms cs).filter fun d => Un c (decS d)).map id).length : Int) by rw [List.length_map]]
        exact Ev.call (nm_len rfl) keepsOk.builtin (Evs.cons (Ev.name rfl) Evs.nil) (Fn.lenL (by rw [List.length_map]; exact Nat.le_trans (List.length_filter_le _ _) (by rw [List.length_map]; exact hz)))
      · have := Op2.mulL (w := w) (k := 2) (xs := (hfr cs i).map PyData.int) (x := (ov cs c : Int)) (by omega) (by have := ov_le cs c; omega) (by rw [List.length_map]; omega)
        rw [Int.toNat_natCast] at this
        exact this
      · refine Op2.addL ?_
        have e3 : (List.replicate (ov cs c) ((hfr cs i).map PyData.int)).flatten = ((List.replicate (ov cs c) (hfr cs i)).flatten).map PyData.int := by rw [List.map_flatten, List.map_replicate]
        rw [filter_tt, List.length_map, List.length_map, e3, List.length_map, rep_len]
        have := ov_le cs c
        have h1 : ov cs c * (hfr cs i).length ≤ 5 * 625 := Nat.mul_le_mul (by omega) hl
        have := szl
        omega
  · have hl : (hfr cs cs.length).length ≤ 3125 := Nat.le_trans (hfr_len h _ (Nat.le_refl _)) (by
      have := Nat.pow_le_pow_right (n := 5) (by decide) h5
      exact this)
    have e1 : hungD cs = (((upto (cs.length + 1)).filter fun _ => true).map (cntF (hfr cs cs.length))) := by rw [filter_tt]; rfl
    rw [e1, List.length_map]
    refine Ev.comp [(Str.ofString "frees", .list ((hfr cs cs.length).map .int))] (fun _ => true) (cntF (hfr cs cs.length)) (items := upto (cs.length + 1)) ?_ ?_ rfl (by decide +kernel) (free_of rfl) (Cap.cons rfl (by decide +kernel) Cap.nil) (.inl rfl) rfl (fun d hd => TsL.nil) fun d hd _ => ?_
    · rw [show upto (cs.length + 1) = upto ((cs.length : Int) + 1).toNat by congr 1]
      refine It.range (nm_range rfl) (Ev.binop (a := .int (cs.length : Int)) ?_ Ev.int Op2.addI) (by omega) (by omega)
      rw [show (cs.length : Int) = ((nms cs).length : Int) by rw [List.length_map]]
      exact Ev.call (nm_len rfl) keepsOk.builtin (Evs.cons (Ev.name rfl) Evs.nil) (Fn.lenL (by rw [List.length_map]; exact hz))
    · rw [upto_length]; have := szl; omega
    · obtain ⟨j, hj, rfl⟩ := mem_upto hd
      have e3 : cntF (hfr cs cs.length) (.int (j : Int)) = .int (((hfr cs cs.length).map PyData.int).countP fun y => PyData.eqv y (.int (j : Int))) := by
        show PyData.int ((hfr cs cs.length).countP (· == (j : Int))) = _
        rw [List.countP_map]
        rfl
      rw [e3]
      exact Ev.meth1 (Ev.name rfl) (Evs.cons (Ev.name rfl) Evs.nil) Ty.list F.plainAttrs_list F.slot_list_count F.type_list_count (Me.count (ints_layable _) rfl (by simp [PyData.depth]))
end
end Mine
end
section
open PySem PySem.W PyProof.Rows PySem.Calls
set_option Elab.async false
set_option maxRecDepth 100000
set_option linter.unusedVariables false
set_option linter.unusedSimpArgs false
namespace Mine
def innerGo (e : Expr) (iter2 : Expr) (D : Addr) (cenv : Env) : Sem Unit := do
  let x ← eval iter2 cenv
  standAt iter2.pos
  let x ← foldedSetIterable iter2 cenv x
  let it ← holding [x] (pyIter x)
  let _ ← runOwn (.compStart e 1 it (.ref D) cenv) cenv
theorem turn2a {elt iter iter2 : Expr} {x y : Str} {px py : Pos} {ifs2 : List Expr} {scope : Scope} {epos : Pos} {I D : Addr} {cenv : Env} :
  compTurn (.ListComp elt [⟨.Name x px, iter, [], 0⟩, ⟨.Name y py, iter2, ifs2, 0⟩] scope epos) 0 (.ref I) (.ref D) cenv = standAt iter.pos >>= fun _ => pyNext (.ref I) >>= fun r => match r with
      | none => pure (.done .next)
      | some v => assign (.Name x px) cenv v >>= fun _ => innerGo (.ListComp elt [⟨.Name x px, iter, [], 0⟩, ⟨.Name y py, iter2, ifs2, 0⟩] scope epos) iter2 D cenv >>= fun _ => again (.compLoop (.ListComp elt [⟨.Name x px, iter, [], 0⟩, ⟨.Name y py, iter2, ifs2, 0⟩] scope epos) 0 (.ref I) (.ref D) cenv) := by
  unfold compTurn
  refine congrArg (standAt iter.pos >>= ·) (funext fun _ => ?_)
  refine congrArg (pyNext (.ref I) >>= ·) (funext fun r => ?_)
  cases r with
  | none => rfl
  | some v =>
    show (assign (.Name x px) cenv v >>= _) = _
    refine congrArg (assign (.Name x px) cenv v >>= ·) (funext fun _ => ?_)
    unfold innerGo
    simp only [bind_assoc]
    rfl
theorem turn2b {elt iter iter2 : Expr} {x y : Str} {px py : Pos} {ifs ifs2 : List Expr} {scope : Scope} {epos : Pos} {I D : Addr} {cenv : Env} :
  compTurn (.ListComp elt [⟨.Name x px, iter, ifs, 0⟩, ⟨.Name y py, iter2, ifs2, 0⟩] scope epos) 1 (.ref I) (.ref D) cenv = standAt iter2.pos >>= fun _ => pyNext (.ref I) >>= fun r => match r with
      | none => pure (.done .next)
      | some v => assign (.Name y py) cenv v >>= fun _ => (tests ifs2 cenv >>= fun ok => emitIf ok D elt cenv) >>= fun _ => again (.compLoop (.ListComp elt [⟨.Name x px, iter, ifs, 0⟩, ⟨.Name y py, iter2, ifs2, 0⟩] scope epos) 1 (.ref I) (.ref D) cenv) := by
  unfold compTurn
  refine congrArg (standAt iter2.pos >>= ·) (funext fun _ => ?_)
  refine congrArg (pyNext (.ref I) >>= ·) (funext fun r => ?_)
  cases r with
  | none => rfl
  | some v =>
    show (assign (.Name y py) cenv v >>= _) = _
    refine congrArg (assign (.Name y py) cenv v >>= ·) (funext fun _ => ?_)
    rw [bind_assoc]
    refine congrArg (tests ifs2 cenv >>= ·) (funext fun ok => ?_)
    cases ok
    · rfl
    · rfl
section
variable {w : World} {k : Nat} {sc : Sc} {ρ : Rho} {prog : Program} {A : Around}
theorem compStart1 {R : Result → Shared → Prop} {s : Shared} {elt t1 i1 t2 i2 : Expr} {f1 f2 : List Expr} {scope : Scope} {pos : Pos} {it acc : Value} {env : Env}
    (h0 : codeAny (model prog w) A (.compLoop (.ListComp elt [⟨t1, i1, f1, 0⟩, ⟨t2, i2, f2, 0⟩] scope pos) 1 it acc env) R s)
    (h : wpAny (model prog w) A (pyIter it) (fun it' s' => codeAny (model prog w) A (.compLoop (.ListComp elt [⟨t1, i1, f1, 0⟩, ⟨t2, i2, f2, 0⟩] scope pos) 1 it' acc env) R s')
      (notedBy (model prog w) A env fun x s' => R (.error x) s') s) :
    codeAny (model prog w) A (.compStart (.ListComp elt [⟨t1, i1, f1, 0⟩, ⟨t2, i2, f2, 0⟩] scope pos) 1 it acc env) R s := by
  refine codeAny_of_tree ?_
  show wpAny _ _ ((compStart (.ListComp elt [⟨t1, i1, f1, 0⟩, ⟨t2, i2, f2, 0⟩] scope pos) 1 it acc env).onRaise (fun x => do noteFrame x env; standAt theWindowsPlace)) _ _ s
  refine wpAny_notedAt ?_
  unfold compStart
  show wpAny _ _ (ask >>= _) _ _ s
  refine wpAny_bind (wpAny_askSetting (wpAny_ite ?_))
  split
  · first
      | exact wpAny_bind (wpAny_pure (wpAny_pure (And.intro rfl h0)))
      | exact wpAny_pure (And.intro rfl h0)
  · first
      | exact wpAny_bind (wpAny_rule (wpAny_bind (wpAny_standAt (wpAny_bind (wpAny_mono h (fun it' s' h' => wpAny_pure (And.intro rfl h')) fun _ _ x => x)))))
      | (refine wpAny_bind (wpAny_rule ?_); show wpAny _ _ (standAt i2.pos >>= _) _ _ s; exact wpAny_bind (wpAny_standAt (wpAny_bind (wpAny_mono h (fun it' s' h' => wpAny_pure (And.intro rfl h')) fun _ _ x => x))))
/-- the inner loop of two -/
theorem CI.inner {s : Shared} {B : Addr → Prop} {cenv : Env} {M Av : Addr → Prop} {D : Addr} {ys : List PyData} {s' : Shared} {elt iter iter2 : Expr} {x y : Str} {px py : Pos} {ifs ifs2 : List Expr} {scope : Scope} {epos : Pos} {items2 : List PyData} {p : PyData → Bool} {f : PyData → PyData} {Q : Unit → Shared → Prop}
    (C : CI w s B cenv sc M Av D ρ ys s') (R : Rm k A) (hit : It w k sc ρ iter2 items2)
    (hx : sc.lookup y = some .local ∨ (sc.lookup y = some .cell ∧ ∃ c, cenv.cells.lookup y = some c ∧ M c)) (hρ : ρ.lookup y = none)
    (ht : ∀ d ∈ items2, TsL w k sc (upd ρ y d) ifs2 (p d)) (he : ∀ d ∈ items2, p d = true → Ev w k sc (upd ρ y d) elt (f d)) (hl : ys.length + items2.length ≤ sizeLine)
    (hs : ∀ env x, foldedSetIterable iter2 env x = pure x)
    (h : ∀ s'', CI w s B cenv sc M Av D ρ (ys ++ (items2.filter p).map f) s'' → (∀ b o, ¬ M b → b ≠ D → s'.heap.get? b = some o → s''.heap.get? b = some o) → Q () s'') :
    wpAny (model prog w) A (innerGo (.ListComp elt [⟨.Name x px, iter, ifs, 0⟩, ⟨.Name y py, iter2, ifs2, 0⟩] scope epos) iter2 D cenv) Q NoE s' := by
  obtain ⟨B', h1, F, vs, ⟨n, h2⟩, h3⟩ := id C.ex
  unfold innerGo
  refine wpAny_bind (wpAny_mono (hit prog A s' cenv B' R (C.g.keeps C.kp.heap) F.vars) (fun xv s₁ hv => ?_) fun _ _ e => e)
  refine wpAny_bind (wpAny_standAt (wpAny_bind (wpAny_of_eq (hs cenv xv) (wpAny_bind (wpAny_holding (wpAny_mono hv.2 (fun it s₂ h₂ => ?_) fun _ _ e => e))))))
  obtain ⟨kp, I, fp, wr, P, St, rfl, W, hst, hfp, hwn, hfs, hwo, hP⟩ := h₂
  have C₂ := C.next kp
  have hfM : ∀ b ∈ fp, ¬ M b := fun b hb hm => by
    obtain ⟨o, q1, q2⟩ := F.mobj b hm
    rcases hfs b hb with q | ⟨_, o', q, sq⟩
    · rw [q] at q1; cases q1
    · rw [q] at q1; cases q1; exact q2 sq
  have hfD : ∀ b ∈ fp, b ≠ D := fun b hb q => by
    subst q
    rcases hfs b hb with q | ⟨q, _⟩
    · rw [h2] at q; cases q
    · exact (h1 b q).1 C.avD
  have hwA : ∀ b ∈ wr, ¬ Av b := fun b hb q => by
    obtain ⟨o, e⟩ := C.avAl b q
    rw [hwn b hb] at e; cases e
  have key : codeAny (model prog w) A (.compLoop (.ListComp elt [⟨.Name x px, iter, ifs, 0⟩, ⟨.Name y py, iter2, ifs2, 0⟩] scope epos) 1 (.ref I) (.ref D) cenv) (fun r s' => match r with | .ok f => wpAny (model prog w) A (pure ()) Q NoE s' | .error e => cameBackBy (model prog w) A cenv NoE e s') s₂ := by
    refine CI.level W _ (fun d => if p d then [f d] else []) turn2b C₂ hst (fun b hb => kp_none C.kp (hwn b hb)) hfM hfD hwA hwo (fun i v hv => ?_) hx hρ (fun d hd ys' Av' s₃ Q' C' hl' hQ => ?_) fun s₃ C' kept => ?_
    · obtain ⟨d, hd, rd⟩ := hP i v hv
      refine ⟨d, _, hd, fun a ha => ?_, rd⟩
      rcases ha with ha | ha
      · exact h1 a ha
      · refine ⟨fun q => ?_, .inr (kp_none C.kp ha)⟩
        obtain ⟨o, e⟩ := C.avAl a q
        rw [ha] at e; cases e
    · refine C'.emit R (ht d hd) (he d hd) ?_ hQ
      rw [flatMap_if] at hl'
      have h1 := List.length_filter_le p items2
      rw [List.length_map] at hl'
      omega
    · refine wpAny_pure (h s₃ ?_ fun b o hM hD e => kept b o (fun hb => by rw [hwn b hb] at e; cases e) hM hD (kp.heap b o e))
      rw [flatMap_if] at C'
      exact C'
  exact wpAny_bind (wpAny_runOwn (compStart1 key (W.self 0 s₂ _ _ hst key)))
/-- a comprehension with two fors -/
theorem comp2 {RR : Value → Addr → Result → Shared → Prop} {s : Shared} {B : Addr → Prop} {env : Env} {elt iter iter2 : Expr} {x y : Str} {px py : Pos} {ifs2 : List Expr} {scope : Scope} {epos : Pos} {items : List PyData} {items2 : PyData → List PyData} {ρ₁ : Rho} {p : PyData → PyData → Bool} {f : PyData → PyData → PyData}
    (R : Rm k A) (g : G w s.heap) (V : Vars B env sc ρ s.heap) (hit : It w k sc ρ iter items) (hlen : (items.flatMap items2).length ≤ 1000000) (hlen2 : ∀ d ∈ items, (items2 d).length ≤ 1000)
    (hkind : scope.kind = .function) (hu : (scope.names.map (·.1)).Nodup) (hf : Free scope.names sc ρ) (hc : Cap scope.names ρ₁ ρ) (hx : scope.names.lookup x = some .local ∨ scope.names.lookup x = some .cell) (hρ : ρ₁.lookup x = none)
    (hy : scope.names.lookup y = some .local ∨ scope.names.lookup y = some .cell) (hρy : ∀ d, (upd ρ₁ x d).lookup y = none)
    (hit2 : ∀ d ∈ items, It w k (relab scope.names sc) (upd ρ₁ x d) iter2 (items2 d))
    (ht : ∀ d ∈ items, ∀ d' ∈ items2 d, TsL w k (relab scope.names sc) (upd (upd ρ₁ x d) y d') ifs2 (p d d')) (he : ∀ d ∈ items, ∀ d' ∈ items2 d, p d d' = true → Ev w k (relab scope.names sc) (upd (upd ρ₁ x d) y d') elt (f d d'))
    (hs2 : ∀ env x, foldedSetIterable iter2 env x = pure x)
    (hRR : ∀ D C s', CompEnd w s B (items.flatMap fun d => ((items2 d).filter (p d)).map (f d)) D C s' → RR (.ref D) C (.ok .next) s') :
    wpAny (model prog w) A (eval iter env) (fun xv s₁ => wpAny (model prog w) A (pyIter xv) (fun it s₂ => wpAny (model prog w) A (newList []) (fun acc s₃ =>
      wpAny (model prog w) A (newFunctionEnv scope env.globals (closeOf env.cells scope.names []) [] env.qual none .none (some env)) (fun cenv s₄ =>
        codeAny (model prog w) A (.compStart (.ListComp elt [⟨.Name x px, iter, [], 0⟩, ⟨.Name y py, iter2, ifs2, 0⟩] scope epos) 0 it acc { cenv with scope := relabel scope env }) (RR acc cenv.locals) s₄) NoE s₃) NoE s₂) NoE s₁) NoE s := by
  refine wpAny_mono (hit prog A s env B R g V) (fun xv s₁ h₁ => ?_) fun _ _ e => e
  refine wpAny_mono h₁.2 (fun it s₂ h₂ => ?_) fun _ _ e => e
  obtain ⟨kp, I, fp, wr, P, St, rfl, W, hst, hfp, hwn, hfs, hwo, hP⟩ := h₂
  refine wpAny_newObj_type (newEnv_comp ?_)
  have hz1 : (s₂.heap.push { cls := .type "list", data := .seq #[] }).objs.size = s₂.heap.objs.size + 1 := Heap.size_push ..
  dsimp only
  generalize hH : pushCells ((s₂.heap.push { cls := .type "list", dict := none, data := .seq ([] : List Value).toArray }).push { cls := .type "dict", data := .dict #[] }) scope.names = H
  have hC0 : (s₂.heap.push { cls := .type "list", dict := none, data := .seq ([] : List Value).toArray }).objs.size = s₂.heap.objs.size + 1 := Heap.size_push ..
  rw [hC0]
  have C := CI.start g V kp hkind hu hf hc (s₂.heap.objs.size + 1) rfl _ rfl H hH.symm
  have hHs : H.objs.size = s₂.heap.objs.size + 1 + 1 + cnt scope.names := by rw [← hH, pushCells_size, Heap.size_push, hC0]
  have keep₂ : ∀ b o, s₂.heap.get? b = some o → H.get? b = some o := fun b o e => by rw [← hH]; exact pushCells_keeps _ _ _ _ (Heap.get?_push_of_some _ (Heap.get?_push_of_some _ e))
  have hst' : St 0 H := W.frame _ _ _ hst fun b _ o e => keep₂ b o e
  have hfM : ∀ b ∈ fp, ¬ (@LE.le Nat _ (s₂.heap.objs.size + 1) b ∧ b < H.objs.size) := fun b hb q => by
    have h1 : @LT.lt Nat _ b s₂.heap.objs.size := hfp b hb
    have h2 := q.1
    omega
  have hfD : ∀ b ∈ fp, b ≠ s₂.heap.objs.size := fun b hb => Nat.ne_of_lt (hfp b hb)
  have tgt : ∀ z, scope.names.lookup z = some .local ∨ scope.names.lookup z = some .cell → (relab scope.names sc).lookup z = some .local ∨ ((relab scope.names sc).lookup z = some .cell ∧ ∃ c, (cellsFrom (s₂.heap.objs.size + 1 + 1) scope.names (closeOf env.cells scope.names [])).lookup z = some c ∧ (@LE.le Nat _ (s₂.heap.objs.size + 1) c ∧ c < H.objs.size)) := fun z hz => by
    rcases hz with hx | hx
    · exact .inl (by rw [lookup_relab, hx]; rfl)
    · refine .inr ⟨by rw [lookup_relab, hx]; rfl, ?_⟩
      obtain ⟨c, h1, h2, h3⟩ := cellsFrom_has z scope.names (s₂.heap.objs.size + 1 + 1) (closeOf env.cells scope.names []) (mem_of_lookup hx)
      exact ⟨c, h1, by show s₂.heap.objs.size + 1 ≤ c; omega, by rw [hHs]; exact h3⟩
  have fle : ∀ l : List PyData, (l.flatMap fun d => ((items2 d).filter (p d)).map (f d)).length ≤ (l.flatMap items2).length := fun l => by
    induction l with
    | nil => exact Nat.le_refl _
    | cons a l ih =>
      rw [List.flatMap_cons, List.flatMap_cons, List.length_append, List.length_append, List.length_map]
      have := List.length_filter_le (p a) (items2 a)
      omega
  refine startTwice W hst' (CI.level W _ (fun d => ((items2 d).filter (p d)).map (f d)) turn2a C hst' hwn hfM hfD (fun b hb q => hfD b (W.sub b hb) q) hwo (fun i v hv => ?_) (tgt x hx) hρ (fun d hd ys' Av' s' Q C' hl hQ => ?_) fun s' C' _ => ?_)
  · obtain ⟨d, hd, rd⟩ := hP i v hv
    refine ⟨d, fun a => a ≠ s₂.heap.objs.size ∧ Nw B s.heap a, hd, fun a ha => ha, rd.mono fun a o e _ => ⟨keep₂ a o e.get, Nat.ne_of_lt (Heap.lt_size e.get), e.ok⟩⟩
  · refine C'.inner R (hit2 d hd) (tgt y hy) (hρy d) (ht d hd) (he d hd) ?_ hs2 hQ
    have := fle items
    have := hlen2 d hd
    have := szl
    rw [List.length_nil] at hl
    omega
  · refine hRR _ _ s' ?_
    have C'' := C'
    rw [List.nil_append] at C''
    exact C''.fin
/-- [elt for x in iter for y in iter2 if test] -/
theorem Ev.comp2 {elt iter iter2 : Expr} {x y : Str} {px py : Pos} {ifs2 : List Expr} {scope : Scope} {epos : Pos} {items : List PyData} (items2 : PyData → List PyData) (ρ₁ : Rho) (p : PyData → PyData → Bool) (f : PyData → PyData → PyData)
    (hit : It w k sc ρ iter items) (hlen : (items.flatMap items2).length ≤ 1000000) (hlen2 : ∀ d ∈ items, (items2 d).length ≤ 1000)
    (hkind : scope.kind = .function) (hu : (scope.names.map (·.1)).Nodup) (hf : Free scope.names sc ρ) (hc : Cap scope.names ρ₁ ρ) (hx : scope.names.lookup x = some .local ∨ scope.names.lookup x = some .cell) (hρ : ρ₁.lookup x = .none)
    (hy : scope.names.lookup y = some .local ∨ scope.names.lookup y = some .cell) (hρy : ∀ d, (upd ρ₁ x d).lookup y = .none)
    (hit2 : ∀ d ∈ items, It w k (relab scope.names sc) (upd ρ₁ x d) iter2 (items2 d))
    (ht : ∀ d ∈ items, ∀ d' ∈ items2 d, TsL w k (relab scope.names sc) (upd (upd ρ₁ x d) y d') ifs2 (p d d')) (he : ∀ d ∈ items, ∀ d' ∈ items2 d, p d d' = true → Ev w k (relab scope.names sc) (upd (upd ρ₁ x d) y d') elt (f d d'))
    (hs : ∀ env x, foldedSetIterable iter env x = pure x := by intro _ _; rfl) (hs2 : ∀ env x, foldedSetIterable iter2 env x = pure x := by intro _ _; rfl) :
    Ev w k sc ρ (.ListComp elt [⟨.Name x px, iter, [], 0⟩, ⟨.Name y py, iter2, ifs2, 0⟩] scope epos) (.list (items.flatMap fun d => ((items2 d).filter (p d)).map (f d))) := fun prog A s env B R g V => by
  rw [eval_ListComp]
  refine wpAny_comprehension_free (use := .none) rfl (hs env) (closureFor_pure (hf.cells V)) hkind (fun y hy hl => hl ▸ lookup_of_mem hu hy) ?_
  refine Mine.comp2 R g V hit hlen hlen2 hkind hu hf hc hx hρ hy hρy hit2 ht he hs2 (RR := fun acc C => compPost (model prog w) A NoE .none (Post B s _) acc C) fun D C s' e => ?_
  obtain ⟨m, hn⟩ := e.ns
  refine ⟨m, hn, fun h' hs' => ⟨?_, ?_⟩⟩
  · obtain ⟨hh, tk, rfl, hk⟩ := e.kp
    exact ⟨h', tk, rfl, fun b o q => hs'.extBut b o (fun hb => by rw [hb, e.cn] at q; cases q) (hk b o q)⟩
  · refine e.rd.mono fun a o q sq => ⟨hs'.extBut a o (fun hb => ?_) q.get, q.ok⟩
    subst hb
    obtain ⟨o', q1, q2⟩ := notSeq_ns hn
    rw [q.get] at q1; cases q1; exact q2 sq
end
end Mine
end
section
open PySem PySem.W PyProof.Rows PySem.Calls
set_option Elab.async false
set_option maxRecDepth 100000
set_option linter.unusedVariables false
set_option maxHeartbeats 4000000
namespace Mine
/-! the partitions, plainly -/
def nth (cs : List Cd) (i : Nat) : Cd := cs.getD i ⟨[], 0⟩
def mx (row : List Int) : Int := row.foldl max (-1)
def metI (cs : List Cd) (k : Nat) : List Nat := (List.range k).filter fun g => Un (nth cs g) (nth cs k) || (Un (nth cs k) (nth cs g) || false)
def freeOf (met : List Nat) (row : List Int) (part : Nat) : Bool := (met.filter fun g => row.getD g 0 == (part : Int)).isEmpty
noncomputable def rws (cs : List Cd) : Nat → List (List Int)
  | 0 => [[]]
  | k + 1 => (rws cs k).flatMap fun row => ((List.range (mx row + 2).toNat).filter (freeOf (metI cs k) row)).map fun (part : Nat) => row ++ [(part : Int)]
noncomputable def cntR (cs : List Cd) (j : Int) : Nat := ((rws cs cs.length).filter fun row => mx row + 1 == j).length
noncomputable def cntRF (cs : List Cd) : PyData → PyData
  | .int j => .int (cntR cs j)
  | _ => .none
noncomputable def partedD (cs : List Cd) : List PyData := (upto (cs.length + 1)).map (cntRF cs)
/-! their data -/
abbrev rowD (row : List Int) : PyData := .list (row.map .int)
def unI : PyData → Int
  | .int a => a
  | _ => 0
def unrow : PyData → List Int
  | .list xs => xs.map unI
  | _ => []
theorem unrow_rowD (row : List Int) : unrow (rowD row) = row := by
  show (row.map PyData.int).map unI = row
  rw [List.map_map]
  have : unI ∘ PyData.int = id := by funext a; rfl
  rw [this, List.map_id]
theorem mx_from : ∀ (row : List Int) (m : Int), m ≤ row.foldl max m ∧ (∀ a ∈ row, a ≤ row.foldl max m) ∧ (row.foldl max m = m ∨ row.foldl max m ∈ row)
  | [], m => ⟨Int.le_refl _, fun _ h => (by cases h), .inl rfl⟩
  | a :: row, m => by
    obtain ⟨h1, h2, h3⟩ := mx_from row (max m a)
    refine ⟨by show m ≤ row.foldl max (max m a); omega, fun b hb => ?_, ?_⟩
    · show b ≤ row.foldl max (max m a)
      rcases List.mem_cons.mp hb with rfl | hb
      · omega
      · exact h2 b hb
    · show row.foldl max (max m a) = m ∨ row.foldl max (max m a) ∈ a :: row
      rcases h3 with h3 | h3
      · by_cases q : m ≤ a
        · exact .inr (by rw [h3, Int.max_eq_right q]; exact List.mem_cons_self)
        · exact .inl (by rw [h3]; omega)
      · exact .inr (List.mem_cons_of_mem _ h3)
structure RowOk (k : Nat) (row : List Int) : Prop where
  len : row.length = k
  ge : ∀ a ∈ row, 0 ≤ a
  lt : ∀ a ∈ row, a < k
theorem RowOk.mx {k : Nat} {row : List Int} (h : RowOk k row) : -1 ≤ mx row ∧ mx row < k := by
  obtain ⟨h1, h2, h3⟩ := mx_from row (-1)
  refine ⟨h1, ?_⟩
  show row.foldl max (-1) < k
  rcases h3 with h3 | h3
  · rw [h3]; omega
  · exact h.lt _ h3
theorem rws_ok (cs : List Cd) : ∀ k, ∀ row ∈ rws cs k, RowOk k row
  | 0, row, h => by
    have : row = [] := by simpa [rws] using h
    subst this
    exact ⟨rfl, fun _ h => (by cases h), fun _ h => (by cases h)⟩
  | k + 1, row, h => by
    obtain ⟨r, hr, hm⟩ := List.mem_flatMap.mp h
    obtain ⟨part, hp, rfl⟩ := List.mem_map.mp hm
    have hp := List.mem_range.mp (List.mem_filter.mp hp).1
    have ok := rws_ok cs k r hr
    have := ok.mx
    refine ⟨by rw [List.length_append, ok.len]; rfl, fun a ha => ?_, fun a ha => ?_⟩ <;> rcases List.mem_append.mp ha with ha | ha
    · exact ok.ge a ha
    · rw [List.mem_singleton.mp ha]; omega
    · have := ok.lt a ha; omega
    · rw [List.mem_singleton.mp ha]; omega
theorem flat_le {α β : Type} (f : α → List β) (n : Nat) : ∀ l : List α, (∀ a ∈ l, (f a).length ≤ n) → (l.flatMap f).length ≤ n * l.length
  | [], _ => Nat.le_of_eq rfl
  | a :: l, h => by
    have h1 := h a List.mem_cons_self
    have h2 := flat_le f n l fun b hb => h b (List.mem_cons_of_mem _ hb)
    rw [List.flatMap_cons, List.length_append, List.length_cons, Nat.mul_succ]
    omega
theorem rws_len (cs : List Cd) : ∀ k, k ≤ 5 → (rws cs k).length ≤ 6 ^ k
  | 0, _ => by simp [rws]
  | k + 1, h => by
    have ih := rws_len cs k (by omega)
    have := flat_le (fun row => ((List.range (mx row + 2).toNat).filter (freeOf (metI cs k) row)).map fun (part : Nat) => row ++ [(part : Int)]) 6 (rws cs k) fun row hr => by
      have := (rws_ok cs k row hr).mx
      rw [List.length_map]
      refine Nat.le_trans (List.length_filter_le _ _) ?_
      rw [List.length_range]
      omega
    show ((rws cs k).flatMap _).length ≤ _
    rw [Nat.pow_succ, Nat.mul_comm]
    exact Nat.le_trans this (Nat.mul_le_mul_left 6 ih)
theorem shaped_ints (fs : List Int) : SeqAt.shaped (.list (fs.map PyData.int)) = true := by
  unfold SeqAt.shaped
  rw [Bool.and_eq_true]
  refine ⟨ints_layable fs, decide_eq_true ?_⟩
  have : PyData.depthAll (fs.map PyData.int) ≤ 1 := by
    induction fs with
    | nil => simp [PyData.depthAll]
    | cons a fs ih =>
      show max _ (PyData.depthAll (fs.map PyData.int)) ≤ 1
      exact Nat.max_le.mpr ⟨by simp [PyData.depth], ih⟩
  simp only [PyData.depth]
  omega
theorem eqv_nil (xs : List PyData) : PyData.eqv (.list xs) (.list []) = xs.isEmpty := by cases xs <;> rfl
theorem nm_max {w : World} {sc : Sc} (h : sc.lookup (Str.ofString "max") = some .globalImplicit) : Nm w sc (Str.ofString "max") (.builtin "max") := .bi h rfl rfl (by decide +kernel) (by decide +kernel)
theorem nth_mem {cs : List Cd} {i : Nat} (h : i < cs.length) : nth cs i ∈ cs := by
  unfold nth
  rw [List.getD_eq_getElem?_getD, List.getElem?_eq_getElem h]
  exact List.getElem_mem _
theorem nth_get {cs : List Cd} {i : Nat} (h : i < cs.length) : (nms cs)[i]? = some (nmS (nth cs i)) := by
  unfold nth
  rw [List.getElem?_map, List.getD_eq_getElem?_getD, List.getElem?_eq_getElem h]
  rfl
section
variable {w : World} {k : Nat} {sc : Sc} {ρ : Rho} {ow : Own}
theorem Ex.forN {x : Str} {px pos : Pos} {iter : Expr} {body : List Stmt} {items : List PyData} (n : Nat) (hlen : items.length = n) (ows : Nat → Own) (ρs : Nat → Rho) (hit : It w k sc ρ iter items) (h0 : ows 0 = ow) (hs0 : Sub (ρs 0) ρ) (hx : stores sc x)
    (hw : ∀ i, (ows i).isSome = ow.isSome) (hn : ∀ i, notOwn (ows i) x = true)
    (hbody : ∀ i d, items[i]? = some d → Exs w k sc (ows i) (upd (ρs i) x d) body (.nxt (ows (i + 1)) (ρs (i + 1)))) (hs : ∀ env x, foldedSetIterable iter env x = pure x := by intro _ _; rfl) :
    Ex w k sc ow ρ (.For (.Name x px) iter body [] pos) (.nxt (ows n) (ρs n)) := by
  subst hlen
  exact Ex.for ows ρs hit h0 hs0 hx hw hn hbody hs
theorem It.rangeN {e : Expr} {n : Nat} {npos pos : Pos} (nm : Nm w sc (Str.ofString "range") (.type "range")) (he : Ev w k sc ρ e (.int (n : Int))) (hn : n ≤ 100000)
    (hse : isStarred e = false := by rfl) : It w k sc ρ (.Call (.Name (Str.ofString "range") npos) [e] [] pos) (upto n) := by
  have := It.range (npos := npos) (pos := pos) nm he (by omega) (by omega) hse
  rw [Int.toNat_natCast] at this
  exact this
end
section
variable {w : World}
theorem get_upto {n i : Nat} {d : PyData} (h : (upto n)[i]? = some d) : i < n ∧ d = .int (i : Int) := by
  unfold upto at h
  rw [List.getElem?_map] at h
  by_cases q : i < n
  · rw [List.getElem?_range q] at h; cases h; exact ⟨q, rfl⟩
  · rw [List.getElem?_eq_none (by rw [List.length_range]; omega)] at h; cases h
theorem parted_spec {cs : List Cd} (h : Ok cs) (h0 : cs ≠ []) : Fn w 3 (.ref 114) [.list (nms cs)] (.list (partedD cs)) := by
  have h5 := h.len
  have hz : cs.length ≤ sizeLine := by have := szl; omega
  have hn0 : 0 < cs.length := List.length_pos_iff.mpr h0
  have hlenE : ∀ {sc : Sc} {ρ : Rho} {npos p1 pos : Pos}, ρ.lookup (Str.ofString "names") = some (.list (nms cs)) → sc.lookup (Str.ofString "len") = some .globalImplicit → Ev w 2 sc ρ (.Call (.Name (Str.ofString "len") npos) [.Name (Str.ofString "names") p1] [] pos) (.int (cs.length : Int)) := by
    intro sc ρ npos p1 pos hl hs
    rw [show (cs.length : Int) = ((nms cs).length : Int) by rw [List.length_map]]
    exact Ev.call (nm_len hs) keepsOk.builtin (Evs.cons (Ev.name hl) Evs.nil) (Fn.lenL (by rw [List.length_map]; exact hz))
  refine Fn.def (k := 2) (def_parted w) rfl ?_
  refine Exs.cons (Ex.assign (d := .list ((rws cs 0).map rowD)) (Ev.list (Evs.cons (Ev.list Evs.nil (show 0 ≤ 1000 by decide)) Evs.nil) (show 1 ≤ 1000 by decide)) (.inr rfl)) ?_
  let ρs : Nat → Rho := fun i => [(Str.ofString "names", .list (nms cs)), (Str.ofString "rows", .list ((rws cs i).map rowD))]
  refine Exs.cons (Ex.forN cs.length (upto_length _) (fun _ => none) ρs (It.rangeN (nm_range rfl) (hlenE rfl rfl) (by omega)) rfl (Sub.cons rfl (Sub.cons rfl Sub.nil)) (.inr rfl) (fun _ => rfl) (fun _ => rfl) fun i d hd => ?_) (Exs.ret (Ex.return ?_))
  · obtain ⟨hi, rfl⟩ := get_upto hd
    refine Exs.weaken (ρ₁ := upd (upd (upd (ρs i) (Str.ofString "k") (.int (i : Int))) (Str.ofString "met") (.list ((metI cs i).map fun (g : Nat) => .int (g : Int)))) (Str.ofString "rows") (.list ((rws cs (i + 1)).map rowD))) ?_ (Sub.cons rfl (Sub.cons rfl Sub.nil))
    refine Exs.cons (Ex.assign ?_ (.inr rfl) rfl (swaps_cell rfl)) (Exs.cons (Ex.assign ?_ (.inr rfl) rfl (swaps_cell rfl)) Exs.nil)
    · have e1 : ((metI cs i).map fun (g : Nat) => PyData.int (g : Int)) = ((upto i).filter fun d => Un (nth cs (unI d).toNat) (nth cs i) || (Un (nth cs i) (nth cs (unI d).toNat) || false)).map id := by
        unfold metI upto
        rw [List.map_id, List.filter_map]
        rfl
      rw [e1]
      refine Ev.comp [(Str.ofString "names", .list (nms cs)), (Str.ofString "k", .int (i : Int))] _ id (It.rangeN (nm_range rfl) (Ev.name rfl) (by omega)) (by rw [upto_length]; have := szl; omega) rfl (by decide +kernel) (free_of rfl) (Cap.cons rfl (by decide +kernel) (Cap.cons rfl (by decide +kernel) Cap.nil)) (.inl rfl) rfl (fun d hd => ?_) fun d hd _ => Ev.name rfl
      obtain ⟨g, hg, rfl⟩ := mem_upto hd
      have ig : Ix w 2 (.list (nms cs)) (.int (g : Int)) (nmS (nth cs g)) := Ix.list (by omega) (by omega) (by rw [Int.toNat_natCast]; exact nth_get (by omega))
      have ik : Ix w 2 (.list (nms cs)) (.int (i : Int)) (nmS (nth cs i)) := Ix.list (by omega) (by omega) (by rw [Int.toNat_natCast]; exact nth_get hi)
      have mg := h.mem _ (nth_mem (cs := cs) (i := g) (by omega))
      have mk := h.mem _ (nth_mem hi)
      show TsL _ _ _ _ _ (Un (nth cs (g : Int).toNat) (nth cs i) || (Un (nth cs i) (nth cs (g : Int).toNat) || false))
      rw [Int.toNat_natCast]
      refine TsL.one (Ts.all (All.or ?_ fun _ => All.or ?_ fun _ => All.orNil))
      · exact Ts.val (Ev.call (nm_under rfl) (keepsOk.def rfl) (Evs.cons (Ev.sub (Ev.name rfl) (Ev.name rfl) ig) (Evs.cons (Ev.sub (Ev.name rfl) (Ev.name rfl) ik) Evs.nil)) (Fn.mono (under_spec mg mk) (by decide))) Tr.bool
      · exact Ts.val (Ev.call (nm_under rfl) (keepsOk.def rfl) (Evs.cons (Ev.sub (Ev.name rfl) (Ev.name rfl) ik) (Evs.cons (Ev.sub (Ev.name rfl) (Ev.name rfl) ig) Evs.nil)) (Fn.mono (under_spec mk mg) (by decide))) Tr.bool
    · have e2 : (rws cs (i + 1)).map rowD = ((rws cs i).map rowD).flatMap fun d => ((upto (mx (unrow d) + 2).toNat).filter fun d' => freeOf (metI cs i) (unrow d) (unI d').toNat).map fun d' => rowD (unrow d ++ [unI d']) := by
        show ((rws cs i).flatMap _).map rowD = _
        rw [List.map_flatMap, List.flatMap_map]
        congr 1
        funext row
        rw [unrow_rowD]
        unfold upto
        rw [List.filter_map, List.map_map, List.map_map]
        rfl
      rw [e2]
      refine Ev.comp2 (fun d => upto (mx (unrow d) + 2).toNat) [(Str.ofString "met", .list ((metI cs i).map fun (g : Nat) => .int (g : Int)))] (fun d d' => freeOf (metI cs i) (unrow d) (unI d').toNat) (fun d d' => rowD (unrow d ++ [unI d'])) (It.name rfl) ?_ ?_ rfl (by decide +kernel) (free_of rfl) (Cap.cons rfl (by decide +kernel) Cap.nil) (.inr rfl) rfl (.inr rfl) (fun _ => rfl) ?_ ?_ ?_
      · refine Nat.le_trans (flat_le _ 6 _ fun d hd => ?_) ?_
        · obtain ⟨row, hr, rfl⟩ := List.mem_map.mp hd
          have := (rws_ok cs i row hr).mx
          rw [unrow_rowD, upto_length]
          omega
        · rw [List.length_map]
          have := rws_len cs i (by omega)
          have := Nat.pow_le_pow_right (n := 6) (by decide) (show i ≤ 4 by omega)
          omega
      · intro d hd
        obtain ⟨row, hr, rfl⟩ := List.mem_map.mp hd
        have := (rws_ok cs i row hr).mx
        rw [unrow_rowD, upto_length]
        omega
      · intro d hd
        obtain ⟨row, hr, rfl⟩ := List.mem_map.mp hd
        have hm := (rws_ok cs i row hr).mx
        rw [unrow_rowD]
        refine It.range (nm_range rfl) (Ev.binop (a := .int (mx row)) (Ev.call (nm_max rfl) keepsOk.builtin (Evs.cons (d := .list (((-1) :: row).map .int)) ?_ Evs.nil) (Fn.max ?_ ?_)) Ev.int Op2.addI) (by omega) (by omega)
        · have hl := (rws_ok cs i row hr).len
          exact Ev.binop (Ev.list (Evs.cons (Ev.neg Ev.int) Evs.nil) (show 1 ≤ 1000 by decide)) (Ev.name rfl) (Op2.addL (xs := [.int (-1)]) (by rw [List.length_map, hl]; have := szl; show 1 + i ≤ _; omega))
        · obtain ⟨h1, h2, h3⟩ := mx_from row (-1)
          rcases h3 with h3 | h3
          · exact List.mem_cons.mpr (.inl h3)
          · exact List.mem_cons_of_mem _ h3
        · obtain ⟨h1, h2, h3⟩ := mx_from row (-1)
          intro a ha
          rcases List.mem_cons.mp ha with rfl | ha
          · exact h1
          · exact h2 a ha
      · intro d hd d' hd'
        obtain ⟨row, hr, rfl⟩ := List.mem_map.mp hd
        have ok := rws_ok cs i row hr
        obtain ⟨part, hp, rfl⟩ := mem_upto hd'
        rw [unrow_rowD]
        show TsL _ _ _ _ _ (freeOf (metI cs i) row (part : Int).toNat)
        rw [Int.toNat_natCast]
        have e3 : freeOf (metI cs i) row part = PyData.eqv (.list ((((metI cs i).map fun (g : Nat) => PyData.int (g : Int)).filter fun d => row.getD (unI d).toNat 0 == (part : Int)).map id)) (.list []) := by
          rw [eqv_nil, List.map_id, List.filter_map]
          unfold freeOf
          generalize metI cs i = ms
          have : (fun g : Nat => row.getD g 0 == (part : Int)) = (fun d => row.getD (unI d).toNat 0 == (part : Int)) ∘ fun g : Nat => PyData.int (g : Int) := rfl
          rw [this]
          cases hq : List.filter ((fun d => row.getD (unI d).toNat 0 == (part : Int)) ∘ fun g : Nat => PyData.int (g : Int)) ms <;> rfl
        rw [e3]
        refine TsL.one (Ts.cmp (Ev.comp [(Str.ofString "row", rowD row), (Str.ofString "part", .int (part : Int))] _ id (It.name rfl) ?_ rfl (by decide +kernel) (free_of rfl) (Cap.cons rfl (by decide +kernel) (Cap.cons rfl (by decide +kernel) Cap.nil)) (.inl rfl) rfl (fun d hd => ?_) fun d hd _ => Ev.name rfl) (Ev.list Evs.nil (show 0 ≤ 1000 by decide)) (Cm.eqD ?_ rfl))
        · rw [List.length_map]
          refine Nat.le_trans (List.length_filter_le _ _) ?_
          rw [List.length_range]; have := szl; omega
        · obtain ⟨g, hg, rfl⟩ := List.mem_map.mp hd
          have hg' := List.mem_range.mp (List.mem_filter.mp hg).1
          have hgl : g < row.length := by rw [ok.len]; exact hg'
          show TsL _ _ _ _ _ (row.getD (g : Int).toNat 0 == (part : Int))
          rw [Int.toNat_natCast]
          exact TsL.one (Ts.cmp (Ev.sub (Ev.name rfl) (Ev.name rfl) (Ix.list (d := .int (row.getD g 0)) (by omega) (by omega) (by rw [Int.toNat_natCast, List.getElem?_map, List.getD_eq_getElem?_getD, List.getElem?_eq_getElem hgl]; rfl))) (Ev.name rfl) Cm.eqI)
        · rw [List.map_id, List.filter_map, ← Function.comp_def (f := PyData.int) (g := fun g : Nat => (g : Int)), ← List.map_map]
          exact shaped_ints _
      · intro d hd d' hd' _
        obtain ⟨row, hr, rfl⟩ := List.mem_map.mp hd
        have ok := rws_ok cs i row hr
        obtain ⟨part, hp, rfl⟩ := mem_upto hd'
        rw [unrow_rowD]
        show Ev _ _ _ _ _ (.list ((row ++ [(part : Int)]).map .int))
        rw [List.map_append]
        exact Ev.binop (Ev.name rfl) (Ev.list (Evs.cons (Ev.name rfl) Evs.nil) (show 1 ≤ 1000 by decide)) (Op2.addL (by rw [List.length_map, ok.len]; have := szl; show i + 1 ≤ _; omega))
  · have e1 : partedD cs = (((upto (cs.length + 1)).filter fun _ => true).map (cntRF cs)) := by rw [filter_tt]; rfl
    rw [e1]
    refine Ev.comp [(Str.ofString "rows", .list ((rws cs cs.length).map rowD))] (fun _ => true) (cntRF cs) (It.rangeN (nm_range rfl) (Ev.binop (hlenE rfl rfl) Ev.int Op2.addI) (by omega)) ?_ rfl (by decide +kernel) (free_of rfl) (Cap.cons rfl (by decide +kernel) Cap.nil) (.inr rfl) rfl (fun d hd => TsL.nil) fun d hd _ => ?_
    · rw [upto_length]; have := szl; omega
    · obtain ⟨j, hj, rfl⟩ := mem_upto hd
      have hl6 := rws_len cs cs.length h5
      have h65 := Nat.pow_le_pow_right (n := 6) (by decide) h5
      have e2 : cntRF cs (.int (j : Int)) = .int (((((rws cs cs.length).map rowD).filter fun d => mx (unrow d) + 1 == (j : Int)).map id).length : Int) := by
        show PyData.int (cntR cs (j : Int)) = _
        unfold cntR
        rw [List.map_id, List.filter_map, List.length_map]
        have : (fun row => mx row + 1 == (j : Int)) = (fun d => mx (unrow d) + 1 == (j : Int)) ∘ rowD := by funext row; simp only [Function.comp, unrow_rowD]
        rw [this]
      rw [e2]
      refine Ev.call (nm_len rfl) keepsOk.builtin (Evs.cons (Ev.comp [(Str.ofString "count", .int (j : Int))] (fun d => mx (unrow d) + 1 == (j : Int)) id (It.name rfl) ?_ rfl (by decide +kernel) (free_of rfl) (Cap.cons rfl (by decide +kernel) Cap.nil) (.inl rfl) rfl (fun d hd => ?_) fun d hd _ => Ev.name rfl) Evs.nil) (Fn.lenL ?_)
      · rw [List.length_map]; have := szl; omega
      · obtain ⟨row, hr, rfl⟩ := List.mem_map.mp hd
        have ok := rws_ok cs cs.length row hr
        rw [unrow_rowD]
        refine TsL.one (Ts.cmp (Ev.binop (a := .int (mx row)) (Ev.call (nm_max rfl) keepsOk.builtin (Evs.cons (Ev.name rfl) Evs.nil) (Fn.max ?_ ?_)) Ev.int Op2.addI) (Ev.name rfl) Cm.eqI)
        · obtain ⟨h1, h2, h3⟩ := mx_from row (-1)
          rcases h3 with h3 | h3
          · exfalso
            have hrl : 0 < row.length := by rw [ok.len]; exact hn0
            obtain ⟨a, ha⟩ := List.exists_mem_of_length_pos hrl
            have := h2 a ha
            have := ok.ge a ha
            omega
          · exact h3
        · exact (mx_from row (-1)).2.1
      · rw [List.length_map]
        refine Nat.le_trans (List.length_filter_le _ _) ?_
        rw [List.length_map]; have := szl; omega
end
end Mine
end
section
open PySem PySem.W PyProof.Rows PySem.Calls PySem.Builtin PySem.Builtin.Int
set_option Elab.async false
set_option maxRecDepth 100000
set_option linter.unusedVariables false
set_option maxHeartbeats 4000000
namespace Mine
abbrev Nn (a : Nat) : PyData := .int (a : Int)
/-! bits, plainly -/
theorem bitAnd_nat (x y : Nat) : bitAnd (x : Int) (y : Int) = ((x &&& y : Nat) : Int) := by
  unfold bitAnd
  have h1 : decide (0 ≤ (x : Int)) = true := decide_eq_true (by omega)
  have h2 : decide (0 ≤ (y : Int)) = true := decide_eq_true (by omega)
  rw [h1, h2]
  simp only [Int.toNat_natCast]
theorem bitOr_nat (x y : Nat) : bitOr (x : Int) (y : Int) = ((x ||| y : Nat) : Int) := by
  unfold bitOr bitAnd
  have h1 : decide (0 ≤ bitNot (x : Int)) = false := decide_eq_false (by unfold bitNot; omega)
  have h2 : decide (0 ≤ bitNot (y : Int)) = false := decide_eq_false (by unfold bitNot; omega)
  rw [h1, h2]
  have e : ∀ z : Int, bitNot (bitNot z) = z := fun z => by unfold bitNot; omega
  simp only [e, Int.toNat_natCast]
theorem bits_le {a m : Nat} (h : a < 2 ^ m) : intBits (a : Int) ≤ m := intBits_le_iff.mpr (by simpa using h)
theorem bits_lt (a : Nat) : a < 2 ^ (intBits (a : Int)) := by
  have := intBits_le_iff.mp (Nat.le_refl (intBits (a : Int)))
  simpa using this
theorem or_add {x y h : Nat} (hy : y < 2 ^ h) : (x * 2 ^ h) ||| y = x * 2 ^ h + y := by
  rw [Nat.mul_comm]
  exact (Nat.two_pow_add_eq_or_of_lt hy x).symm
theorem xor_low (x s : Nat) : bitXor (x : Int) (((x / 2 ^ s) * 2 ^ s : Nat) : Int) = ((x % 2 ^ s : Nat) : Int) := by
  unfold bitXor
  rw [bitOr_nat, bitAnd_nat]
  have e1 : x ||| (x / 2 ^ s * 2 ^ s) = x := by
    have hx : x = (x / 2 ^ s) * 2 ^ s ||| (x % 2 ^ s) := by rw [or_add (Nat.mod_lt _ (Nat.two_pow_pos s))]; rw [Nat.mul_comm]; exact (Nat.div_add_mod x (2 ^ s)).symm
    conv => lhs; arg 1; rw [hx]
    rw [Nat.or_comm, ← Nat.or_assoc, Nat.or_self]
    exact hx.symm
  have e2 : x &&& (x / 2 ^ s * 2 ^ s) = x / 2 ^ s * 2 ^ s := by
    refine Nat.eq_of_testBit_eq fun i => ?_
    rw [Nat.testBit_and, Nat.testBit_mul_two_pow]
    by_cases hi : s ≤ i
    · rw [Nat.testBit_div_two_pow]
      have : i - s + s = i := by omega
      simp [hi, this]
    · simp [hi]
  rw [e1, e2]
  have := Nat.div_add_mod x (2 ^ s)
  rw [Nat.mul_comm] at this
  omega
section
variable {w : World} {k : Nat}
theorem Op2.shlN {a n m : Nat} (h : a < 2 ^ m) (hm : m + n ≤ 1000000) : Op2 w k .LShift (Nn a) (Nn n) (Nn (a * 2 ^ n)) := by
  have := Op2.shlI (w := w) (k := k) (a := (a : Int)) (n := (n : Int)) (by omega) (by have := bits_le h; omega)
  rw [Int.toNat_natCast, show (a : Int) * 2 ^ n = ((a * 2 ^ n : Nat) : Int) by simp] at this
  exact this
theorem fdiv_nat (a b : Nat) : (a : Int).fdiv (b : Int) = ((a / b : Nat) : Int) := by
  rw [Int.fdiv_eq_ediv_of_nonneg _ (by omega)]; exact (Int.natCast_ediv a b).symm
theorem fmod_nat (a b : Nat) : (a : Int).fmod (b : Int) = ((a % b : Nat) : Int) := by
  rw [Int.fmod_eq_emod_of_nonneg _ (by omega)]; exact (Int.natCast_emod a b).symm
theorem Op2.shrN {a n : Nat} : Op2 w k .RShift (Nn a) (Nn n) (Nn (a / 2 ^ n)) := by
  have := Op2.shrI (w := w) (k := k) (a := (a : Int)) (n := (n : Int)) (by omega)
  rw [Int.toNat_natCast, show ((2 : Int) ^ n) = ((2 ^ n : Nat) : Int) by simp, fdiv_nat] at this
  exact this
theorem Op2.andMask {a h : Nat} : Op2 w k .BitAnd (Nn a) (Nn (2 ^ h - 1)) (Nn (a % 2 ^ h)) := by
  have := Op2.andI (w := w) (k := k) (a := (a : Int)) (b := ((2 ^ h - 1 : Nat) : Int))
  rw [bitAnd_nat, Nat.and_two_pow_sub_one_eq_mod] at this
  exact this
theorem Op2.andOne {a : Nat} : Op2 w k .BitAnd (Nn a) (.int 1) (Nn (a % 2)) := Op2.andMask (h := 1)
theorem Op2.orN {x y h : Nat} (hy : y < 2 ^ h) : Op2 w k .BitOr (Nn (x * 2 ^ h)) (Nn y) (Nn (x * 2 ^ h + y)) := by
  have := Op2.orI (w := w) (k := k) (a := ((x * 2 ^ h : Nat) : Int)) (b := (y : Int))
  rw [bitOr_nat, or_add hy] at this
  exact this
theorem Op2.xorN {x s : Nat} : Op2 w k .BitXor (Nn x) (Nn (x / 2 ^ s * 2 ^ s)) (Nn (x % 2 ^ s)) := by
  have := Op2.xorI (w := w) (k := k) (a := (x : Int)) (b := ((x / 2 ^ s * 2 ^ s : Nat) : Int))
  rw [xor_low] at this
  exact this
theorem Op2.addN {a b : Nat} : Op2 w k .Add (Nn a) (Nn b) (Nn (a + b)) := by
  have := Op2.addI (w := w) (k := k) (a := (a : Int)) (b := (b : Int))
  rw [show (a : Int) + b = ((a + b : Nat) : Int) by simp] at this
  exact this
theorem Op2.maskN {h : Nat} : Op2 w k .Sub (Nn (1 * 2 ^ h)) (.int 1) (Nn (2 ^ h - 1)) := by
  have := Op2.subI (w := w) (k := k) (a := ((1 * 2 ^ h : Nat) : Int)) (b := 1)
  have e : ((1 * 2 ^ h : Nat) : Int) - 1 = ((2 ^ h - 1 : Nat) : Int) := by have := Nat.two_pow_pos h; omega
  rw [e] at this
  exact this
theorem Op2.mulN {a b m n : Nat} (ha : a < 2 ^ m) (hb : b < 2 ^ n) (h : m + n ≤ 1000000) : Op2 w k .Mult (Nn a) (Nn b) (Nn (a * b)) := by
  have := Op2.mulI (w := w) (k := k) (a := (a : Int)) (b := (b : Int)) (IntMulOk.of_le (bits_le ha) (bits_le hb) (by omega))
  rw [show (a : Int) * b = ((a * b : Nat) : Int) by simp] at this
  exact this
end
/-! the division, plainly -/
/-- 3n by 2n: the first guess mended -/
theorem guess {A q b : Nat} {r : Int} (h : (A : Int) = q * b + r) (hb : 0 < b) (hr : r < b) : ∀ t : Nat, (∀ i : Nat, i < t → r + i * b < 0) → 0 ≤ r + t * b → (q : Int) - t = ((A / b : Nat) : Int) ∧ r + t * b = ((A % b : Nat) : Int) := fun t ht h0 => by
  have hlt : r + t * b < b := by
    cases t with
    | zero => simpa using hr
    | succ t => have := ht t (by omega); push_cast; have e : ((t : Int) + 1) * b = t * b + b := by rw [Int.add_mul, Int.one_mul]
                rw [e]; omega
  have e : (A : Int) = (q - t) * b + (r + t * b) := by rw [Int.sub_mul]; omega
  have hA : ((A / b : Nat) : Int) = (A : Int) / b := Int.natCast_ediv A b
  have hM : ((A % b : Nat) : Int) = (A : Int) % b := Int.natCast_emod A b
  have hb' : (0 : Int) < b := by omega
  rw [hA, hM]
  have := (Int.ediv_emod_unique hb').mpr ⟨(by rw [e, Int.mul_comm (q - t : Int) b, Int.add_comm] : r + t * b + b * (q - t) = A), h0, hlt⟩
  exact ⟨this.1.symm, this.2.symm⟩
theorem turns (r : Int) {b : Nat} (hb : 0 < b) : ∃ t : Nat, (∀ i : Nat, i < t → r + i * b < 0) ∧ 0 ≤ r + t * b := by
  by_cases h : 0 ≤ r
  · exact ⟨0, fun i hi => by omega, by simpa using h⟩
  · let t := (-r).toNat
    have key : ∀ n : Nat, 0 ≤ r + n * b → ∃ t : Nat, (∀ i : Nat, i < t → r + i * b < 0) ∧ 0 ≤ r + t * b := fun n => by
      induction n with
      | zero => intro h; exact ⟨0, fun i hi => by omega, h⟩
      | succ n ih =>
        intro hn
        by_cases q : 0 ≤ r + n * b
        · exact ih q
        · refine ⟨n + 1, fun i hi => ?_, hn⟩
          have : (i : Int) * b ≤ n * b := Int.mul_le_mul_of_nonneg_right (by omega) (by omega)
          omega
    refine key t ?_
    have : (t : Int) * 1 ≤ t * b := Int.mul_le_mul_of_nonneg_left (by omega) (by omega)
    have : (t : Int) = -r := Int.toNat_of_nonneg (by omega)
    omega
end Mine
end
section
open PySem PySem.W PyProof.Rows PySem.Calls PySem.Builtin PySem.Builtin.Int
set_option Elab.async false
set_option maxRecDepth 100000
set_option linter.unusedVariables false
set_option maxHeartbeats 4000000
namespace Mine
section
variable {w : World} {k : Nat}
abbrev qr (a b : Nat) : PyData := .tuple [Nn (a / b), Nn (a % b)]
theorem nm_divmod {sc : Sc} (h : sc.lookup (Str.ofString "divmod") = some .globalImplicit) : Nm w sc (Str.ofString "divmod") (.builtin "divmod") := .bi h rfl rfl (by decide +kernel) (by decide +kernel)
theorem nm_d2 {sc : Sc} (h : sc.lookup (Str.ofString "_div2n1n") = some .globalImplicit) : Nm w sc (Str.ofString "_div2n1n") (.ref 57) := .mod h rfl (by decide +kernel)
theorem nm_d3 {sc : Sc} (h : sc.lookup (Str.ofString "_div3n2n") = some .globalImplicit) : Nm w sc (Str.ofString "_div3n2n") (.ref 64) := .mod h rfl (by decide +kernel)
theorem nm_limit {sc : Sc} (h : sc.lookup (Str.ofString "_DIV_LIMIT") = some .globalImplicit) : Nm w sc (Str.ofString "_DIV_LIMIT") (.int 4000 332) := .mod h rfl (by decide +kernel)
theorem Fn.divmodN {a b m : Nat} (h : 0 < b) (hb : b < 2 ^ m) (hm : m ≤ 9000) : Fn w k (.builtin "divmod") [Nn a, Nn b] (qr a b) := by
  have := Fn.divmod (w := w) (k := k) (a := (a : Int)) (b := (b : Int)) (by omega) (by
    have h1 : b ≠ 0 := by omega
    have := (Nat.log2_lt h1).mpr hb
    show b.log2 < 9000
    omega)
  rw [fdiv_nat, fmod_nat] at this
  exact this
theorem d2_small {a b n m : Nat} (h : 0 < b) (hb : b < 2 ^ m) (hm : m ≤ 9000) (hs : (intBits (a : Int) : Int) - n ≤ 4000) : Fn w (k + 1) (.ref 57) [Nn a, Nn b, Nn n] (qr a b) := by
  refine Fn.def (def_d2 w) rfl ?_
  refine Exs.ret (Ex.ite (b := true) ?_ (fun _ => Exs.ret (Ex.return ?_)) fun e => by cases e)
  · rw [← decide_eq_true hs]
    exact Ts.cmp (Ev.binop (Ev.meth0 (Ev.name rfl) Ty.int F.plainAttrs_int F.slot_int_bit_length F.type_int_bit_length Me.bitLength) (Ev.name rfl) Op2.subI) (Ev.modInt (nm_limit rfl)) Cm.leI
  · exact Ev.call (nm_divmod rfl) keepsOk.builtin (Evs.cons (Ev.name rfl) (Evs.cons (Ev.name rfl) Evs.nil)) (Fn.divmodN h hb hm)
theorem d3_spec {a12 a3 b b1 b2 n : Nat} (hb : b = b1 * 2 ^ n + b2) (h2 : b2 < 2 ^ n) (h3 : a3 < 2 ^ n) (ha : a12 < b) (h1 : 0 < b1) (hlt : b < 2 ^ (2 * n)) (hn : n ≤ 4000) :
    Fn w (k + 2) (.ref 64) [Nn a12, Nn a3, Nn b, Nn b1, Nn b2, Nn n] (qr (a12 * 2 ^ n + a3) b) := by
  have hpn := Nat.two_pow_pos n
  have h2n : 2 ^ (2 * n) = 2 ^ n * 2 ^ n := by rw [Nat.two_mul, Nat.pow_add]
  have hb1 : b1 < 2 ^ n := by
    by_cases q : b1 < 2 ^ n
    · exact q
    · have : 2 ^ n * 2 ^ n ≤ b1 * 2 ^ n := Nat.mul_le_mul_right _ (by omega)
      omega
  have ha12 : a12 < 2 ^ (2 * n) := by omega
  have hb0 : 0 < b := by omega
  have hq0 : a12 / 2 ^ n ≤ b1 := by
    have : a12 / 2 ^ n < b1 + 1 := (Nat.div_lt_iff_lt_mul hpn).mpr (by rw [Nat.add_mul]; omega)
    omega
  -- the first guess
  have key : ∀ q r1 : Nat, (a12 = q * b1 + r1) → q < 2 ^ n → r1 < 2 ^ (2 * n) → ((r1 * 2 ^ n + a3 : Nat) : Int) - ((q * b2 : Nat) : Int) < b →
      ∀ ρ : Rho, ρ = upd (upd ((fnPs (topSt 8)).zip [Nn a12, Nn a3, Nn b, Nn b1, Nn b2, Nn n]) (Str.ofString "q") (Nn q)) (Str.ofString "r") (Nn r1) →
      Exs w (k + 1) (fnScope (topSt 8)) none ρ ((fnBody (topSt 8)).drop 1) (.ret (qr (a12 * 2 ^ n + a3) b)) := by
    intro q r1 e hq hr1 hrb ρ hρ
    subst hρ
    have hA : ((a12 * 2 ^ n + a3 : Nat) : Int) = q * b + (((r1 * 2 ^ n + a3 : Nat) : Int) - ((q * b2 : Nat) : Int)) := by
      rw [hb, e]
      push_cast
      rw [Int.add_mul, Int.mul_add, Int.mul_assoc]
      omega
    generalize hr : ((r1 * 2 ^ n + a3 : Nat) : Int) - ((q * b2 : Nat) : Int) = r at hrb hA
    obtain ⟨t, ht, h0⟩ := turns r hb0
    obtain ⟨f1, f2⟩ := guess hA hb0 hrb t ht h0
    refine Exs.cons (Ex.assign (d := .int r) ?_ (.inl rfl)) ?_
    · rw [← hr]
      exact Ev.binop (Ev.binop (Ev.binop (Ev.name rfl) (Ev.name rfl) (Op2.shlN hr1 (by omega))) (Ev.name rfl) (Op2.orN h3)) (Ev.binop (Ev.name rfl) (Ev.name rfl) (Op2.mulN hq h2 (by omega))) Op2.subI
    · refine Exs.cons (Ex.while t (fun i => [(Str.ofString "q", .int ((q : Int) - i)), (Str.ofString "r", .int (r + i * b)), (Str.ofString "b", Nn b)]) (Sub.cons ?_ (Sub.cons ?_ (Sub.cons rfl Sub.nil))) (fun i hi => ?_) ?_ fun i hi => ?_) (Exs.ret (Ex.return ?_))
      · show _ = some (PyData.int ((q : Int) - (0 : Nat)))
        rw [show (q : Int) - (0 : Nat) = q by omega]; rfl
      · show _ = some (PyData.int (r + (0 : Nat) * b))
        rw [show r + ((0 : Nat) : Int) * b = r by simp]; rfl
      · rw [← decide_eq_true (ht i hi)]
        exact Ts.cmp (Ev.name rfl) Ev.int Cm.ltI
      · rw [← decide_eq_false (show ¬ r + (t : Int) * b < 0 by omega)]
        exact Ts.cmp (Ev.name rfl) Ev.int Cm.ltI
      · refine Exs.cons (Ex.aug rfl Ev.int Ip.sub (.inl rfl)) (Exs.cons (Ex.aug rfl (Ev.name rfl) Ip.add (.inl rfl)) ?_)
        refine Exs.weaken Exs.nil (Sub.cons ?_ (Sub.cons ?_ (Sub.cons rfl Sub.nil)))
        · rw [show (q : Int) - ((i + 1 : Nat) : Int) = (q : Int) - i - 1 by omega]; rfl
        · rw [show r + ((i + 1 : Nat) : Int) * b = r + i * b + b by push_cast; rw [Int.add_mul]; omega]; rfl
      · rw [show qr (a12 * 2 ^ n + a3) b = .tuple [.int ((q : Int) - t), .int (r + t * b)] by rw [f1, f2]]
        exact Ev.tuple (Evs.cons (Ev.name rfl) (Evs.cons (Ev.name rfl) Evs.nil)) (show 2 ≤ 1000 by decide)
  refine Fn.def (k := k + 1) (def_d3 w) rfl ?_
  by_cases hc : a12 / 2 ^ n = b1
  · have hge : b1 * 2 ^ n ≤ a12 := by rw [← hc]; exact Nat.div_mul_le_self _ _
    have hr1 : a12 = (2 ^ n - 1) * b1 + (a12 - b1 * 2 ^ n + b1) := by
      rw [Nat.sub_mul, Nat.one_mul, Nat.mul_comm (2 ^ n) b1]
      have : b1 ≤ b1 * 2 ^ n := Nat.le_mul_of_pos_right _ hpn
      omega
    refine Exs.cons (ρ' := _) (Ex.ite (b := true) ?_ (fun _ => Exs.cons (Ex.swap (a := Nn (2 ^ n - 1)) (b := Nn (a12 - b1 * 2 ^ n + b1)) ?_ ?_ rfl rfl) Exs.nil) fun e => by cases e) ?_
    · rw [show true = (((a12 / 2 ^ n : Nat) : Int) == (b1 : Int)) by rw [hc]; exact (beq_self_eq_true _).symm]
      exact Ts.cmp (Ev.binop (Ev.name rfl) (Ev.name rfl) Op2.shrN) (Ev.name rfl) Cm.eqI
    · exact Ev.binop (Ev.binop Ev.int (Ev.name rfl) (Op2.shlN (a := 1) (m := 1) (by decide) (by omega))) Ev.int Op2.maskN
    · refine Ev.binop (a := Nn (a12 - b1 * 2 ^ n)) (Ev.binop (Ev.name rfl) (Ev.binop (Ev.name rfl) (Ev.name rfl) (Op2.shlN hb1 (by omega))) ?_) (Ev.name rfl) Op2.addN
      rw [show Nn (a12 - b1 * 2 ^ n) = .int ((a12 : Int) - ((b1 * 2 ^ n : Nat) : Int)) by show PyData.int _ = _; congr 1; omega]
      exact Op2.subI
    · refine Exs.pre (key _ _ hr1 (by omega) ?_ ?_ _ rfl) (Sub.cons rfl (Sub.cons rfl (Sub.cons rfl (Sub.cons rfl (Sub.cons rfl (Sub.cons rfl (Sub.cons rfl (Sub.cons rfl Sub.nil))))))))
      · have : a12 - b1 * 2 ^ n + b1 ≤ a12 := by
          have : b1 ≤ b1 * 2 ^ n := Nat.le_mul_of_pos_right _ hpn
          omega
        omega
      · have e1 : (((a12 - b1 * 2 ^ n + b1) * 2 ^ n + a3 : Nat) : Int) - (((2 ^ n - 1) * b2 : Nat) : Int) = ((a12 * 2 ^ n + a3 : Nat) : Int) - (((2 ^ n - 1) * b : Nat) : Int) := by
          have e2 : (2 ^ n - 1) * b = (2 ^ n - 1) * b1 * 2 ^ n + (2 ^ n - 1) * b2 := by rw [hb, Nat.mul_add, Nat.mul_assoc]
          have e3 : a12 * 2 ^ n = (2 ^ n - 1) * b1 * 2 ^ n + (a12 - b1 * 2 ^ n + b1) * 2 ^ n := by
            conv => lhs; rw [hr1]
            rw [Nat.add_mul]
          rw [e2, e3]
          omega
        rw [e1]
        have e4 : (2 ^ n - 1) * b + b = 2 ^ n * b := by
          rw [← Nat.succ_mul]; congr 1; omega
        have e5 : (a12 + 1) * 2 ^ n ≤ b * 2 ^ n := Nat.mul_le_mul_right _ ha
        rw [Nat.add_mul, Nat.one_mul, Nat.mul_comm b] at e5
        omega
  · have hlt1 : a12 / 2 ^ n < b1 := by omega
    have ha2 : a12 < b1 * 2 ^ n := (Nat.div_lt_iff_lt_mul hpn).mp hlt1
    have hm := Nat.mod_lt a12 h1
    refine Exs.cons (ρ' := _) (Ex.ite (b := false) ?_ (fun e => by cases e) fun _ => Exs.cons (Ex.tuple2 (a := Nn (a12 / b1)) (b := Nn (a12 % b1)) ?_ (.inl rfl) (.inl rfl)) Exs.nil) ?_
    · rw [show false = (((a12 / 2 ^ n : Nat) : Int) == (b1 : Int)) by symm; rw [beq_eq_false_iff_ne]; intro e; exact hc (by omega)]
      exact Ts.cmp (Ev.binop (Ev.name rfl) (Ev.name rfl) Op2.shrN) (Ev.name rfl) Cm.eqI
    · refine Ev.call (nm_d2 rfl) (keepsOk.def rfl) (Evs.cons (Ev.name rfl) (Evs.cons (Ev.name rfl) (Evs.cons (Ev.name rfl) Evs.nil))) (d2_small h1 hb1 (by omega) ?_)
      have := bits_le ha12
      omega
    · refine key _ _ (by rw [Nat.mul_comm]; exact (Nat.div_add_mod a12 b1).symm) ?_ ?_ ?_ _ rfl
      · exact (Nat.div_lt_iff_lt_mul h1).mpr (by rw [Nat.mul_comm]; exact ha2)
      · exact Nat.lt_of_lt_of_le (by omega : a12 % b1 < 2 ^ n) (Nat.pow_le_pow_right (by decide) (by omega))
      · have : (a12 % b1 + 1) * 2 ^ n ≤ b1 * 2 ^ n := Nat.mul_le_mul_right _ hm
        rw [Nat.add_mul, Nat.one_mul] at this
        omega
end
end Mine
end
section
open PySem PySem.W PyProof.Rows PySem.Calls PySem.Builtin PySem.Builtin.Int
set_option Elab.async false
set_option maxRecDepth 100000
set_option linter.unusedVariables false
set_option maxHeartbeats 4000000
namespace Mine
theorem two_steps (A b h : Nat) (hb : 0 < b) : (A / 2 ^ h / b) * 2 ^ h + ((A / 2 ^ h % b) * 2 ^ h + A % 2 ^ h) / b = A / b ∧ ((A / 2 ^ h % b) * 2 ^ h + A % 2 ^ h) % b = A % b := by
  have hA : A = A / 2 ^ h * 2 ^ h + A % 2 ^ h := by rw [Nat.mul_comm]; exact (Nat.div_add_mod A (2 ^ h)).symm
  have hX : A / 2 ^ h = A / 2 ^ h / b * b + A / 2 ^ h % b := by rw [Nat.mul_comm]; exact (Nat.div_add_mod _ b).symm
  have e : A = b * (A / 2 ^ h / b * 2 ^ h) + ((A / 2 ^ h % b) * 2 ^ h + A % 2 ^ h) := by
    conv => lhs; rw [hA, hX]
    rw [Nat.add_mul, Nat.mul_comm (A / 2 ^ h / b) b, Nat.mul_assoc, Nat.add_assoc]
  constructor
  · conv => rhs; rw [e]
    rw [Nat.mul_add_div hb]
  · conv => rhs; rw [e]
    rw [Nat.mul_add_mod]
theorem split_top (A h : Nat) : A / 2 ^ (2 * h) * 2 ^ h + A / 2 ^ h % 2 ^ h = A / 2 ^ h := by
  rw [show 2 ^ (2 * h) = 2 ^ h * 2 ^ h by rw [Nat.two_mul, Nat.pow_add], ← Nat.div_div_eq_div_mul, Nat.mul_comm]
  exact Nat.div_add_mod (A / 2 ^ h) (2 ^ h)
section
variable {w : World} {k : Nat}
theorem Ts.int {sc : Sc} {ρ : Rho} {x : Str} {p : Nat} {b : Bool} {pos : Pos} (h : ρ.lookup x = some (Nn p)) (hb : b = ((p : Int) != 0)) (hd : (x == ("__debug__" : Str)) = false := by decide +kernel) : Ts w k sc ρ (.Name x pos) b := by
  rw [hb]; exact Ts.val (Ev.name h hd) Tr.int
theorem d2_spec {a b n : Nat} (hn0 : 1 ≤ n) (hn : n ≤ 4300) (hb : b < 2 ^ n) (hb' : 2 ^ (n - 1) ≤ b) (ha : a < b * 2 ^ n) : Fn w (k + 3) (.ref 57) [Nn a, Nn b, Nn n] (qr a b) := by
  have hb0 : 0 < b := Nat.lt_of_lt_of_le (Nat.two_pow_pos _) hb'
  by_cases hs : (intBits (a : Int) : Int) - n ≤ 4000
  · exact d2_small hb0 hb (by omega) hs
  refine Fn.def (k := k + 2) (def_d2 w) rfl ?_
  refine Exs.cons (Ex.ite (b := false) ?_ (fun e => by cases e) fun _ => Exs.nil) ?_
  · rw [← decide_eq_false hs]
    exact Ts.cmp (Ev.binop (Ev.meth0 (Ev.name rfl) Ty.int F.plainAttrs_int F.slot_int_bit_length F.type_int_bit_length Me.bitLength) (Ev.name rfl) Op2.subI) (Ev.modInt (nm_limit rfl)) Cm.leI
  -- what follows the padding
  have main : ∀ p h : Nat, p < 2 → n + p = 2 * h → ∀ ρ : Rho, ρ = upd ((fnPs (topSt 7)).zip [Nn (a * 2 ^ p), Nn (b * 2 ^ p), Nn (2 * h)]) (Str.ofString "pad") (Nn p) →
      Exs w (k + 2) (fnScope (topSt 7)) none ρ ((fnBody (topSt 7)).drop 3) (.ret (qr a b)) := by
    intro p h hp hnp ρ hρ
    subst hρ
    have hpp := Nat.two_pow_pos p
    have hph := Nat.two_pow_pos h
    have hh1 : 1 ≤ h := by omega
    have hA : a * 2 ^ p < b * 2 ^ p * 2 ^ (2 * h) := by
      have h1 : a * 2 ^ p < b * 2 ^ n * 2 ^ p := Nat.mul_lt_mul_of_pos_right ha hpp
      have h2 : 2 ^ n ≤ 2 ^ (2 * h) := Nat.pow_le_pow_right (by decide) (by omega)
      have h3 : b * 2 ^ p * 2 ^ n ≤ b * 2 ^ p * 2 ^ (2 * h) := Nat.mul_le_mul_left _ h2
      have h4 : b * 2 ^ n * 2 ^ p = b * 2 ^ p * 2 ^ n := by rw [Nat.mul_assoc, Nat.mul_assoc, Nat.mul_comm (2 ^ n)]
      omega
    have hB : b * 2 ^ p < 2 ^ (2 * h) := by
      rw [← hnp, Nat.pow_add]
      exact Nat.mul_lt_mul_of_pos_right hb hpp
    have hBl : 2 ^ h ≤ b * 2 ^ p := by
      have h1 : 2 ^ (n - 1) * 2 ^ p ≤ b * 2 ^ p := Nat.mul_le_mul_right _ hb'
      rw [← Nat.pow_add] at h1
      exact Nat.le_trans (Nat.pow_le_pow_right (by decide) (by omega)) h1
    have hres : qr a b = .tuple [Nn (a * 2 ^ p / (b * 2 ^ p)), Nn (a * 2 ^ p % (b * 2 ^ p) / 2 ^ p)] := by
      rw [Nat.mul_div_mul_right _ _ hpp, Nat.mul_mod_mul_right, Nat.mul_div_cancel _ hpp]
    rw [hres]
    generalize hAA : a * 2 ^ p = A at *
    generalize hBB : b * 2 ^ p = b' at *
    have hB0 : 0 < b' := by omega
    obtain ⟨f1, f2⟩ := two_steps A b' h hB0
    have hx1 : A / 2 ^ (2 * h) < b' := (Nat.div_lt_iff_lt_mul (Nat.two_pow_pos _)).mpr hA
    have hb1 : 0 < b' / 2 ^ h := Nat.div_pos hBl hph
    have hsplit : b' = b' / 2 ^ h * 2 ^ h + b' % 2 ^ h := by rw [Nat.mul_comm]; exact (Nat.div_add_mod _ _).symm
    have g1 := d3_spec (w := w) (k := k) (a12 := A / 2 ^ (2 * h)) (a3 := A / 2 ^ h % 2 ^ h) hsplit (Nat.mod_lt _ hph) (Nat.mod_lt _ hph) hx1 hb1 hB (by omega)
    rw [split_top] at g1
    have hr1 := Nat.mod_lt (A / 2 ^ h) hB0
    have g2 := d3_spec (w := w) (k := k) (a12 := A / 2 ^ h % b') (a3 := A % 2 ^ h) hsplit (Nat.mod_lt _ hph) (Nat.mod_lt _ hph) hr1 hb1 hB (by omega)
    have hq2 : (A / 2 ^ h % b' * 2 ^ h + A % 2 ^ h) / b' < 2 ^ h := by
      refine (Nat.div_lt_iff_lt_mul hB0).mpr ?_
      have h1 : (A / 2 ^ h % b' + 1) * 2 ^ h ≤ b' * 2 ^ h := Nat.mul_le_mul_right _ hr1
      rw [Nat.add_mul, Nat.one_mul, Nat.mul_comm b'] at h1
      have := Nat.mod_lt A hph
      omega
    have hq1 : A / 2 ^ h / b' < 2 ^ (4 * h) := by
      refine Nat.lt_of_le_of_lt (Nat.div_le_self _ _) (Nat.lt_of_le_of_lt (Nat.div_le_self _ _) (Nat.lt_of_lt_of_le hA ?_))
      rw [show 4 * h = 2 * h + 2 * h by omega, Nat.pow_add]
      exact Nat.mul_le_mul_right _ (Nat.le_of_lt hB)
    refine Exs.cons (Ex.assign (d := Nn h) ?_ (.inl rfl)) ?_
    · have := Ev.binop (w := w) (k := k + 2) (sc := fnScope (topSt 7)) (ρ := upd ((fnPs (topSt 7)).zip [Nn A, Nn b', Nn (2 * h)]) (Str.ofString "pad") (Nn p)) (op := .RShift) (pos := ⟨0, 0, 0, 0⟩) (Ev.name (x := Str.ofString "n") (pos := ⟨0, 0, 0, 0⟩) rfl) (Ev.int (i := 1) (n := 0) (pos := ⟨0, 0, 0, 0⟩)) (Op2.shrN (a := 2 * h) (n := 1))
      have e1 : 2 * h / 2 ^ 1 = h := by omega
      have o : Op2 w (k + 2) .RShift (Nn (2 * h)) (.int 1) (Nn h) := by
        have := Op2.shrN (w := w) (k := k + 2) (a := 2 * h) (n := 1)
        rw [e1] at this
        exact this
      exact Ev.binop (Ev.name rfl) Ev.int o
    refine Exs.cons (Ex.assign (d := Nn (2 ^ h - 1)) (Ev.binop (Ev.binop Ev.int (Ev.name rfl) (Op2.shlN (a := 1) (m := 1) (by decide) (by omega))) Ev.int Op2.maskN) (.inl rfl)) ?_
    refine Exs.cons (Ex.swap (a := Nn (b' / 2 ^ h)) (b := Nn (b' % 2 ^ h)) (Ev.binop (Ev.name rfl) (Ev.name rfl) Op2.shrN) (Ev.binop (Ev.name rfl) (Ev.name rfl) Op2.andMask) rfl rfl) ?_
    refine Exs.cons (Ex.tuple2 (Ev.call (nm_d3 rfl) (keepsOk.def rfl) (Evs.cons (Ev.binop (Ev.name rfl) (Ev.name rfl) Op2.shrN) (Evs.cons (Ev.binop (Ev.binop (Ev.name rfl) (Ev.name rfl) Op2.shrN) (Ev.name rfl) Op2.andMask) (Evs.cons (Ev.name rfl) (Evs.cons (Ev.name rfl) (Evs.cons (Ev.name rfl) (Evs.cons (Ev.name rfl) Evs.nil)))))) g1) (.inl rfl) (.inl rfl)) ?_
    refine Exs.cons (Ex.tuple2 (Ev.call (nm_d3 rfl) (keepsOk.def rfl) (Evs.cons (Ev.name rfl) (Evs.cons (Ev.binop (Ev.name rfl) (Ev.name rfl) Op2.andMask) (Evs.cons (Ev.name rfl) (Evs.cons (Ev.name rfl) (Evs.cons (Ev.name rfl) (Evs.cons (Ev.name rfl) Evs.nil)))))) g2) (.inl rfl) (.inl rfl)) ?_
    have fin : ∀ ρ : Rho, ρ.lookup (Str.ofString "q1") = some (Nn (A / 2 ^ h / b')) → ρ.lookup (Str.ofString "q2") = some (Nn ((A / 2 ^ h % b' * 2 ^ h + A % 2 ^ h) / b')) → ρ.lookup (Str.ofString "half_n") = some (Nn h) → ρ.lookup (Str.ofString "r") = some (Nn (A % b' / 2 ^ p)) →
        Exs w (k + 2) (fnScope (topSt 7)) none ρ ((fnBody (topSt 7)).drop 9) (.ret (.tuple [Nn (A / b'), Nn (A % b' / 2 ^ p)])) := by
      intro ρ e1 e2 e3 e4
      rw [← f1]
      exact Exs.ret (Ex.return (Ev.tuple (Evs.cons (Ev.binop (Ev.binop (Ev.name e1) (Ev.name e3) (Op2.shlN hq1 (by omega))) (Ev.name e2) (Op2.orN hq2)) (Evs.cons (Ev.name e4) Evs.nil)) (show 2 ≤ 1000 by decide)))
    rw [f2] at *
    have hp' : p = 0 ∨ p = 1 := by omega
    rcases hp' with rfl | rfl
    · refine Exs.cons (Ex.ite (b := false) (Ts.int rfl rfl) (fun e => by cases e) fun _ => Exs.nil) (fin _ rfl rfl rfl ?_)
      rw [Nat.pow_zero, Nat.div_one]
      rfl
    · refine Exs.cons (Ex.ite (b := true) (Ts.int rfl rfl) (fun _ => Exs.cons (Ex.aug (r := ((A % b' / 2 ^ 1 : Nat) : Int)) rfl Ev.int ?_ (.inl rfl)) Exs.nil) fun e => by cases e) (fin _ rfl rfl rfl rfl)
      have := Ip.shr (a := ((A % b' : Nat) : Int)) (n := 1) (by decide)
      rw [show ((2 : Int) ^ (1 : Int).toNat) = ((2 ^ 1 : Nat) : Int) by rfl, fdiv_nat] at this
      exact this
  refine Exs.cons (Ex.assign (d := Nn (n % 2)) (Ev.binop (Ev.name rfl) Ev.int Op2.andOne) (.inl rfl)) ?_
  have hn2 : n % 2 = 0 ∨ n % 2 = 1 := by omega
  rcases hn2 with e | e
  · have hm := main 0 (n / 2) (by decide) (by omega) _ rfl
    rw [Nat.pow_zero, Nat.mul_one, Nat.mul_one, show 2 * (n / 2) = n by omega] at hm
    rw [e]
    exact Exs.cons (Ex.ite (b := false) (Ts.int rfl rfl) (fun e => by cases e) fun _ => Exs.nil) hm
  · have hm := main 1 ((n + 1) / 2) (by decide) (by omega) _ rfl
    rw [show 2 * ((n + 1) / 2) = n + 1 by omega] at hm
    rw [e]
    have sh : ∀ x : Nat, x < 2 ^ 20000 → Ip .LShift (x : Int) 1 ((x * 2 ^ 1 : Nat) : Int) := fun x hx => by
      have := Ip.shl (a := (x : Int)) (n := 1) (by decide) (by have := bits_le hx; omega)
      rw [show (x : Int) * 2 ^ (1 : Int).toNat = ((x * 2 ^ 1 : Nat) : Int) by simp] at this
      exact this
    have hbb : b < 2 ^ 20000 := Nat.lt_of_lt_of_le hb (Nat.pow_le_pow_right (by decide) (by omega))
    have haa : a < 2 ^ 20000 := by
      refine Nat.lt_of_lt_of_le ha (Nat.le_trans (Nat.mul_le_mul_right _ (Nat.le_of_lt hb)) ?_)
      rw [← Nat.pow_add]
      exact Nat.pow_le_pow_right (by decide) (by omega)
    refine Exs.cons (ρ' := _) (Ex.ite (b := true) (Ts.int rfl rfl) (fun _ => Exs.cons (Ex.aug rfl Ev.int (sh a haa) (.inl rfl)) (Exs.cons (Ex.aug rfl Ev.int (sh b hbb) (.inl rfl)) (Exs.cons (Ex.aug (r := ((n + 1 : Nat) : Int)) rfl Ev.int Ip.add (.inl rfl)) Exs.nil))) fun e => by cases e) hm
end
end Mine
end
section
open PySem PySem.W PyProof.Rows PySem.Calls
set_option Elab.async false
set_option maxRecDepth 100000
set_option linter.unusedVariables false
set_option linter.unusedSimpArgs false
namespace Mine
/-! the code tables of the two defs that hold a def -/
def TT (a : Addr) : Prop := a = 66 ∨ a = 73
def posOf : Stmt → Pos
  | .FunctionDef _ _ _ _ _ _ _ _ _ p => p
  | _ => ⟨0, 0, 0, 0⟩
def inSt (i j : Nat) : Stmt := (fnBody (topSt i)).getD j (.Pass ⟨0, 0, 0, 0⟩)
def Tab (h : Heap) (P : Addr) (p : Pos) (q : Str) : Prop := ∃ ps : Array Value, h.get? P = some (tabObj ps) ∧ (ps = #[] ∨ ∃ c', ps = #[rawInt p.line, rawInt p.col, .ref c'] ∧ h.CodeRec (.ref c') q)
abbrev q9 : Str := Str.ofString "_int2digits.<locals>.inner"
abbrev q10 : Str := Str.ofString "_digits2int.<locals>.inner"
structure Tb (h : Heap) : Prop where
  t9 : Tab h 66 (posOf (inSt 9 1)) q9
  t10 : Tab h 73 (posOf (inSt 10 0)) q10
def Ft (h : Heap) (a : Addr) : Prop := TT a ∨ ∃ P ps, TT P ∧ h.get? P = some (tabObj ps) ∧ Value.ref a ∈ ps
theorem Tab.keep {h h' : Heap} {P : Addr} {p : Pos} {q : Str} (t : Tab h P p q) (hP : TT P) (hk : ∀ a o, Ft h a → h.get? a = some o → h'.get? a = some o) : Tab h' P p q := by
  obtain ⟨ps, e, r⟩ := t
  refine ⟨ps, hk _ _ (.inl hP) e, r.imp id fun ⟨c', e1, c, o, vs, tk, e2, g, r2⟩ => ⟨c', e1, c, o, vs, tk, e2, hk c o (.inr ⟨P, ps, hP, e, ?_⟩) g, r2⟩⟩
  rw [e1, e2]; simp
theorem Tb.obj {h : Heap} (t : Tb h) {P : Addr} (hP : TT P) : ∃ ps, h.get? P = some (tabObj ps) := by
  rcases hP with rfl | rfl
  · obtain ⟨ps, e, _⟩ := t.t9; exact ⟨ps, e⟩
  · obtain ⟨ps, e, _⟩ := t.t10; exact ⟨ps, e⟩
theorem Tb.keep {h h' : Heap} (t : Tb h) (hk : ∀ a o, Ft h a → h.get? a = some o → h'.get? a = some o) : Tb h' := ⟨t.t9.keep (.inl rfl) hk, t.t10.keep (.inr rfl) hk⟩
theorem Tb.ft {h h' : Heap} (t : Tb h) (hk : ∀ a o, Ft h a → h.get? a = some o → h'.get? a = some o) : ∀ a, Ft h' a → Ft h a := fun a ha => by
  rcases ha with ha | ⟨P, ps, hP, e, hm⟩
  · exact .inl ha
  · obtain ⟨ps0, e0⟩ := t.obj hP
    have := hk P _ (.inl hP) e0
    rw [e] at this; cases this
    exact .inr ⟨P, ps, hP, e0, hm⟩
theorem Tab.refs {h : Heap} {P a : Addr} {p : Pos} {q : Str} {ps : Array Value} (t : Tab h P p q) (e : h.get? P = some (tabObj ps)) (hm : Value.ref a ∈ ps) : ∃ o, h.get? a = some o := by
  obtain ⟨ps0, e0, r⟩ := t
  rw [e] at e0; cases e0
  rcases r with rfl | ⟨c', e1, c, o, vs, tk, e2, g, _⟩
  · simp at hm
  · rw [e1] at hm
    cases e2
    have : a = c' := by simpa [rawInt] using hm
    exact ⟨o, this ▸ g⟩
theorem Tb.alive {h : Heap} (t : Tb h) {a : Addr} (ha : Ft h a) : ∃ o, h.get? a = some o := by
  rcases ha with ha | ⟨P, ps, hP, e, hm⟩
  · obtain ⟨ps, e⟩ := t.obj ha; exact ⟨_, e⟩
  · rcases hP with rfl | rfl
    · exact t.t9.refs e hm
    · exact t.t10.refs e hm
theorem ns_hide {h : Heap} {l : List Addr} (hl : ∀ P ∈ l, ∃ ps, h.get? P = some (tabObj ps)) {a : Addr} {mm : Str → Option Value} (x : h.Ns a mm) : (hideAll h l).Ns a mm :=
  let ⟨o, es, ep, e, hd, r⟩ := x
  ⟨o, es, ep, hideAll_get _ e (fun q => by obtain ⟨ps, e'⟩ := hl a q; rw [e] at e'; cases e'; cases hd), hd, r⟩
abbrev hid (h : Heap) : Heap := hideAll h [66, 73]
theorem hid_none {h : Heap} {a : Addr} (ha : TT a) : (hid h).get? a = none := hideAll_none _ (by rcases ha with rfl | rfl <;> simp)
theorem hid_get {h : Heap} {a : Addr} {o : Obj} (e : h.get? a = some o) (ha : ¬ TT a) : (hid h).get? a = some o := hideAll_get _ e fun q => ha (by
  rcases List.mem_cons.mp q with q | q
  · exact .inl q
  · exact .inr (List.mem_singleton.mp q))
theorem G.hide {w : World} {h : Heap} (g : G w h) (t : Tb h) : G w (hid h) := by
  have hl : ∀ P ∈ ([66, 73] : List Addr), ∃ ps, h.get? P = some (tabObj ps) := fun P hP => t.obj (by
    rcases List.mem_cons.mp hP with q | q
    · exact .inl q
    · exact .inr (List.mem_singleton.mp q))
  refine ⟨fun a o e => hid_get (g.k a o e) fun q => ?_, ?_, let ⟨ob, e, r⟩ := g.m; ⟨ob, hid_get e (fun q => by rcases q with q | q <;> exact absurd q (by decide)), r⟩⟩
  · rcases q with rfl | rfl
    · rw [show (KK w).lookup 66 = none from rfl] at e; cases e
    · rw [show (KK w).lookup 73 = none from rfl] at e; cases e
  · obtain ⟨mg, mb, T⟩ := g.t
    exact ⟨mg, mb, ns_hide hl T.g, ns_hide hl T.b, (let ⟨mc, a, r⟩ := T.nolimit; ⟨mc, ns_hide hl a, r⟩), T.builtins, T.free⟩
/-! calls that may grow the tables -/
def Gr (s s' : Shared) : Prop := ∀ a, Ft s'.heap a → Ft s.heap a ∨ s.heap.get? a = none
structure PostT (B : Addr → Prop) (s : Shared) (d : PyData) (v : Value) (s' : Shared) : Prop where
  kb : Kb TT s s'
  tb : Tb s'.heap
  gr : Gr s s'
  rd : Rd (HasB (Nw B s.heap) s'.heap) v d
def FnT (w : World) (k : Nat) (f : Value) (ds : List PyData) (d : PyData) : Prop :=
  ∀ (prog : Program) (A : Around) (s : Shared) (vs : List Value) (B : Addr → Prop), Rm k A → G w s.heap → Tb s.heap → Rds (HasB B s.heap) vs ds → wpAny (model prog w) A (call f vs) (PostT B s d) NoE s
def EvT (w : World) (k : Nat) (sc : Sc) (ρ : Rho) (e : Expr) (d : PyData) : Prop :=
  ∀ (prog : Program) (A : Around) (s : Shared) (env : Env) (B : Addr → Prop), Rm k A → G w s.heap → Tb s.heap → Vars B env sc ρ s.heap → wpAny (model prog w) A (eval e env) (PostT B s d) NoE s
theorem Tb.kp {s s' : Shared} (t : Tb s.heap) (kp : Kp s s') : Tb s'.heap ∧ Gr s s' := ⟨t.keep fun a o _ e => kp.heap a o e, fun a ha => .inl (t.ft (fun a o _ e => kp.heap a o e) a ha)⟩
theorem PostT.after {B : Addr → Prop} {s s₁ s₂ : Shared} {d : PyData} {v : Value} (t : Tb s.heap) (kp : Kp s s₁) (x : PostT (Nw B s.heap) s₁ d v s₂) : PostT B s d v s₂ where
  kb := (Kb.of kp).trans x.kb
  tb := x.tb
  gr := fun a ha => (x.gr a ha).elim ((t.kp kp).2 a) fun q => .inr (kp_none kp q)
  rd := x.rd.mono fun a o e _ => ⟨e.get, e.ok.elim id fun q => .inr (kp_none kp q)⟩
theorem PostT.of {B : Addr → Prop} {s s' : Shared} {d : PyData} {v : Value} (t : Tb s.heap) (x : Post B s d v s') : PostT B s d v s' := ⟨.of x.1, (t.kp x.1).1, (t.kp x.1).2, x.2⟩
section
variable {w : World} {k : Nat} {sc : Sc} {ρ : Rho}
theorem EvT.of {e : Expr} {d : PyData} (h : Ev w k sc ρ e d) : EvT w k sc ρ e d := fun prog A s env B R g t V => wpAny_mono (h prog A s env B R g V) (fun _ _ h' => .of t h') fun _ _ x => x
theorem FnT.mono {k' : Nat} {f : Value} {ds : List PyData} {d : PyData} (h : FnT w k f ds d) (hk : k ≤ k') : FnT w k' f ds d := fun prog A s vs B R g t r => h prog A s vs B (R.mono hk) g t r
theorem EvT.call {x : Str} {npos pos : Pos} {f : Value} {e : Expr} {es : List Expr} {ds : List PyData} {d : PyData} (n : Nm w sc x f) (hk : keepsOk w f) (hes : Evs w k sc ρ (e :: es) ds) (hf : FnT w k f ds d)
    (hpl : (e :: es).all (fun e => !isStarred e) = true := by rfl) :
    EvT w k sc ρ (.Call (.Name x npos) (e :: es) [] pos) d := fun prog A s env B R g t V => by
  rw [eval_callName]
  refine wpAny_bind (n.go g V ?_)
  have h := hes prog A s env B pos R g V
  rw [List.all_cons, Bool.and_eq_true] at hpl
  rw [star_cons (by simpa using hpl.1) env] at h ⊢
  refine callWith_of (P := G w) (by show ((false || (backTo pos (starEach es env)).any (·.1)) || false) = false; rw [(star_all env hpl.2).1]; rfl) (fun h gh => hk _ h gh) (evalArgs_plain (wpAny_mono h (fun vs s₁ h₁ => ?_) fun _ _ x => x))
  refine ⟨g.keeps h₁.1.heap, ?_⟩
  exact wpAny_mono (hf prog A s₁ vs _ R (g.keeps h₁.1.heap) (t.kp h₁.1).1 h₁.2) (fun v s₂ h₂ => .after t h₁.1 h₂) fun _ _ x => x
end
/-! statements -/
structure Tv (M : Addr → Prop) (ow : Own) (oa : Addr) (h₀ h : Heap) : Prop where
  tb : Tb h
  dis : ∀ a, Ft h a → ¬ MO M ow oa a
  new : ∀ a, TT a → h₀.get? a = none
def MT (M : Addr → Prop) (ow : Own) (oa a : Addr) : Prop := MO M ow oa a ∨ TT a
def Al (s s' : Shared) : Prop := ∀ a, s'.heap.get? a = none → s.heap.get? a = none
def SPT (h₀ : Heap) (B : Addr → Prop) (env : Env) (sc : Sc) (M : Addr → Prop) (ow₀ : Own) (oa : Addr) (s : Shared) : Out → Flow → Shared → Prop
  | .nxt ow ρ, fl, s' => fl = .next ∧ Kb (MT M ow₀ oa) s s' ∧ Fs h₀ B env sc M ow oa ρ s' ∧ Tv M ow oa h₀ s'.heap ∧ Gr s s' ∧ Al s s'
  | .ret d, fl, s' => ∃ v, fl = .ret v ∧ Kb (MT M ow₀ oa) s s' ∧ Rd (HasB B s'.heap) v d ∧ Tb s'.heap ∧ Gr s s'
def ExT (w : World) (k : Nat) (sc : Sc) (ow : Own) (ρ : Rho) (st : Stmt) (o : Out) : Prop :=
  ∀ (prog : Program) (A : Around) (s : Shared) (env : Env) (B : Addr → Prop) (h₀ : Heap) (M : Addr → Prop) (oa : Addr), Rm k A → G w h₀ → Fs h₀ B env sc M ow oa ρ s → Tv M ow oa h₀ s.heap → wpAny (model prog w) A (exec st env) (SPT h₀ B env sc M ow oa s o) NoE s
def ExsT (w : World) (k : Nat) (sc : Sc) (ow : Own) (ρ : Rho) (sts : List Stmt) (o : Out) : Prop :=
  ∀ (prog : Program) (A : Around) (s : Shared) (env : Env) (B : Addr → Prop) (h₀ : Heap) (M : Addr → Prop) (oa : Addr), Rm k A → G w h₀ → Fs h₀ B env sc M ow oa ρ s → Tv M ow oa h₀ s.heap → wpAny (model prog w) A (execs sts env) (SPT h₀ B env sc M ow oa s o) NoE s
section
variable {w : World} {k : Nat} {sc : Sc} {ow : Own} {oa : Addr} {ρ : Rho} {h₀ : Heap} {B : Addr → Prop} {env : Env} {M : Addr → Prop} {s : Shared}
theorem Fs.alive (F : Fs h₀ B env sc M ow oa ρ s) {a : Addr} (h : MO M ow oa a) : ∃ o, s.heap.get? a = some o := by
  rcases h with h | ⟨h, rfl⟩
  · obtain ⟨o, e, _⟩ := F.fm.mobj a h; exact ⟨o, e⟩
  · obtain ⟨⟨z, zs⟩, ez⟩ := Option.isSome_iff_exists.mp h
    obtain ⟨vs, _, ⟨n, h2⟩, _⟩ := F.own z zs ez
    exact ⟨_, h2⟩
/-- tables beside a plain change -/
theorem Tv.kb {s' : Shared} (T : Tv M ow oa h₀ s.heap) (kb : Kb (MO M ow oa) s s') : Tb s'.heap ∧ Gr s s' ∧ ∀ a, Ft s'.heap a → Ft s.heap a :=
  have hk : ∀ a o, Ft s.heap a → s.heap.get? a = some o → s'.heap.get? a = some o := fun a o ha e => kb.heap a o (T.dis a ha) e
  ⟨T.tb.keep hk, fun a ha => .inl (T.tb.ft hk a ha), T.tb.ft hk⟩
theorem SPT.of {ow₀ : Own} {o : Out} {fl : Flow} {s' : Shared} (F : Fs h₀ B env sc M ow₀ oa ρ s) (T : Tv M ow₀ oa h₀ s.heap) (ho : ∀ ow ρ, o = .nxt ow ρ → ow₀.isSome = ow.isSome) (x : SP h₀ B env sc M ow₀ oa s o fl s') : SPT h₀ B env sc M ow₀ oa s o fl s' := by
  cases o with
  | nxt ow ρ =>
    obtain ⟨h1, kb, F'⟩ := x
    have hsm := MO.same (M := M) (oa := oa) (ho ow ρ rfl)
    obtain ⟨t1, t2, t3⟩ := T.kb kb
    refine ⟨h1, kb.mono fun _ h => .inl h, F', ⟨t1, fun a ha => hsm ▸ T.dis a (t3 a ha), T.new⟩, t2, fun a ha => ?_⟩
    cases e : s.heap.get? a with
    | none => rfl
    | some o =>
      by_cases q : MO M ow₀ oa a
      · rw [hsm] at q
        obtain ⟨o', e'⟩ := F'.alive q
        rw [ha] at e'; cases e'
      · have := kb.heap a o q e; rw [ha] at this; cases this
  | ret d =>
    obtain ⟨v, h1, kb, r⟩ := x
    obtain ⟨t1, t2, _⟩ := T.kb kb
    exact ⟨v, h1, kb.mono fun _ h => .inl h, r, t1, t2⟩
theorem ExT.of {st : Stmt} {o : Out} (h : Ex w k sc ow ρ st o) (ho : ∀ ow' ρ', o = .nxt ow' ρ' → ow.isSome = ow'.isSome := by intro _ _ e; cases e; rfl) : ExT w k sc ow ρ st o := fun prog A s env B h₀ M oa R g F T =>
  wpAny_mono (h prog A s env B h₀ M oa R g F) (fun fl s' x => SPT.of F T ho x) fun _ _ x => x
theorem ExsT.of {sts : List Stmt} {o : Out} (h : Exs w k sc ow ρ sts o) (ho : ∀ ow' ρ', o = .nxt ow' ρ' → ow.isSome = ow'.isSome := by intro _ _ e; cases e; rfl) : ExsT w k sc ow ρ sts o := fun prog A s env B h₀ M oa R g F T =>
  wpAny_mono (h prog A s env B h₀ M oa R g F) (fun fl s' x => SPT.of F T ho x) fun _ _ x => x
theorem MT.same {ow' : Own} (h : ow.isSome = ow'.isSome) : MT M ow oa = MT M ow' oa := by funext a; unfold MT; rw [MO.same h]
theorem SPT.chg {ow₀ ow₁ : Own} (h : ow₀.isSome = ow₁.isSome) {o : Out} {fl : Flow} {s' : Shared} (x : SPT h₀ B env sc M ow₀ oa s o fl s') : SPT h₀ B env sc M ow₁ oa s o fl s' := by
  cases o with
  | nxt ow ρ => exact ⟨x.1, MT.same (M := M) (oa := oa) h ▸ x.2.1, x.2.2⟩
  | ret d => obtain ⟨v, h1, h2, h3⟩ := x; exact ⟨v, h1, MT.same (M := M) (oa := oa) h ▸ h2, h3⟩
theorem SPT.pre {ow₀ : Own} {s₁ : Shared} {o : Out} {fl : Flow} {s' : Shared} (kb : Kb (MT M ow₀ oa) s s₁) (gr : Gr s s₁) (al : Al s s₁) (x : SPT h₀ B env sc M ow₀ oa s₁ o fl s') : SPT h₀ B env sc M ow₀ oa s o fl s' := by
  cases o with
  | nxt ow ρ => exact ⟨x.1, kb.trans x.2.1, x.2.2.1, x.2.2.2.1, fun a ha => (x.2.2.2.2.1 a ha).elim (gr a) fun q => .inr (al a q), fun a ha => al a (x.2.2.2.2.2 a ha)⟩
  | ret d => obtain ⟨v, h1, h2, h3, h4, h5⟩ := x; exact ⟨v, h1, kb.trans h2, h3, h4, fun a ha => (h5 a ha).elim (gr a) fun q => .inr (al a q)⟩
theorem ExsT.cons {st : Stmt} {rest : List Stmt} {ow' : Own} {ρ' : Rho} {o : Out} (h : ExT w k sc ow ρ st (.nxt ow' ρ')) (hs : ExsT w k sc ow' ρ' rest o) (hw : ow.isSome = ow'.isSome := by rfl) : ExsT w k sc ow ρ (st :: rest) o := fun prog A s env B h₀ M oa R g F T =>
  wpAny_execs_cons (wpAny_mono (h prog A s env B h₀ M oa R g F T) (fun fl s₁ h₁ => by
    obtain ⟨rfl, kb, F₁, T₁, gr, al⟩ := h₁
    exact wpAny_mono (hs prog A s₁ env B h₀ M oa R g F₁ T₁) (fun _ _ h₂ => .pre kb gr al (.chg hw.symm h₂)) fun _ _ x => x) fun _ _ x => x)
theorem ExsT.ret {st : Stmt} {rest : List Stmt} {d : PyData} (h : ExT w k sc ow ρ st (.ret d)) : ExsT w k sc ow ρ (st :: rest) (.ret d) := fun prog A s env B h₀ M oa R g F T =>
  wpAny_execs_cons (wpAny_mono (h prog A s env B h₀ M oa R g F T) (fun fl s₁ h₁ => by
    obtain ⟨v, rfl, h₂⟩ := h₁
    exact ⟨v, rfl, h₂⟩) fun _ _ x => x)
theorem ExsT.weaken {sts : List Stmt} {ow' : Own} {ρ₁ ρ₂ : Rho} (h : ExsT w k sc ow ρ sts (.nxt ow' ρ₁)) (hs : Sub ρ₂ ρ₁) : ExsT w k sc ow ρ sts (.nxt ow' ρ₂) := fun prog A s env B h₀ M oa R g F T =>
  wpAny_mono (h prog A s env B h₀ M oa R g F T) (fun fl s' h' => ⟨h'.1, h'.2.1, h'.2.2.1.weaken hs, h'.2.2.2⟩) fun _ _ x => x
theorem notSeq_tab {ps : Array Value} : ¬ SeqObj (tabObj ps) := fun q => by
  unfold SeqObj at q
  rcases q with ⟨_, q⟩ | ⟨_, q⟩ <;> cases q
/-- the tables have grown -/
theorem Fs.grown {s' : Shared} (F : Fs h₀ B env sc M ow oa ρ s) (T : Tv M ow oa h₀ s.heap) (kb : Kb TT s s') (tb : Tb s'.heap) (gr : Gr s s') : Fs h₀ B env sc M ow oa ρ s' ∧ Tv M ow oa h₀ s'.heap ∧ Al s s' := by
  have hmem : ∀ a, a ∈ ([66, 73] : List Addr) ↔ TT a := fun a => by unfold TT; simp
  obtain ⟨h', tk, rfl, hk⟩ := kb
  refine ⟨F.moved (wr := [66, 73]) (fun b o hb e => hk b o (fun q => hb ((hmem b).mpr q)) e) (fun a o ha e sq => ?_) (fun a ha hm => T.dis a (.inl ((hmem a).mp ha)) (.inl hm)) (fun a ha => T.new a ((hmem a).mp ha)) (fun ho hm => T.dis oa (.inl ((hmem oa).mp hm)) (.inr ⟨ho, rfl⟩)) (fun a ha e => ?_), ⟨tb, fun a ha hm => ?_, T.new⟩, fun a ha => ?_⟩
  · obtain ⟨ps, e'⟩ := T.tb.obj ((hmem a).mp ha)
    rw [e] at e'; cases e'
    exact absurd sq notSeq_tab
  · obtain ⟨ps, e'⟩ := tb.obj ((hmem a).mp ha)
    rw [e] at e'; cases e'
  · rcases gr a ha with q | q
    · exact T.dis a q hm
    · obtain ⟨o, e⟩ := F.alive hm; rw [q] at e; cases e
  · cases e : s.heap.get? a with
    | none => rfl
    | some o =>
      by_cases q : TT a
      · obtain ⟨ps, e'⟩ := tb.obj q; rw [ha] at e'; cases e'
      · have := hk a o q e; rw [ha] at this; cases this
theorem Fs.evT {prog : Program} {A : Around} {e : Expr} {d : PyData} {Q : Value → Shared → Prop} (F : Fs h₀ B env sc M ow oa ρ s) (T : Tv M ow oa h₀ s.heap) (R : Rm k A) (g : G w h₀) (he : EvT w k sc ρ e d)
    (h : ∀ v s', Kb TT s s' → Fs h₀ B env sc M ow oa ρ s' → Tv M ow oa h₀ s'.heap → Gr s s' → Al s s' → Rd (HasB B s'.heap) v d → Q v s') : wpAny (model prog w) A (eval e env) Q NoE s :=
  wpAny_mono (he prog A s env B R (F.g g) T.tb F.fm.vars) (fun v s' h' => by
    obtain ⟨F', T', al⟩ := F.grown T h'.kb h'.tb h'.gr
    exact h v s' h'.kb F' T' h'.gr al (F.rd h'.rd)) fun _ _ x => x
end
end Mine
end
section
open PySem PySem.W PyProof.Rows PySem.Calls
set_option Elab.async false
set_option maxRecDepth 100000
set_option linter.unusedVariables false
set_option linter.unusedSimpArgs false
namespace Mine
section
variable {w : World} {k : Nat} {sc : Sc} {ow : Own} {ρ : Rho}
theorem SPT.done {h₀ : Heap} {B : Addr → Prop} {env : Env} {M : Addr → Prop} {oa : Addr} {s s₁ s₂ : Shared} {ρ₁ ρ₂ : Rho} (kb : Kb TT s s₁) (gr : Gr s s₁) (al : Al s s₁) (F : Fs h₀ B env sc M ow oa ρ₁ s₁) (T : Tv M ow oa h₀ s₁.heap) (kb₂ : Kb (MO M ow oa) s₁ s₂) (F₂ : Fs h₀ B env sc M ow oa ρ₂ s₂) :
    SPT h₀ B env sc M ow oa s (.nxt ow ρ₂) .next s₂ :=
  .pre (kb.mono fun _ h => .inr h) gr al (SPT.of F T (fun _ _ e => by cases e; rfl) ⟨rfl, kb₂, F₂⟩)
/-- x = f(..) -/
theorem ExT.assign {x : Str} {px pos : Pos} {e : Expr} {d : PyData} (he : EvT w k sc ρ e d) (hx : stores sc x) (ho : notOwn ow x = true := by rfl)
    (hs : ∀ env : Env, (∀ y, env.kindOf y = sc.lookup y) → swapsWith e (some (.Name x px)) pos.line env = pure false := by intro _ _; rfl) : ExT w k sc ow ρ (.Assign [.Name x px] e pos) (.nxt ow (upd ρ x d)) := fun prog A s env B h₀ M oa R g F T => by
  refine wpAny_Assign_Name (F.evT T R g he fun v s₁ kb F₁ T₁ gr al r => ?_) (hs env F.fm.vars.kindOf)
  exact F₁.store hx (notOwn_of ho) r fun s₂ kb₂ F₂ => SPT.done kb gr al F₁ T₁ kb₂.toMO F₂
theorem ExT.return {e : Expr} {pos : Pos} {d : PyData} (he : EvT w k sc ρ e d) : ExT w k sc ow ρ (.Return (some e) pos) (.ret d) := fun prog A s env B h₀ M oa R g F T =>
  wpAny_Return_some (F.evT T R g he fun v s₁ kb F₁ T₁ gr al r => ⟨v, rfl, kb.mono fun _ h => .inr h, r, T₁.tb, gr⟩)
theorem ExT.ite {t : Expr} {body orelse : List Stmt} {pos : Pos} {b : Bool} {o : Out} (ht : Ts w k sc (full ow ρ) t b) (h1 : b = true → ExsT w k sc ow ρ body o) (h2 : b = false → ExsT w k sc ow ρ orelse o) : ExT w k sc ow ρ (.If t body orelse pos) o := fun prog A s env B h₀ M oa R g F T => by
  refine wpAny_If (F.ts R g ht fun s₁ kp F₁ => ?_)
  have kb : Kb (MO M ow oa) s s₁ := .of kp
  obtain ⟨_, _, _, T₁, gr, al⟩ := SPT.of (o := .nxt ow ρ) (fl := .next) F T (fun _ _ e => by cases e; rfl) ⟨rfl, kb, F₁⟩
  have kb' : Kb (MT M ow oa) s s₁ := kb.mono fun _ h => .inl h
  cases b with
  | true => exact wpAny_mono (h1 rfl prog A s₁ env B h₀ M oa R g F₁ T₁) (fun _ _ h => .pre kb' gr al h) fun _ _ x => x
  | false => exact wpAny_mono (h2 rfl prog A s₁ env B h₀ M oa R g F₁ T₁) (fun _ _ h => .pre kb' gr al h) fun _ _ x => x
end
end Mine
end
section
open PySem PySem.W PyProof.Rows PySem.Calls
set_option Elab.async false
set_option maxRecDepth 100000
set_option linter.unusedVariables false
set_option linter.unusedSimpArgs false
namespace Mine
section
variable {w : World} {k : Nat} {sc : Sc} {ow : Own} {ρ : Rho}
theorem ExT.tuple2 {x y : Str} {px py pt pos : Pos} {n : Nat} {e : Expr} {a b : PyData} (he : EvT w k sc ρ e (.tuple [a, b])) (hx : stores sc x) (hy : stores sc y) (hox : notOwn ow x = true := by rfl) (hoy : notOwn ow y = true := by rfl)
    (hs : ∀ env, swapsWithSole [.Tuple [.Name x px, .Name y py] n pt] e pos.line env = pure false := by intro _; rfl) (hw : ∀ env, swappedStores [.Tuple [.Name x px, .Name y py] n pt] e env = pure none := by intro _; rfl) :
    ExT w k sc ow ρ (.Assign [.Tuple [.Name x px, .Name y py] n pt] e pos) (.nxt ow (upd (upd ρ x a) y b)) := fun prog A s env B h₀ M oa R g F T => by
  refine Assign_Tuple (F.evT T R g he fun v s₁ kb F₁ T₁ gr al r => ?_) (hs env) (hw env)
  obtain ⟨t, v₁, v₂, rfl, ht, r1, r2⟩ := tuple2_inv r
  show wpAny _ _ (do standAt pt; unpack (.ref t) [(false, PySem.assign (.Name x px) env), (false, PySem.assign (.Name y py) env)]) _ _ _
  refine wpAny_bind (wpAny_standAt (unpack_tuple R.hd ht rfl rfl fun h' hk => ?_))
  have kp' := kp_ext hk
  exact Fs.store2 (F₁.next kp') (fun s Q h => wpAny_assign_Name h) (fun s Q h => wpAny_assign_Name h) hx hy hox hoy (F₁.rd (r1.next kp')) (F₁.rd (r2.next kp')) fun s' kb' F' => SPT.done kb gr al F₁ T₁ ((Kb.of kp').trans kb'.toMO) F'
/-- for x in iter: body -/
theorem ExT.for {x : Str} {px pos : Pos} {iter : Expr} {body : List Stmt} {items : List PyData} (ows : Nat → Own) (ρs : Nat → Rho) (hit : It w k sc ρ iter items) (h0 : ows 0 = ow) (hs0 : Sub (ρs 0) ρ) (hx : stores sc x)
    (hw : ∀ i, (ows i).isSome = ow.isSome) (hn : ∀ i, notOwn (ows i) x = true)
    (hbody : ∀ i d, items[i]? = some d → ExsT w k sc (ows i) (upd (ρs i) x d) body (.nxt (ows (i + 1)) (ρs (i + 1)))) (hs : ∀ env x, foldedSetIterable iter env x = pure x := by intro _ _; rfl) :
    ExT w k sc ow ρ (.For (.Name x px) iter body [] pos) (.nxt (ows items.length) (ρs items.length)) := fun prog A s env B h₀ M oa R g F T => by
  refine wpAny_For (wpAny_mono (hit prog A s env B R (F.g g) F.fm.vars) (fun xv s₁ h₁ => wpAny_mono h₁.2 (fun it s₂ h₂ => ?_) fun _ _ e => e) fun _ _ e => e) (hs env)
  obtain ⟨kp, I, fp, wr, P, St, rfl, W, hst, hfp, hwn, hfs, hwo, hP⟩ := h₂
  have F₂ := F.next kp
  have hfM : ∀ b ∈ fp, ¬ M b := fun b hb hm => by
    obtain ⟨o, q1, q2⟩ := F.fm.mobj b hm
    rcases hfs b hb with q | ⟨_, o', q, sq⟩
    · rw [q] at q1; cases q1
    · rw [q] at q1; cases q1; exact q2 sq
  have hfT : ∀ b ∈ fp, ¬ TT b := fun b hb hm => by
    obtain ⟨ps, e⟩ := T.tb.obj hm
    rcases hfs b hb with q | ⟨_, o', q, sq⟩
    · rw [q] at e; cases e
    · rw [q] at e; cases e; exact notSeq_tab sq
  have hfo : ow.isSome = true → ∀ b ∈ fp, b ≠ oa := fun e b hb q => by
    obtain ⟨⟨z, zs⟩, ez⟩ := Option.isSome_iff_exists.mp e
    obtain ⟨vs, _, ⟨n, h2⟩, _, h4, _⟩ := F.own z zs ez
    rcases hfs b hb with q' | ⟨hb', _⟩
    · rw [q, h2] at q'; cases q'
    · exact h4 (q ▸ hb')
  have hfMO : ∀ b ∈ fp, ¬ MT M ow oa b := fun b hb q => q.elim (fun q => q.elim (hfM b hb) fun q => hfo q.1 b hb q.2) (hfT b hb)
  have h0w : ∀ a ∈ wr, h₀.get? a = none := fun a ha => by
    cases e : h₀.get? a with
    | none => rfl
    | some o => have := F.fm.base a o e; rw [hwn a ha] at this; cases this
  have hBw : ∀ {i : Nat} {h : Heap}, St i h → ∀ a o, a ∈ wr → h.get? a = some o → SeqObj o → ¬ B a := fun st a o ha e sq => by
    obtain ⟨o', e', q'⟩ := hwo _ _ st a ha
    rw [e] at e'; cases e'; exact absurd sq q'
  have hwT : ∀ a ∈ wr, ¬ Ft s.heap a := fun a ha q => by obtain ⟨o, e⟩ := T.tb.alive q; rw [hwn a ha] at e; cases e
  have T₂ : Tv M (ows 0) oa h₀ s₂.heap := ⟨(T.tb.kp kp).1, fun a ha => by
    have := T.tb.ft (fun a o _ e => kp.heap a o e) a ha
    rw [h0]; exact T.dis a this, T.new⟩
  refine codeAny_forLoop_any (fun n s' => ∃ i, i ≤ items.length ∧ n = items.length + 1 - i ∧ Fs h₀ B env sc M (ows i) oa (ρs i) s' ∧ Tv M (ows i) oa h₀ s'.heap ∧ Gr s s' ∧ Al s s' ∧ (∀ a ∈ wr, ¬ Ft s'.heap a) ∧ St i s'.heap ∧ (∃ h' tk, s' = { s with heap := h', toks := tk }) ∧ ∀ b o, b ∉ wr → ¬ MT M ow oa b → s₂.heap.get? b = some o → s'.heap.get? b = some o)
    (fun n s' hI => ?_) (items.length + 1) ⟨0, Nat.zero_le _, rfl, by rw [h0]; exact F₂.weaken hs0, T₂, (T.tb.kp kp).2, fun a ha => kp_none kp ha, fun a ha q => hwT a ha (T.tb.ft (fun a o _ e => kp.heap a o e) a q), hst, (by obtain ⟨h', tk, e, _⟩ := kp; exact ⟨h', tk, e⟩), fun _ _ _ _ e => e⟩
  obtain ⟨i, hi, rfl, F₃, T₃, gr₃, al₃, dw₃, st, ⟨H, TK, rfl⟩, kept⟩ := hI
  -- the iterator's own move
  have mv : ∀ {h' : Heap} {tk : Nat}, (∀ b o, b ∉ wr → H.get? b = some o → h'.get? b = some o) → Tv M (ows i) oa h₀ h' ∧ (∀ a, Ft h' a → Ft H a) := fun {h' tk} hk => by
    have hk' : ∀ a o, Ft H a → H.get? a = some o → h'.get? a = some o := fun a o ha e => hk a o (fun hm => dw₃ a hm ha) e
    exact ⟨⟨T₃.tb.keep hk', fun a ha => T₃.dis a (T₃.tb.ft hk' a ha), T₃.new⟩, T₃.tb.ft hk'⟩
  by_cases hlt : i < items.length
  · refine W.item i _ _ _ hlt st fun v h' tk hv st' hk => ?_
    obtain ⟨d, hd, rd⟩ := hP i v hv
    have F₄ := F₃.moved (tk := tk) hk (hBw st) (fun a ha => hfM a (W.sub a ha)) h0w (fun e hm => hfo (by rw [← hw i]; exact e) oa (W.sub _ hm) rfl) fun a ha e => by
      obtain ⟨o, q, _⟩ := hwo _ _ st' a ha; rw [e] at q; cases q
    obtain ⟨T₄, ft₄⟩ := mv (tk := tk) hk
    have al₄ : ∀ a, h'.get? a = none → s.heap.get? a = none := fun a ha => al₃ a (by
      cases e : H.get? a with
      | none => rfl
      | some o =>
        by_cases q : a ∈ wr
        · obtain ⟨o', q', _⟩ := hwo _ _ st' a q; rw [ha] at q'; cases q'
        · have := hk a o q e; rw [ha] at this; cases this)
    have rd' : Rd (HasB B h') v d := rd.mono fun a o e sq => by
      have hBa : B a := F.nwB e.ok
      have hwa : a ∉ wr := fun hm => by obtain ⟨o', e', q'⟩ := hwo _ _ hst a hm; rw [e.get] at e'; cases e'; exact q' sq
      have hMa : ¬ MT M ow oa a := fun q => by
        rcases q with (q | ⟨q, rfl⟩) | q
        · obtain ⟨o', e', q'⟩ := F₂.fm.mobj a q; rw [e.get] at e'; cases e'; exact q' sq
        · obtain ⟨⟨z, zs⟩, ez⟩ := Option.isSome_iff_exists.mp q
          obtain ⟨_, _, _, _, h4, _⟩ := F.own z zs ez
          exact h4 hBa
        · obtain ⟨ps, e'⟩ := T₂.tb.obj q; rw [e.get] at e'; cases e'; exact notSeq_tab sq
      exact ⟨hk a o hwa (kept a o hwa hMa e.get), hBa⟩
    show wpAny _ _ (letOwnedTupleGo (.Name x px) (.ref I) v) _ _ _
    refine wpAny_pure (wpAny_assign_Name (F₄.store hx (notOwn_of (hn i)) rd' fun s₃ kb F₅ => ?_))
    obtain ⟨_, _, _, T₅, gr₅, al₅⟩ := SPT.of (o := .nxt (ows i) _) (fl := .next) F₄ T₄ (fun _ _ e => by cases e; rfl) ⟨rfl, kb.toMO, F₅⟩
    refine wpAny_mono (hbody i d hd prog A s₃ env B h₀ M oa R g F₅ T₅) (fun fl s₄ h₄ => ?_) fun _ _ e => e.elim
    obtain ⟨rfl, kb₂, F₆, T₆, gr₆, al₆⟩ := h₄
    have keep4 : ∀ b o, ¬ MT M ow oa b → h'.get? b = some o → s₄.heap.get? b = some o := fun b o hb e => kb₂.heap b o (fun q => hb (by rw [MT.same (hw i)] at q; exact q)) (kb.heap b o (fun q => hb (.inl (.inl q))) e)
    have step : ∀ a, Ft s₄.heap a → Ft H a ∨ h'.get? a = none := fun a ha => by
      rcases gr₆ a ha with q | q
      · rcases gr₅ a q with q | q
        · exact .inl (ft₄ a q)
        · exact .inr q
      · exact .inr (al₅ a q)
    refine ⟨items.length + 1 - (i + 1), by omega, i + 1, hlt, rfl, F₆, T₆, fun a ha => ?_, fun a ha => al₄ a (al₅ a (al₆ a ha)), fun a ha q => ?_, W.frame _ _ _ st' fun b hb o e => keep4 b o (hfMO b hb) e, ?_, fun b o hb hm e => keep4 b o hm (hk b o hb (kept b o hb hm e))⟩
    · rcases step a ha with q | q
      · exact gr₃ a q
      · exact .inr (al₄ a q)
    · rcases step a q with q | q
      · exact dw₃ a ha q
      · obtain ⟨o', q', _⟩ := hwo _ _ st' a ha; rw [q] at q'; cases q'
    obtain ⟨H1, t1, q1, _⟩ := kb
    obtain ⟨H2, t2, q2, _⟩ := kb₂
    subst q1
    exact ⟨H2, t2, q2⟩
  · have hin : i = items.length := by omega
    subst hin
    refine W.done _ _ _ st fun h' tk hk => wpAny_execs_nil ?_
    obtain ⟨T₄, ft₄⟩ := mv (tk := tk) hk
    refine ⟨rfl, ⟨h', tk, rfl, fun b o hb e => ?_⟩, ?_, T₄, fun a ha => gr₃ a (ft₄ a ha), fun a ha => ?_⟩
    · have hbw : b ∉ wr := fun hm => by rw [hwn b hm] at e; cases e
      exact hk b o hbw (kept b o hbw hb (kp.heap b o e))
    · exact F₃.moved (tk := tk) hk (hBw st) (fun a ha => hfM a (W.sub a ha)) h0w (fun e hm => hfo (by rw [← hw _]; exact e) oa (W.sub _ hm) rfl) fun a ha e => F.cl a (hwn a ha)
    · by_cases q : a ∈ wr
      · exact hwn a q
      · refine al₃ a ?_
        cases e : H.get? a with
        | none => rfl
        | some o => have := hk a o q e; rw [show h'.get? a = none from ha] at this; cases this
theorem ExT.forN {x : Str} {px pos : Pos} {iter : Expr} {body : List Stmt} {items : List PyData} (n : Nat) (hlen : items.length = n) (ows : Nat → Own) (ρs : Nat → Rho) (hit : It w k sc ρ iter items) (h0 : ows 0 = ow) (hs0 : Sub (ρs 0) ρ) (hx : stores sc x)
    (hw : ∀ i, (ows i).isSome = ow.isSome) (hn : ∀ i, notOwn (ows i) x = true)
    (hbody : ∀ i d, items[i]? = some d → ExsT w k sc (ows i) (upd (ρs i) x d) body (.nxt (ows (i + 1)) (ρs (i + 1)))) (hs : ∀ env x, foldedSetIterable iter env x = pure x := by intro _ _; rfl) :
    ExT w k sc ow ρ (.For (.Name x px) iter body [] pos) (.nxt (ows n) (ρs n)) := by
  subst hlen
  exact ExT.for ows ρs hit h0 hs0 hx hw hn hbody hs
end
end Mine
end
section
open PySem PySem.W PyProof.Rows PySem.Calls
set_option Elab.async false
set_option maxRecDepth 100000
set_option linter.unusedVariables false
set_option linter.unusedSimpArgs false
namespace Mine
section
variable {w : World} {k : Nat} {sc : Sc} {ow : Own} {ρ : Rho}
theorem ExsT.ownBlock {x : Str} {px lpos pos : Pos} {blk rest : List Stmt} {xs : List PyData} {ρ₁ : Rho} {o : Out} (hx : stores sc x) (hρ : ρ.lookup x = none) (hρ₁ : ρ₁.lookup x = none)
    (hblk : ExsT w k sc (some (x, [])) ρ blk (.nxt (some (x, xs)) ρ₁)) (hrest : ExsT w k sc none (upd ρ₁ x (.list xs)) rest o) :
    ExsT w k sc none ρ (.Assign [.Name x px] (.List [] lpos) pos :: (blk ++ rest)) o := fun prog A s env B h₀ M oa R g F T => by
  refine wpAny_execs_cons (wpAny_Assign_Name (wpAny_List (wpAny_items_nil ⟨Nat.zero_le _, ?_⟩)) rfl)
  have kp : Kp s { s with heap := s.heap.push { cls := .type "list", data := .seq ([] : List Value).toArray } } := Kp.push _
  have hnew : s.heap.get? s.heap.objs.size = none := push_none _
  generalize ha : s.heap.objs.size = a at *
  have hB0 : B a := F.cl a hnew
  have h0a : h₀.get? a = none := by
    cases q : h₀.get? a with
    | none => rfl
    | some o => have := F.fm.base a o q; rw [hnew] at this; cases this
  have hMa : ¬ M a := fun hm => by obtain ⟨o, q, _⟩ := F.fm.mobj a hm; rw [hnew] at q; cases q
  have hp : (s.heap.push { cls := .type "list", data := .seq ([] : List Value).toArray }).get? a = some { cls := .type "list", data := .seq ([] : List Value).toArray } := by rw [← ha]; exact Heap.get?_push_size _ rfl
  have F1 : Fm h₀ (fun b => B b ∧ b ≠ a) env sc M ρ (s.heap.push { cls := .type "list", data := .seq ([] : List Value).toArray }) :=
    (F.fm.monoB (B' := fun b => B b ∧ b ≠ a) fun b o e _ hb => ⟨hb, fun q => by rw [q, hnew] at e; cases e⟩).change (fun _ => False) (fun b o _ e => kp.heap b o e) (fun _ _ q => q.elim) (fun _ q => q.elim) (fun _ q => q.elim)
  have F2 : Fm h₀ B env sc M ρ (s.heap.push { cls := .type "list", data := .seq ([] : List Value).toArray }) := F1.monoB fun b o _ _ hb => hb.1
  generalize hs₁ : ({ s with heap := s.heap.push { cls := .type "list", data := .seq ([] : List Value).toArray } } : Shared) = s₁ at *
  have e₁ : s.heap.push { cls := .type "list", data := .seq ([] : List Value).toArray } = s₁.heap := by rw [← hs₁]
  rw [e₁] at F1 F2 hp
  refine Fm.store F2 (hx.imp id fun hx => ⟨hx, F.oc x hx⟩) (.list ⟨hp, hB0⟩ .nil) fun h' tk hk hld hnone lx F3 => ?_
  have F4 : Fs h₀ (fun b => B b ∧ b ≠ a) env sc M (some (x, [])) a ρ { s₁ with heap := h', toks := tk } := by
    refine ⟨F1.rebase hk hld F3 hρ, fun b hb => ⟨F.cl b (kp_none kp (hnone b hb)), fun q => ?_⟩, F.oc, fun y ys e => ?_⟩
    · have := hk a _ hMa hp
      rw [q] at hb
      rw [show h'.get? a = none from hb] at this; cases this
    · cases e
      exact ⟨_, lx, ⟨_, hk _ _ hMa hp⟩, .nil, fun q => q.2 rfl, hMa, h0a⟩
  have hkT : ∀ a o, Ft s.heap a → s.heap.get? a = some o → h'.get? a = some o := fun b o hb e => hk b o (fun q => T.dis b hb (.inl q)) (kp.heap b o e)
  have ft4 := T.tb.ft hkT
  have T4 : Tv M (some (x, [])) a h₀ h' := by
    refine ⟨T.tb.keep hkT, fun b hb q => ?_, T.new⟩
    have hb' := ft4 b hb
    rcases q with q | ⟨_, q⟩
    · exact T.dis b hb' (.inl q)
    · obtain ⟨o, e⟩ := T.tb.alive hb'
      rw [q, hnew] at e; cases e
  have al4 : ∀ b, h'.get? b = none → s.heap.get? b = none := fun b hb => kp_none kp (hnone b hb)
  show wpAny _ _ (execs (blk ++ rest) env) _ _ _
  rw [execs_append]
  refine wpAny_bind (wpAny_mono (hblk prog A _ env _ h₀ M a R g F4 T4) (fun fl s₃ h₃ => ?_) fun _ _ e => e)
  obtain ⟨rfl, kb, F5, T5, gr5, al5⟩ := h₃
  have kb1 : Kb M s { s₁ with heap := h', toks := tk } := (Kb.of kp).trans ⟨h', tk, rfl, hk⟩
  have kb2 : Kb (MT M none oa) s s₃ := by
    obtain ⟨H1, t1, q1, k1⟩ := kb1
    obtain ⟨H2, t2, q2, k2⟩ := kb
    have k1' : ∀ b o, ¬ M b → s.heap.get? b = some o → ({ s₁ with heap := h', toks := tk } : Shared).heap.get? b = some o := by rw [q1]; exact k1
    rw [q1] at q2
    refine ⟨H2, t2, q2, fun b o hb e => k2 b o (fun hm => ?_) (k1' b o (fun q => hb (.inl (.inl q))) e)⟩
    rcases hm with (hm | ⟨_, hm⟩) | hm
    · exact hb (.inl (.inl hm))
    · rw [hm, hnew] at e; cases e
    · exact hb (.inr hm)
  obtain ⟨vs, l5, ⟨n5, hp5⟩, rs5, _, _, _⟩ := F5.own x xs rfl
  have F6 : Fs h₀ B env sc M none oa (upd ρ₁ x (.list xs)) s₃ := by
    refine ⟨{ F5.fm with vars := ⟨F5.fm.vars.kind, F5.fm.vars.names, F5.fm.vars.globals, F5.fm.vars.builtins, fun y d hy => ?_⟩ }, fun b hb => (F5.cl b hb).1, F.oc, fun y ys e => by cases e⟩
    rw [lookup_upd] at hy
    cases hb : y == x with
    | true =>
      rw [hb] at hy; cases hy
      rw [beq_iff_eq.mp hb]
      exact ⟨_, .list ⟨hp5, hB0⟩ (rs5.mono fun b o q _ => ⟨q.get, q.ok.1⟩), l5⟩
    | false =>
      rw [hb] at hy
      obtain ⟨v, r, l⟩ := F5.fm.vars.look y d hy
      exact ⟨v, r.mono fun b o q _ => ⟨q.get, q.ok.1⟩, l⟩
  have T6 : Tv M none oa h₀ s₃.heap := ⟨T5.tb, fun b hb q => T5.dis b hb (.inl (q.elim id fun q => by cases q.1)), T5.new⟩
  exact wpAny_mono (hrest prog A s₃ env B h₀ M oa R g F6 T6) (fun _ _ h => .pre kb2 (fun b hb => (gr5 b hb).elim (fun q => .inl (ft4 b q)) fun q => .inr (al4 b q)) (fun b hb => al4 b (al5 b hb)) h) fun _ _ e => e
/-- a call of a def whose statements may grow the tables -/
theorem FnT.ofX {f : Addr} {fd : FuncData} {ps : List Str} {body : List Stmt} {sc : Sc} {ds : List PyData} {d : PyData} (D : DefAt w f fd ps body sc) (hl : ds.length = ps.length)
    (h : ∀ (prog : Program) (A : Around) (s : Shared) (env : Env) (B : Addr → Prop) (h₀ : Heap) (M : Addr → Prop) (oa : Addr), env.code = fd.code → env.qual = fd.qualname ++ ".<locals>." → Rm k A → G w h₀ → Fs h₀ B env sc M none oa (ps.zip ds) s → Tv M none oa h₀ s.heap → wpAny (model prog w) A (execs body env) (SPT h₀ B env sc M none oa s (.ret d)) NoE s) : FnT w (k + 1) (.ref f) ds d := fun prog A s vs B R g t rs => by
  have hvl : vs.length = ps.length := by rw [rs.length, hl]
  obtain ⟨oc, od, osl, hlk⟩ := D.look
  obtain ⟨mg, mb, T⟩ := g.t
  have hmap : (ps.zip vs).map (·.1) = ps := by rw [List.map_fst_zip]; omega
  refine wpAny_call (codeAny_call_cells R.depth (g.k _ _ hlk) rfl T.nolimit (codeRec_of g.k D.code) D.body (D.bind vs hvl) D.clo (fun x hx => ?_) (fun s₁ IC => ?_) D.co D.gen D.kind)
  · have hm : x.1 ∈ ps := by rw [← hmap]; exact List.mem_map.mpr ⟨x, hx, rfl⟩
    rw [D.names]
    refine (D.kinds _ hm).imp id fun q => ⟨q, ?_⟩
    obtain ⟨c, hc, _⟩ := cellsFrom_has x.1 sc (s.heap.objs.size + 1) [] (mem_of_lookup q)
    rw [hc]; rfl
  · generalize he : callEnvC fd s.heap.objs.size f = env at *
    have eL : env.locals = s.heap.objs.size := by rw [← he]; rfl
    have eS : env.scope = fd.scope := by rw [← he]; rfl
    have eC : env.cells = cellsFrom (s.heap.objs.size + 1) fd.scope.names [] := by rw [← he]; rfl
    have kOf : ∀ y, env.kindOf y = sc.lookup y := fun y => by unfold Env.kindOf; rw [eS, D.names]
    have hM : ∀ a, (a = env.locals ∨ ∃ x, env.cells.lookup x = some a) → ∃ o, s₁.heap.get? a = some o ∧ ¬ SeqObj o := fun a ha => by
      rcases ha with rfl | ⟨x, hx⟩
      · exact notSeq_ns IC.toInCall.ns
      · exact notSeq_cell (IC.cell x a hx)
    have hnew : ∀ a, (a = env.locals ∨ ∃ x, env.cells.lookup x = some a) → s.heap.get? a = none := fun a ha => by
      have hge : s.heap.objs.size ≤ a := by
        rcases ha with rfl | ⟨x, hx⟩
        · exact IC.toInCall.fresh
        · exact Nat.le_of_lt (Nat.lt_of_le_of_lt IC.toInCall.fresh (IC.above x a (mem_of_lookup hx)))
      cases e : s.heap.get? a with
      | none => rfl
      | some o => exact absurd (Heap.lt_size e) (Nat.not_lt.mpr hge)
    have hold : ∀ {b o}, (hid s.heap).get? b = some o → s.heap.get? b = some o := fun e => of_hideAll _ e
    have F : Fs (hid s.heap) (Nw B s.heap) env sc (fun a => a = env.locals ∨ ∃ x, env.cells.lookup x = some a) none 0 (ps.zip ds) s₁ := by
      refine ⟨⟨⟨by rw [eS]; exact D.kind, by rw [eS]; exact D.names, by rw [← he]; exact D.glob, by rw [← he]; exact D.bi, fun x d' hx => ?_⟩, ⟨_, IC.toInCall.ns⟩, .inl rfl, hM, fun a ha => ?_, fun x c hc => ?_, fun x y c _ hx hy => ?_, fun b o e => IC.toInCall.keep b o (hold e)⟩, fun a ha => ?_, fun x hx => ?_, fun x xs e => by cases e⟩
      · obtain ⟨v, hv, rv⟩ := lookup_zip rs hx
        refine ⟨v, rv.mono fun a o e _ => ⟨IC.toInCall.keep a o e.get, .inl e.ok⟩, ?_⟩
        have hmem : x ∈ ps := by rw [← hmap]; exact List.mem_map.mpr ⟨_, mem_of_lookup hv, rfl⟩
        have hrev : (ps.zip vs).reverse.lookup x = some v := by rw [lookup_rev x _ (by rw [hmap]; exact D.nodup)]; exact hv
        rcases D.kinds x hmem with q | q
        · refine .loc (by rw [kOf]; exact q) IC.toInCall.ns ?_
          rw [bindL_of (by rw [kOf]; exact q), hrev]; rfl
        · obtain ⟨c, hc, _⟩ := cellsFrom_has x sc (s.heap.objs.size + 1) [] (mem_of_lookup q)
          have hc' : env.cells.lookup x = some c := by rw [eC, D.names]; exact hc
          refine .cell (by rw [kOf]; exact q) hc' ?_
          have := IC.cell x c hc'
          rw [bindC_of (by rw [kOf]; exact q), hrev] at this
          exact this
      · cases e : (hid s.heap).get? a with
        | none => rfl
        | some o => have := hold e; rw [hnew a ha] at this; cases this
      · exact ⟨Nat.ne_of_gt (IC.above x c (mem_of_lookup hc)), ⟨_, IC.cell x c hc⟩, .inl (.inr ⟨x, hc⟩)⟩
      · exact name_of_addr IC.apart (mem_of_lookup hx) (mem_of_lookup hy)
      · refine .inr ?_
        cases e : s.heap.get? a with
        | none => rfl
        | some o => rw [IC.toInCall.keep a o e] at ha; cases ha
      · obtain ⟨c, hc, _⟩ := cellsFrom_has x sc (s.heap.objs.size + 1) [] (mem_of_lookup hx)
        have hc' : env.cells.lookup x = some c := by rw [eC, D.names]; exact hc
        exact ⟨c, hc', .inr ⟨x, hc'⟩⟩
    have hkT : ∀ a o, Ft s.heap a → s.heap.get? a = some o → s₁.heap.get? a = some o := fun a o _ e => IC.toInCall.keep a o e
    have Tv1 : Tv (fun a => a = env.locals ∨ ∃ x, env.cells.lookup x = some a) none 0 (hid s.heap) s₁.heap := by
      refine ⟨t.keep hkT, fun a ha q => ?_, fun a ha => hid_none ha⟩
      obtain ⟨o, e⟩ := t.alive (t.ft hkT a ha)
      rcases q with q | q
      · rw [hnew a q] at e; cases e
      · exact absurd q.1 (by decide)
    refine wpAny_mono (h prog (A.deeper env) s₁ env _ _ _ 0 (by rw [← he]; rfl) (by rw [← he]; rfl) (R.deeper env) (g.hide t) F Tv1) (fun fl s' h' => ?_) fun _ _ e => e.elim
    obtain ⟨v, rfl, kb, r, tb', gr⟩ := h'
    refine ⟨?_, tb', fun a ha => ?_, r⟩
    · obtain ⟨H1, T1, e1⟩ := IC.toInCall.same
      obtain ⟨H2, T2, e2, k2⟩ := kb
      have k1 := IC.toInCall.keep
      subst e1
      exact ⟨H2, T2, e2, fun b o hb e => k2 b o (fun q => q.elim (fun q => q.elim (fun q => by rw [hnew b q] at e; cases e) fun q => by cases q.1) hb) (k1 b o e)⟩
    · rcases gr a ha with q | q
      · exact .inl (t.ft hkT a q)
      · refine .inr ?_
        cases e : s.heap.get? a with
        | none => rfl
        | some o => rw [IC.toInCall.keep a o e] at q; cases q
theorem FnT.of {f : Addr} {fd : FuncData} {ps : List Str} {body : List Stmt} {sc : Sc} {ds : List PyData} {d : PyData} (D : DefAt w f fd ps body sc) (hl : ds.length = ps.length) (h : ExsT w k sc none (ps.zip ds) body (.ret d)) : FnT w (k + 1) (.ref f) ds d :=
  FnT.ofX D hl fun prog A s env B h₀ M oa _ _ R g F T => h prog A s env B h₀ M oa R g F T
theorem FnT.def {f : Addr} {i : Nat} {ds : List PyData} {d : PyData} (D : IsDef w f i) (hl : ds.length = (fnPs (topSt i)).length) (h : ExsT w k (fnScope (topSt i)) none ((fnPs (topSt i)).zip ds) (fnBody (topSt i)) (.ret d)) : FnT w (k + 1) (.ref f) ds d :=
  let ⟨_, D⟩ := D; FnT.of D hl h
end
end Mine
end
section
open PySem PySem.W PyProof.Rows PySem.Calls
set_option Elab.async false
set_option maxRecDepth 100000
set_option linter.unusedVariables false
set_option linter.unusedSimpArgs false
namespace Mine
/-! closures -/
def nameOf : Stmt → Str
  | .FunctionDef n _ _ _ _ _ _ _ _ _ => n
  | _ => Str.ofString ""
def argsOf : Stmt → Arguments
  | .FunctionDef _ a _ _ _ _ _ _ _ _ => a
  | _ => ⟨[], [], none, [], [], none, []⟩
def scopeOf : Stmt → Scope
  | .FunctionDef _ _ _ _ _ _ s _ _ _ => s
  | _ => default
abbrev cloFd (st : Stmt) (cl : List (Str × Addr)) (q : Str) (doc pm cdv ct : Value) : FuncData := fnX (nameOf st) q (argsOf st) (fnBody st) (scopeOf st) cl .none .none doc pm none cdv ct
def Clo (h : Heap) (f : Addr) (st : Stmt) (cl : List (Str × Addr)) (q : Str) : Prop :=
  ∃ oc od osl doc pm cdv ct, h.get? f = some ⟨oc, od, .func (cloFd st cl q doc pm cdv ct), osl⟩ ∧ h.CodeRec cdv q
theorem Clo.keeps {h h' : Heap} {f : Addr} {st : Stmt} {cl : List (Str × Addr)} {q : Str} (x : Clo h f st cl q) (hk : ∀ b o, h.get? b = some o → h'.get? b = some o) : Clo h' f st cl q :=
  let ⟨oc, od, osl, doc, pm, cdv, ct, e, r⟩ := x; ⟨oc, od, osl, doc, pm, cdv, ct, hk _ _ e, r.keeps hk⟩
theorem Clo.but {h h' : Heap} {f a : Addr} {vs : Array Value} {st : Stmt} {cl : List (Str × Addr)} {q : Str} (x : Clo h f st cl q) (ha : h.PlainList a vs) (hk : ∀ b o, b ≠ a → h.get? b = some o → h'.get? b = some o) : Clo h' f st cl q := by
  obtain ⟨oc, od, osl, doc, pm, cdv, ct, e, r⟩ := x
  obtain ⟨n, ea⟩ := ha
  refine ⟨oc, od, osl, doc, pm, cdv, ct, hk _ _ (fun q => ?_) e, r.keepsBut hk ea (fun _ q => by cases q)⟩
  rw [q, ea] at e; cases e
section
variable {w : World} {k : Nat} {prog : Program} {A : Around} {s : Shared}
theorem clo_go {f : Addr} {st : Stmt} {cl : List (Str × Addr)} {q : Str} {ps : List Str} {vs : List Value} {Q : Value → Shared → Prop} (C : Clo s.heap f st cl q) (R : Rm (k + 1) A) (g : G w s.heap)
    (hb : ∀ doc pm cdv ct, bindArgs (cloFd st cl q doc pm cdv ct) ⟨vs, []⟩ = pure (ps.zip vs)) (hcell : ∀ x ∈ (scopeOf st).names, x.2 ≠ .cell) (hloc : ∀ x ∈ ps.zip vs, (scopeOf st).names.lookup x.1 = some .local)
    (hco : (scopeOf st).isCoroutine = false) (hgen : (scopeOf st).isGenerator = false) (hkd : (scopeOf st).kind = .function)
    (h : ∀ env h₁ tk, env.locals = s.heap.objs.size → env.scope = scopeOf st → env.cells = cl → env.globals = mainGlobals → env.builtins = builtinsNs → h₁.Ns env.locals (fun x => (ps.zip vs).reverse.lookup x) → (∀ b o, s.heap.get? b = some o → h₁.get? b = some o) → Rm k (A.deeper env) →
      wpAny (model prog w) (A.deeper env) (execs (fnBody st) env) (fun fl s' => Q (match fl with | .ret v => v | _ => .none) s') NoE { s with heap := h₁, toks := tk }) :
    wpAny (model prog w) A (call (.ref f) vs) Q NoE s := by
  obtain ⟨oc, od, osl, doc, pm, cdv, ct, e, r⟩ := C
  obtain ⟨mg, mb, T⟩ := g.t
  refine wpAny_call (codeAny_call_def (fd := cloFd st cl q doc pm cdv ct) R.depth e rfl T.nolimit r rfl (BindsTo.of_eq (hb doc pm cdv ct)) hcell hloc (fun h₁ hns hk => ?_) hco hgen hkd)
  exact wpAny_mono (h _ h₁ _ rfl rfl rfl rfl rfl hns hk (R.deeper _)) (fun fl s' h' => h') fun _ _ x => x.elim
/-- a closure's frame -/
theorem clo_fs {sc : Sc} {env : Env} {h₀ h₁ : Heap} {tk : Nat} {B : Addr → Prop} {cl : List (Str × Addr)} {ps : List Str} {vs : List Value} {ds : List PyData} {ρc : Rho} {ow : Own} {oa : Addr}
    (e1 : env.locals = s.heap.objs.size) (e2 : env.scope.names = sc) (e3 : env.cells = cl) (e4 : env.globals = mainGlobals) (e5 : env.builtins = builtinsNs) (hkd : env.scope.kind = .function)
    (hns : h₁.Ns env.locals (fun x => (ps.zip vs).reverse.lookup x)) (hk : ∀ b o, s.heap.get? b = some o → h₁.get? b = some o) (hsub : ∀ b o, h₀.get? b = some o → s.heap.get? b = some o)
    (hnc : ∀ x, sc.lookup x ≠ some .cell) (hps : ∀ p ∈ ps, sc.lookup p = some .local) (hnd : ps.Nodup) (hlen : vs.length = ps.length) (rs : Rds (HasB B s.heap) vs ds) (hB : ∀ a, s.heap.get? a = none → B a)
    (hcl : ∀ x c, cl.lookup x = some c → ∃ v, h₀.IsCell c v)
    (hρ : ∀ y d, ρc.lookup y = some d → sc.lookup y = some .free ∧ (y == ("__classdict__" : Str)) = false ∧ ∃ c v, cl.lookup y = some c ∧ h₀.IsCell c (some v) ∧ Rd (HasB B s.heap) v d)
    (how : ∀ x xs, ow = some (x, xs) → sc.lookup x = some .free ∧ (x == ("__classdict__" : Str)) = false ∧ (∃ c, cl.lookup x = some c ∧ h₀.IsCell c (some (.ref oa))) ∧ (∃ us, s.heap.PlainList oa us ∧ Rds (HasB B s.heap) us.toList xs) ∧ ¬ B oa ∧ h₀.get? oa = none) :
    Fs h₀ B env sc (· = env.locals) ow oa (ps.zip ds ++ ρc) { s with heap := h₁, toks := tk } := by
  have kOf : ∀ y, env.kindOf y = sc.lookup y := fun y => by unfold Env.kindOf; rw [e2]
  have hLn : s.heap.get? env.locals = none := by rw [e1]; exact push_none _
  have hmap : (ps.zip vs).map (·.1) = ps := by rw [List.map_fst_zip]; omega
  have cellE : ∀ {c v}, h₀.IsCell c v → h₁.IsCell c v := fun x => x.keeps fun b o e => hk b o (hsub b o e)
  refine ⟨⟨⟨hkd, e2, e4, e5, fun x d hx => ?_⟩, ⟨_, hns⟩, rfl, fun a ha => ?_, fun a ha => ?_, fun x c hc => ?_, fun x y c hM hx hy => ?_, fun b o e => hk b o (hsub b o e)⟩, fun a ha => ?_, fun x hx => absurd hx (hnc x), fun x xs e => ?_⟩
  · rw [List.lookup_append] at hx
    cases e : (ps.zip ds).lookup x with
    | some d' =>
      rw [e] at hx; cases hx
      obtain ⟨v, hv, rv⟩ := lookup_zip rs e
      have hmem : x ∈ ps := by rw [← hmap]; exact List.mem_map.mpr ⟨_, mem_of_lookup hv, rfl⟩
      refine ⟨v, rv.mono fun a o e _ => ⟨hk a o e.get, e.ok⟩, .loc (by rw [kOf]; exact hps x hmem) hns ?_⟩
      show (ps.zip vs).reverse.lookup x = some v
      rw [lookup_rev x _ (by rw [hmap]; exact hnd)]; exact hv
    | none =>
      rw [e] at hx
      obtain ⟨q1, q2, c, v, q3, q4, q5⟩ := hρ x d hx
      exact ⟨v, q5.mono fun a o e _ => ⟨hk a o e.get, e.ok⟩, .free (by rw [kOf]; exact q1) (by rw [e3]; exact q3) (cellE q4) q2⟩
  · subst ha
    exact notSeq_ns hns
  · subst ha
    cases e : h₀.get? env.locals with
    | none => rfl
    | some o => have := hsub _ _ e; rw [hLn] at this; cases this
  · rw [e3] at hc
    obtain ⟨v, o, q1, q2⟩ := hcl x c hc
    refine ⟨fun q => ?_, ⟨v, cellE ⟨o, q1, q2⟩⟩, .inr ⟨o, q1⟩⟩
    have := hsub _ _ q1
    rw [q, hLn] at this; cases this
  · rw [e3] at hx
    obtain ⟨v, o, q1, _⟩ := hcl x c hx
    have := hsub _ _ q1
    rw [show c = env.locals from hM, hLn] at this; cases this
  · refine hB a ?_
    cases e : s.heap.get? a with
    | none => rfl
    | some o => have := hk a o e; rw [show h₁.get? a = none from ha] at this; cases this
  · obtain ⟨q1, q2, ⟨c, q3, q4⟩, ⟨us, ⟨n, q5⟩, q6⟩, q7, q8⟩ := how x xs e
    refine ⟨us, .free (by rw [kOf]; exact q1) (by rw [e3]; exact q3) (cellE q4) q2, ⟨n, hk _ _ q5⟩, q6.mono fun a o e _ => ⟨hk a o e.get, e.ok⟩, q7, fun q => ?_, q8⟩
    rw [show oa = env.locals from q, hLn] at q5; cases q5
end
/-! statements beside a fact of the base heap -/
def ExX (X : Heap → Env → Prop) (w : World) (k : Nat) (sc : Sc) (ow : Own) (ρ : Rho) (st : Stmt) (o : Out) : Prop :=
  ∀ (prog : Program) (A : Around) (s : Shared) (env : Env) (B : Addr → Prop) (h₀ : Heap) (M : Addr → Prop) (oa : Addr), X h₀ env → Rm k A → G w h₀ → Fs h₀ B env sc M ow oa ρ s → wpAny (model prog w) A (exec st env) (SP h₀ B env sc M ow oa s o) NoE s
def ExsX (X : Heap → Env → Prop) (w : World) (k : Nat) (sc : Sc) (ow : Own) (ρ : Rho) (sts : List Stmt) (o : Out) : Prop :=
  ∀ (prog : Program) (A : Around) (s : Shared) (env : Env) (B : Addr → Prop) (h₀ : Heap) (M : Addr → Prop) (oa : Addr), X h₀ env → Rm k A → G w h₀ → Fs h₀ B env sc M ow oa ρ s → wpAny (model prog w) A (execs sts env) (SP h₀ B env sc M ow oa s o) NoE s
section
variable {X : Heap → Env → Prop} {w : World} {k : Nat} {sc : Sc} {ow : Own} {ρ : Rho}
theorem ExX.of {st : Stmt} {o : Out} (h : Ex w k sc ow ρ st o) : ExX X w k sc ow ρ st o := fun prog A s env B h₀ M oa _ R g F => h prog A s env B h₀ M oa R g F
theorem ExsX.of {sts : List Stmt} {o : Out} (h : Exs w k sc ow ρ sts o) : ExsX X w k sc ow ρ sts o := fun prog A s env B h₀ M oa _ R g F => h prog A s env B h₀ M oa R g F
theorem ExsX.cons {st : Stmt} {rest : List Stmt} {ow' : Own} {ρ' : Rho} {o : Out} (h : ExX X w k sc ow ρ st (.nxt ow' ρ')) (hs : ExsX X w k sc ow' ρ' rest o) (hw : ow.isSome = ow'.isSome := by rfl) : ExsX X w k sc ow ρ (st :: rest) o := fun prog A s env B h₀ M oa x R g F =>
  wpAny_execs_cons (wpAny_mono (h prog A s env B h₀ M oa x R g F) (fun fl s₁ h₁ => by
    obtain ⟨rfl, kb, F₁⟩ := h₁
    exact wpAny_mono (hs prog A s₁ env B h₀ M oa x R g F₁) (fun _ _ h₂ => .pre kb (.chg hw.symm h₂)) fun _ _ x => x) fun _ _ x => x)
theorem ExsX.ret {st : Stmt} {rest : List Stmt} {d : PyData} (h : ExX X w k sc ow ρ st (.ret d)) : ExsX X w k sc ow ρ (st :: rest) (.ret d) := fun prog A s env B h₀ M oa x R g F =>
  wpAny_execs_cons (wpAny_mono (h prog A s env B h₀ M oa x R g F) (fun fl s₁ h₁ => by
    obtain ⟨v, rfl, h₂⟩ := h₁
    exact ⟨v, rfl, h₂⟩) fun _ _ x => x)
end
end Mine
end
section
open PySem PySem.W PyProof.Rows PySem.Calls PySem.Builtin PySem.Builtin.Int
set_option Elab.async false
set_option maxRecDepth 100000
set_option linter.unusedVariables false
set_option maxHeartbeats 4000000
namespace Mine
/-! expressions beside a fact of the base heap -/
def EvX (X : Heap → Env → Prop) (w : World) (k : Nat) (sc : Sc) (ρ : Rho) (e : Expr) (d : PyData) : Prop :=
  ∀ (prog : Program) (A : Around) (s : Shared) (env : Env) (B : Addr → Prop) (h₀ : Heap), X h₀ env → (∀ b o, h₀.get? b = some o → s.heap.get? b = some o) → Rm k A → G w s.heap → Vars B env sc ρ s.heap → wpAny (model prog w) A (eval e env) (Post B s d) NoE s
section
variable {X : Heap → Env → Prop} {w : World} {k : Nat} {sc : Sc} {ρ : Rho} {ow : Own}
theorem EvX.of {e : Expr} {d : PyData} (h : Ev w k sc ρ e d) : EvX X w k sc ρ e d := fun prog A s env B h₀ _ _ R g V => h prog A s env B R g V
theorem EvX.binop {op : Operator} {l r : Expr} {pos : Pos} {a b d : PyData} (hl : EvX X w k sc ρ l a) (hr : EvX X w k sc ρ r b) (ho : Op2 w k op a b d) : EvX X w k sc ρ (.BinOp l op r pos) d := fun prog A s env B h₀ x hs R g V => by
  refine wpAny_BinOp (wpAny_mono (hl prog A s env B h₀ x hs R g V) (fun va s₁ h₁ => ?_) fun _ _ x => x)
  refine wpAny_mono (hr prog A s₁ env _ h₀ x (fun b o e => h₁.1.heap b o (hs b o e)) R (g.keeps h₁.1.heap) (V.next h₁.1)) (fun vb s₂ h₂ => ?_) fun _ _ x => x
  exact wpAny_mono (ho prog A s₂ va vb _ R (g.keeps (h₁.1.trans h₂.1).heap) (h₁.2.next h₂.1) h₂.2) (fun v s₃ h₃ => .after2 h₁.1 h₂.1 h₃) fun _ _ x => x
theorem ExX.return {e : Expr} {pos : Pos} {d : PyData} (he : EvX X w k sc ρ e d) : ExX X w k sc ow ρ (.Return (some e) pos) (.ret d) := fun prog A s env B h₀ M oa x R g F =>
  wpAny_Return_some (wpAny_mono (he prog A s env B h₀ x F.fm.base R (F.g g) F.fm.vars) (fun v s₁ h₁ => ⟨v, rfl, .of h₁.1, F.rd h₁.2⟩) fun _ _ x => x)
/-- a call of a function that a name holds -/
theorem EvX.call {x : Str} {npos pos : Pos} {f : Addr} {e : Expr} {es : List Expr} {ds : List PyData} {d : PyData} (hld : ∀ h₀ env, X h₀ env → Ld env h₀ x (.ref f)) (hfn : ∀ h₀ env, X h₀ env → FnAt f h₀) (hes : Evs w k sc ρ (e :: es) ds)
    (hf : ∀ (prog : Program) (A : Around) (s : Shared) (vs : List Value) (B : Addr → Prop) (h₀ : Heap) (env : Env), X h₀ env → (∀ b o, h₀.get? b = some o → s.heap.get? b = some o) → Rm k A → G w s.heap → Rds (HasB B s.heap) vs ds → wpAny (model prog w) A (PySem.call (.ref f) vs) (Post B s d) NoE s)
    (hd : (x == ("__debug__" : Str)) = false := by decide +kernel) (hpl : (e :: es).all (fun e => !isStarred e) = true := by rfl) :
    EvX X w k sc ρ (.Call (.Name x npos) (e :: es) [] pos) d := fun prog A s env B h₀ xx hs R g V => by
  rw [eval_callName]
  refine wpAny_bind (wpAny_Name (ld_load V.kind ((hld h₀ env xx).keeps hs) ?_) hd)
  have h := hes prog A s env B pos R g V
  rw [List.all_cons, Bool.and_eq_true] at hpl
  rw [star_cons (by simpa using hpl.1) env] at h ⊢
  refine callWith_of (P := FnAt f) (by show ((false || (backTo pos (starEach es env)).any (·.1)) || false) = false; rw [(star_all env hpl.2).1]; rfl) (fun h gh => keeps_F h gh) (evalArgs_plain (wpAny_mono h (fun vs s₁ h₁ => ?_) fun _ _ x => x))
  have hs₁ : ∀ b o, h₀.get? b = some o → s₁.heap.get? b = some o := fun b o e => h₁.1.heap b o (hs b o e)
  refine ⟨let ⟨oc, od, fd, sl, e⟩ := hfn h₀ env xx; ⟨oc, od, fd, sl, hs₁ _ _ e⟩, ?_⟩
  exact wpAny_mono (hf prog A s₁ vs _ h₀ env xx hs₁ R (g.keeps h₁.1.heap) h₁.2) (fun v s₂ h₂ => .after h₁.1 h₂) fun _ _ x => x
end
/-! digits, plainly -/
noncomputable def val (n : Nat) : List Nat → Nat
  | [] => 0
  | d :: ds => d + 2 ^ n * val n ds
theorem val_append (n : Nat) (xs ys : List Nat) : val n (xs ++ ys) = val n xs + 2 ^ (n * xs.length) * val n ys := by
  induction xs with
  | nil => simp [val]
  | cons x xs ih =>
    show x + 2 ^ n * val n (xs ++ ys) = x + 2 ^ n * val n xs + _
    rw [ih, List.length_cons, Nat.mul_succ, Nat.pow_add, Nat.mul_add, Nat.mul_comm (2 ^ (n * xs.length)) (2 ^ n), Nat.mul_assoc, Nat.add_assoc]
def seg (D : List Nat) (L R : Nat) : List Nat := (D.drop L).take (R - L)
theorem seg_split (D : List Nat) {L m R : Nat} (h1 : L ≤ m) (h2 : m ≤ R) : seg D L R = seg D L m ++ seg D m R := by
  unfold seg
  rw [show R - L = (m - L) + (R - m) by omega, List.take_add, List.drop_drop, show L + (m - L) = m by omega]
theorem seg_len {D : List Nat} {L R : Nat} (h : R ≤ D.length) : (seg D L R).length = R - L := by
  unfold seg; rw [List.length_take, List.length_drop]; omega
theorem val_lt {n : Nat} : ∀ {ds : List Nat}, (∀ d ∈ ds, d < 2 ^ n) → val n ds < 2 ^ (n * ds.length)
  | [], _ => by simp [val]
  | d :: ds, h => by
    have h1 := h d List.mem_cons_self
    have h2 := val_lt (n := n) (ds := ds) fun e he => h e (List.mem_cons_of_mem _ he)
    show d + 2 ^ n * val n ds < _
    rw [List.length_cons, Nat.mul_succ, Nat.pow_add, Nat.mul_comm (2 ^ (n * ds.length))]
    have : 2 ^ n * (val n ds + 1) ≤ 2 ^ n * 2 ^ (n * ds.length) := Nat.mul_le_mul_left _ h2
    rw [Nat.mul_add, Nat.mul_one] at this
    omega
/-! inner of _digits2int -/
abbrev clD (cn ci cd : Addr) : List (Str × Addr) := [(Str.ofString "n", cn), (Str.ofString "inner", ci), (Str.ofString "digits", cd)]
structure InD (h : Heap) (f : Addr) (D : List Nat) (n : Nat) (cn ci cd : Addr) : Prop where
  clo : Clo h f (inSt 10 0) (clD cn ci cd) q10
  n : ∃ t, h.IsCell cn (some (.int n t))
  i : h.IsCell ci (some (.ref f))
  d : ∃ v, h.IsCell cd (some v) ∧ Rd (HasB (fun _ => True) h) v (.list (D.map Nn))
theorem InD.keeps {h h' : Heap} {f : Addr} {D : List Nat} {n : Nat} {cn ci cd : Addr} (x : InD h f D n cn ci cd) (hk : ∀ b o, h.get? b = some o → h'.get? b = some o) : InD h' f D n cn ci cd :=
  ⟨x.clo.keeps hk, let ⟨t, e⟩ := x.n; ⟨t, e.keeps hk⟩, x.i.keeps hk, let ⟨v, e, r⟩ := x.d; ⟨v, e.keeps hk, r.mono fun a o q _ => ⟨hk a o q.get, trivial⟩⟩⟩
section
variable {w : World}
abbrev scD : Sc := (scopeOf (inSt 10 0)).names
def XD (f : Addr) (D : List Nat) (n : Nat) (cn ci cd : Addr) (h₀ : Heap) (env : Env) : Prop := InD h₀ f D n cn ci cd ∧ env.cells = clD cn ci cd ∧ env.scope.names = scD
abbrev rhoD (D : List Nat) (n L R : Nat) : Rho := [(Str.ofString "L", Nn L), (Str.ofString "R", Nn R), (Str.ofString "digits", .list (D.map Nn)), (Str.ofString "n", Nn n)]
theorem enterD {D : List Nat} {n L R : Nat} {f cn ci cd : Addr} {k : Nat} {d : PyData} (h : ExsX (XD f D n cn ci cd) w k scD none (rhoD D n L R) (fnBody (inSt 10 0)) (.ret d))
    (prog : Program) (A : Around) (s : Shared) (vs : List Value) (B : Addr → Prop) (I : InD s.heap f D n cn ci cd) (Rr : Rm (k + 1) A) (g : G w s.heap) (rs : Rds (HasB B s.heap) vs [Nn L, Nn R]) (hint : ∃ a : Int, d = .int a) :
    wpAny (model prog w) A (PySem.call (.ref f) vs) (Post B s d) NoE s := by
  have hvl : vs.length = 2 := rs.length
  obtain ⟨v1, v2, rfl⟩ := len2 hvl
  refine clo_go (ps := [Str.ofString "L", Str.ofString "R"]) I.clo Rr g (fun _ _ _ _ => rfl) (by decide +kernel) (fun x hx => ?_) rfl rfl rfl fun env h₁ tk e1 e2 e3 e4 e5 hns hk R' => ?_
  · simp only [List.zip_cons_cons, List.zip_nil_right, List.mem_cons, List.not_mem_nil, or_false] at hx
    rcases hx with rfl | rfl <;> rfl
  obtain ⟨tn, hcn⟩ := I.n
  obtain ⟨vd, hcd, rd⟩ := I.d
  have F := clo_fs (s := s) (h₀ := s.heap) (tk := tk) (B := fun _ => True) (sc := scD) (ds := [Nn L, Nn R]) (ρc := [(Str.ofString "digits", .list (D.map Nn)), (Str.ofString "n", Nn n)]) (ow := none) (oa := 0) e1 (by rw [e2]) e3 e4 e5 (by rw [e2]; rfl) hns hk (fun _ _ e => e)
    (fun x => by
      intro q
      have := mem_of_lookup q
      exact absurd rfl ((show ∀ y ∈ scD, y.2 ≠ .cell by decide +kernel) _ this))
    (by decide +kernel) (by decide +kernel) rfl (rs.mono fun a o e _ => ⟨e.get, trivial⟩) (fun _ _ => trivial)
    (fun x c hc => by
      have hm := mem_of_lookup hc
      simp only [List.mem_cons, Prod.mk.injEq, List.not_mem_nil, or_false] at hm
      rcases hm with ⟨_, rfl⟩ | ⟨_, rfl⟩ | ⟨_, rfl⟩
      · exact ⟨_, hcn⟩
      · exact ⟨_, I.i⟩
      · exact ⟨_, hcd⟩)
    (fun y d' hy => by
      have hm := PySem.mem_of_lookup hy
      simp only [List.mem_cons, Prod.mk.injEq, List.not_mem_nil, or_false] at hm
      rcases hm with ⟨rfl, rfl⟩ | ⟨rfl, rfl⟩
      · exact ⟨rfl, by decide +kernel, cd, vd, rfl, hcd, rd⟩
      · exact ⟨rfl, by decide +kernel, cn, _, rfl, hcn, .int _ _⟩)
    (fun x xs e => by cases e)
  refine wpAny_mono (h prog (A.deeper env) _ env _ s.heap _ 0 ⟨I, e3, by rw [e2]⟩ R' g F) (fun fl s' h' => ?_) fun _ _ e => e.elim
  obtain ⟨v, rfl, kb, r⟩ := h'
  obtain ⟨a, rfl⟩ := hint
  cases r
  refine ⟨?_, .int _ _⟩
  obtain ⟨H2, T2, e2', k2⟩ := kb
  exact ⟨H2, T2, e2', fun b o e => k2 b o (fun q => q.elim (fun q => by
    have : s.heap.get? b = none := by rw [show b = env.locals from q, e1]; exact push_none _
    rw [e] at this; cases this) fun q => by cases q.1) (hk b o e)⟩
theorem innerD {D : List Nat} {n : Nat} {f cn ci cd : Addr} (hD : ∀ d ∈ D, d < 2 ^ n) (hn : n ≤ 5000) (hl : D.length ≤ 16) : ∀ (j L R : Nat), L < R → R ≤ D.length → R - L ≤ 2 ^ j →
    ∀ (prog : Program) (A : Around) (s : Shared) (vs : List Value) (B : Addr → Prop), InD s.heap f D n cn ci cd → Rm (j + 1) A → G w s.heap → Rds (HasB B s.heap) vs [Nn L, Nn R] →
      wpAny (model prog w) A (PySem.call (.ref f) vs) (Post B s (Nn (val n (seg D L R)))) NoE s := by
  have one : ∀ {k L R : Nat}, L + 1 = R → R ≤ D.length → ExsX (XD f D n cn ci cd) w k scD none (rhoD D n L R) (fnBody (inSt 10 0)) (.ret (Nn (val n (seg D L R)))) := by
    intro k L R e hR
    subst e
    refine ExsX.of (Exs.ret (Ex.ite (b := true) ?_ (fun _ => Exs.ret (Ex.return ?_)) fun e => by cases e))
    · rw [show true = (((L + 1 : Nat) : Int) == ((L + 1 : Nat) : Int)) from (beq_self_eq_true _).symm]
      exact Ts.cmp (Ev.binop (Ev.name rfl) Ev.int (Op2.addN (b := 1))) (Ev.name rfl) Cm.eqI
    · refine Ev.sub (Ev.name rfl) (Ev.name rfl) (Ix.list (by omega) (by omega) ?_)
      rw [Int.toNat_natCast, List.getElem?_map, List.getElem?_eq_getElem (by omega)]
      have hs : seg D L (L + 1) = [D[L]'(by omega)] := by
        unfold seg
        rw [show L + 1 - L = 1 by omega, List.drop_eq_getElem_cons (by omega)]
        rfl
      rw [hs]
      simp [val]
  intro j
  induction j with
  | zero => exact fun L R h1 h2 h3 prog A s vs B I Rr g rs => enterD (one (by omega) h2) prog A s vs B I Rr g rs ⟨_, rfl⟩
  | succ j ih =>
    intro L R h1 h2 h3 prog A s vs B I Rr g rs
    by_cases hLR : L + 1 = R
    · exact enterD (one hLR h2) prog A s vs B I Rr g rs ⟨_, rfl⟩
    have h3' : R - L ≤ 2 * 2 ^ j := by rw [Nat.pow_succ, Nat.mul_comm] at h3; exact h3
    have hm1 : L < (L + R) / 2 := by omega
    have hm2 : (L + R) / 2 < R := by omega
    have hS : ∀ {a b : Nat}, b ≤ D.length → val n (seg D a b) < 2 ^ (n * 16) := fun {a b} hb => by
      refine Nat.lt_of_lt_of_le (val_lt (n := n) fun d hd => hD d ?_) (Nat.pow_le_pow_right (by decide) (Nat.mul_le_mul_left _ ?_))
      · exact List.mem_of_mem_drop (List.mem_of_mem_take hd)
      · rw [seg_len hb]; omega
    refine enterD (k := j + 1) ?_ prog A s vs B I Rr g rs ⟨_, rfl⟩
    refine ExsX.cons (ExX.of (Ex.ite (b := false) ?_ (fun e => by cases e) fun _ => Exs.nil)) ?_
    · rw [show false = (((L + 1 : Nat) : Int) == (R : Int)) by symm; rw [beq_eq_false_iff_ne]; intro e; exact hLR (by omega)]
      exact Ts.cmp (Ev.binop (Ev.name rfl) Ev.int (Op2.addN (b := 1))) (Ev.name rfl) Cm.eqI
    refine ExsX.cons (ExX.of (Ex.assign (d := Nn ((L + R) / 2)) (Ev.binop (Ev.binop (Ev.name rfl) (Ev.name rfl) Op2.addN) Ev.int (Op2.shrN (n := 1))) (.inl rfl))) ?_
    refine ExsX.cons (ExX.of (Ex.assign (d := Nn (((L + R) / 2 - L) * n)) ?_ (.inl rfl))) ?_
    · refine Ev.binop (a := Nn ((L + R) / 2 - L)) (Ev.binop (Ev.name rfl) (Ev.name rfl) ?_) (Ev.name rfl) (Op2.mulN (m := 5) (n := 20) (by show _ < 32; omega) (by show n < 1048576; omega) (by decide))
      rw [show Nn ((L + R) / 2 - L) = .int ((((L + R) / 2 : Nat) : Int) - (L : Int)) by show PyData.int _ = _; congr 1; omega]
      exact Op2.subI
    refine ExsX.ret (ExX.return ?_)
    rw [seg_split D (Nat.le_of_lt hm1) (Nat.le_of_lt hm2), val_append, seg_len (by omega), Nat.add_comm (val n (seg D L ((L + R) / 2))), Nat.mul_comm (2 ^ _), Nat.mul_comm n]
    have hld : ∀ h₀ env, XD f D n cn ci cd h₀ env → Ld env h₀ (Str.ofString "inner") (.ref f) := fun h₀ env x => .free (by unfold Env.kindOf; rw [x.2.2]; rfl) (by rw [x.2.1]; rfl) x.1.i (by decide +kernel)
    have hfn : ∀ h₀ env, XD f D n cn ci cd h₀ env → FnAt f h₀ := fun h₀ env x => let ⟨oc, od, osl, _, _, _, _, e, _⟩ := x.1.clo; ⟨oc, od, _, osl, e⟩
    refine EvX.binop (EvX.binop (EvX.call hld hfn (Evs.cons (Ev.name rfl) (Evs.cons (Ev.name rfl) Evs.nil)) fun prog A s vs B h₀ env x hs R' g' rs' => ih _ _ hm2 h2 (by omega) prog A s vs B (x.1.keeps hs) R' g' rs') (EvX.of (Ev.name rfl)) (Op2.shlN (m := n * 16) (hS h2) ?_)) (EvX.call hld hfn (Evs.cons (Ev.name rfl) (Evs.cons (Ev.name rfl) Evs.nil)) fun prog A s vs B h₀ env x hs R' g' rs' => ih _ _ hm1 (by omega) (by omega) prog A s vs B (x.1.keeps hs) R' g' rs') Op2.addN
    have : ((L + R) / 2 - L) * n ≤ 16 * 5000 := Nat.mul_le_mul (by omega) hn
    omega
end
end Mine
end
section
open PySem PySem.W PyProof.Rows PySem.Calls
set_option Elab.async false
set_option maxRecDepth 100000
set_option linter.unusedVariables false
set_option linter.unusedSimpArgs false
namespace Mine
section
variable {w : World} {k : Nat} {sc : Sc} {ow : Own} {oa : Addr} {ρ : Rho} {h₀ : Heap} {B : Addr → Prop} {env : Env} {M : Addr → Prop} {s : Shared}
/-- a store of any value in a cell that the frame's data do not speak of -/
theorem Fs.storeCell {prog : Program} {A : Around} {E : Value → Shared → Prop} {x : Str} {v : Value} {Q : Unit → Shared → Prop} (F : Fs h₀ B env sc M ow oa ρ s) (hx : sc.lookup x = some .cell) (hρ : ρ.lookup x = none) (ho : ∀ y ys, ow = some (y, ys) → (y == x) = false)
    (h : ∀ h' c, env.cells.lookup x = some c → M c → h'.IsCell c (some v) → Heap.SameBut c s.heap h' → Fs h₀ B env sc M ow oa ρ { s with heap := h' } → Q () { s with heap := h' }) : wpAny (model prog w) A (storeName env x v) Q E s := by
  obtain ⟨c, hc, hM⟩ := F.oc x hx
  obtain ⟨hcl, ⟨v0, hv0⟩, _⟩ := F.fm.cells x c hc
  refine wpAny_storeName_cell F.fm.vars.kind (by rw [F.fm.vars.kindOf]; exact hx) hc hv0 fun h' hi hs => h h' c hc hM hi hs ?_
  have seqK : ∀ {u e}, Rd (HasB B s.heap) u e → Rd (HasB B h') u e := fun r => r.mono fun b o e q => ⟨hs.extBut b o (fun hb => by
    subst hb
    obtain ⟨o', h1, h2⟩ := F.fm.mobj _ hM
    rw [e.get] at h1; cases h1; exact h2 q) e.get, e.ok⟩
  have cellK : ∀ {y : Str} {c' : Addr} {u : Option Value}, (y == x) = false → env.cells.lookup y = some c' → s.heap.IsCell c' u → h'.IsCell c' u := fun hy hc' q => q.sameBut hs fun e => by
    subst e
    rw [F.fm.apart _ _ _ hM hc' hc, beq_self_eq_true] at hy; cases hy
  have ldK : ∀ {y : Str} {u : Value}, (y == x) = false → Ld env s.heap y u → Ld env h' y u := fun hy l => by
    cases l with
    | loc q1 q2 q3 => exact .loc q1 (q2.sameBut hs (Ne.symm hcl)) q3
    | cell q1 q2 q3 => exact .cell q1 q2 (cellK hy q2 q3)
    | free q1 q2 q3 q4 => exact .free q1 q2 (cellK hy q2 q3) q4
  refine ⟨⟨⟨F.fm.vars.kind, F.fm.vars.names, F.fm.vars.globals, F.fm.vars.builtins, fun y d hy => ?_⟩, ?_, F.fm.mloc, fun a ha => ?_, F.fm.mnew, fun y c' hc' => ?_, F.fm.apart, fun b o e => ?_⟩, fun a ha => F.cl a ?_, F.oc, fun y ys e => ?_⟩
  · obtain ⟨u, r, l⟩ := F.fm.vars.look y d hy
    refine ⟨u, seqK r, ldK ?_ l⟩
    cases hb : y == x with
    | false => rfl
    | true => rw [beq_iff_eq.mp hb, hρ] at hy; cases hy
  · obtain ⟨m, q⟩ := F.fm.ns
    exact ⟨m, q.sameBut hs (Ne.symm hcl)⟩
  · by_cases q : a = c
    · subst q; exact notSeq_cell hi
    · obtain ⟨o, e, r⟩ := F.fm.mobj a ha
      exact ⟨o, hs.extBut a o q e, r⟩
  · obtain ⟨q1, ⟨u, q2⟩, q3⟩ := F.fm.cells y c' hc'
    refine ⟨q1, ?_, q3⟩
    by_cases q : c' = c
    · subst q; exact ⟨_, hi⟩
    · exact ⟨u, q2.sameBut hs q⟩
  · exact hs.extBut b o (fun q => by rw [q, F.fm.mnew c hM] at e; cases e) (F.fm.base b o e)
  · cases e : s.heap.get? a with
    | none => rfl
    | some o =>
      by_cases q : a = c
      · subst q; obtain ⟨o', e', _⟩ := hi; rw [show h'.get? a = none from ha] at e'; cases e'
      · have := hs.extBut a o q e; rw [show h'.get? a = none from ha] at this; cases this
  · obtain ⟨vs, l, ⟨n, hp⟩, rs, q1, q2, q3⟩ := F.own y ys e
    refine ⟨vs, ldK (ho y ys e) l, ⟨n, hs.extBut _ _ (fun q => q2 (q ▸ hM)) hp⟩, ?_, q1, q2, q3⟩
    exact rs.mono fun b o e q => ⟨hs.extBut b o (fun hb => by
      subst hb
      obtain ⟨o', h1, h2⟩ := F.fm.mobj _ hM
      rw [e.get] at h1; cases h1; exact h2 q) e.get, e.ok⟩
end
end Mine
end
section
open PySem PySem.W PyProof.Rows PySem.Calls
set_option Elab.async false
set_option maxRecDepth 100000
set_option linter.unusedVariables false
set_option linter.unusedSimpArgs false
namespace Mine
/-- which table a nested def fills -/
inductive Which : Addr → Pos → Str → Prop
  | a : Which 66 (posOf (inSt 9 1)) q9
  | b : Which 73 (posOf (inSt 10 0)) q10
theorem Which.tt {P p q} (x : Which P p q) : TT P := by cases x; exact .inl rfl; exact .inr rfl
theorem Tb.which {h : Heap} {P p q} (t : Tb h) (x : Which P p q) : Tab h P p q := by cases x; exact t.t9; exact t.t10
theorem Tab.swap {h h' : Heap} {P P' : Addr} {p : Pos} {q : Str} {ps : Array Value} (t : Tab h P' p q) (hne : P' ≠ P) (hP : h.get? P = some (tabObj ps)) (hps : ∀ x u, ps[1]? ≠ some (.str x u)) (hx : Heap.ExtBut P h h') : Tab h' P' p q := by
  obtain ⟨ps', e, r⟩ := t
  refine ⟨ps', hx _ _ hne e, r.imp id fun ⟨c', e1, c, o, vs, tk, e2, g, hd, hv⟩ => ⟨c', e1, c, o, vs, tk, e2, hx _ _ (fun hq => ?_) g, hd, hv⟩⟩
  rw [hq, hP] at g; cases g; cases hd
  exact hps _ _ hv
theorem Tb.set {h h' : Heap} {P p q} {ps : Array Value} {c' : Addr} (t : Tb h) (x : Which P p q) (hP : h.get? P = some (tabObj ps)) (hps : ∀ x u, ps[1]? ≠ some (.str x u)) (hx : Heap.ExtBut P h h') (hP' : h'.get? P = some (tabObj #[rawInt p.line, rawInt p.col, .ref c'])) (hc : h'.CodeRec (.ref c') q) : Tb h' := by
  cases x with
  | a => exact ⟨⟨_, hP', .inr ⟨c', rfl, hc⟩⟩, t.t10.swap (by decide) hP hps hx⟩
  | b => exact ⟨t.t9.swap (by decide) hP hps hx, ⟨_, hP', .inr ⟨c', rfl, hc⟩⟩⟩
theorem Ft.set {h h' : Heap} {P : Addr} {l1 l2 : Int} {c' : Addr} (t : Tb h) (hx : Heap.ExtBut P h h') (hP' : h'.get? P = some (tabObj #[rawInt l1, rawInt l2, .ref c'])) : ∀ a, Ft h' a → Ft h a ∨ a = c' := fun a ha => by
  rcases ha with ha | ⟨P', ps, hT, e, hm⟩
  · exact .inl (.inl ha)
  · by_cases q : P' = P
    · subst q
      rw [hP'] at e; cases e
      exact .inr (by simpa [rawInt] using hm)
    · obtain ⟨ps0, e0⟩ := t.obj hT
      have := hx _ _ q e0
      rw [e] at this; cases this
      exact .inl (.inr ⟨P', ps, hT, e0, hm⟩)
section
variable {w : World} {k : Nat} {sc : Sc} {ow : Own} {oa : Addr} {ρ : Rho} {h₀ : Heap} {B : Addr → Prop} {env : Env} {M : Addr → Prop} {s : Shared}
theorem def_stmt {prog : Program} {A : Around} {name : Str} {params : Arguments} {body : List Stmt} {scope : Scope} {pos : Pos} {P c : Addr} {q : Str} {Q : Flow → Shared → Prop}
    (F : Fs h₀ B env sc M ow oa ρ s) (T : Tv M ow oa h₀ s.heap) (g : G w h₀) (W : Which P pos q) (hcode : env.code = .ref c) (hcd : codeHdIn (KK w) c P = true) (hq : qualnameIn env name name = q)
    (hd0 : params.defaults = []) (hk0 : params.kw_defaults = []) (ha : annTrees params none env = []) (hfree : ∀ n, (n, NameKind.free) ∈ scope.names → sc.lookup n = some .cell)
    (hx : sc.lookup name = some .cell) (hρ : ρ.lookup name = none) (ho : ∀ y ys, ow = some (y, ys) → (y == name) = false)
    (h : ∀ s' f, Kb (MT M ow oa) s s' → Gr s s' → Al s s' → Fs h₀ B env sc M ow oa ρ s' → Tv M ow oa h₀ s'.heap → Clo s'.heap f (.FunctionDef name params body [] none [] scope none name pos) (closeOf env.cells scope.names []) q → Ld env s'.heap name (.ref f) → Q .next s') :
    wpAny (model prog w) A (exec (.FunctionDef name params body [] none [] scope none name pos) env) Q NoE s := by
  have gs := F.g g
  obtain ⟨mg, mb, TR⟩ := gs.t
  obtain ⟨ob, m1, m2, m3, m4⟩ := gs.m
  obtain ⟨ps, hP, r⟩ := T.tb.which W
  have h4P : (4 : Addr) ≠ P := by cases W <;> decide
  have hgP : mainGlobals ≠ P := by cases W <;> decide
  have hbi : s.heap.BuiltinsAt mg P := ⟨4, ob, mg_of gs.k TR.g rfl, by decide, by decide, h4P, m1, m2, m3, m4⟩
  have C := codeHd_of_K gs.k hcd
  have hcl : closureFor scope env = pure (closeOf env.cells scope.names []) := closureFor_pure fun n hn => let ⟨c, hc, _⟩ := F.oc n (hfree n hn); ⟨c, hc⟩
  -- the function is made: it is stored
  have key : ∀ (s₁ : Shared) (f : Addr), Kb TT s s₁ → Tb s₁.heap → Gr s s₁ → Clo s₁.heap f (.FunctionDef name params body [] none [] scope none name pos) (closeOf env.cells scope.names []) q →
      wpAny (model prog w) A (storeName env name (.ref f)) (fun _ s'' => Q .next s'') NoE s₁ := by
    intro s₁ f kb tb gr clo
    obtain ⟨F₁, T₁, al⟩ := F.grown T kb tb gr
    refine F₁.storeCell hx hρ ho fun h' cx hc hM hi hs F₂ => ?_
    have kb₂ : Kb (MO M ow oa) s₁ { s₁ with heap := h' } := ⟨h', s₁.toks, rfl, fun b o hb e => hs.extBut b o (fun q => hb (.inl (q ▸ hM))) e⟩
    obtain ⟨_, kb', F', T', gr', al'⟩ := SPT.done (ow := ow) kb gr al F₁ T₁ kb₂ F₂
    refine h _ f kb' gr' al' F' T' ?_ (.cell (by rw [F.fm.vars.kindOf]; exact hx) hc hi)
    obtain ⟨oc, od, osl, doc, pm, cdv, ct, e, cr⟩ := clo
    obtain ⟨o0, e0, d0⟩ : ∃ o, s₁.heap.get? cx = some o ∧ ∃ v, o.data = .cell v := by
      obtain ⟨_, ⟨v, o, e, d⟩, _⟩ := F₁.fm.cells name cx hc
      exact ⟨o, e, v, d⟩
    obtain ⟨v0, d0⟩ := d0
    refine ⟨oc, od, osl, doc, pm, cdv, ct, hs.extBut f _ (fun q => ?_) e, cr.keepsBut (fun b o hb e => hs.extBut b o hb e) e0 fun vs q => by rw [d0] at q; cases q⟩
    rw [q, e0] at e; cases e; cases d0
  refine nestDef_K hd0 hk0 ha ?_
  rw [hq]
  rcases r with rfl | ⟨c', e1, cr⟩
  · refine makeFunction_K hcl F.fm.vars.globals TR.g hcode C hP trivial rfl hgP hbi fun c' ctv doc h' tk hx' hge hlt hrec htb => ?_
    have htb' : h'.get? P = some (tabObj #[rawInt pos.line, rawInt pos.col, .ref c']) := htb
    have tb1 : Tb h' := T.tb.set W hP (fun x u q => by cases q) hx' htb' hrec
    have keepP : ∀ b o, h'.get? b = some o → (h'.push (fnMade name q params body scope (closeOf env.cells scope.names []) doc ((mg "__name__").getD .none) c' ctv)).get? b = some o := fun b o e => Heap.get?_push_of_some _ e
    refine key _ _ ⟨_, tk, rfl, fun b o hb e => keepP b o (hx' b o (fun q => hb (q ▸ W.tt)) e)⟩ (tb1.keep fun a o _ e => keepP a o e) (fun a hft => ?_) ⟨_, _, _, _, _, _, _, Heap.get?_push_size _ rfl, hrec.keeps keepP⟩
    rcases Ft.set T.tb hx' htb' a (tb1.ft (fun a o _ e => keepP a o e) a hft) with q | q
    · exact .inl q
    · exact .inr (by rw [q]; exact not_lt_get hge)
  · have ht : TriplesOk ps.toList := by rw [e1]; trivial
    have hf : codeAmong pos ps.toList = some (.ref c') := by
      rw [e1]
      show (if ((pos.line : Int) == pos.line && (pos.col : Int) == pos.col) = true then some (Value.ref c') else _) = _
      rw [if_pos (by simp)]
    refine makeFunction_hit hcl F.fm.vars.globals TR.g hcode C hP ht hf hbi fun ctv doc h' tk hk hsz => ?_
    have keepP : ∀ b o, s.heap.get? b = some o → (h'.push { cls := .type "function", data := .func (fnX name q params body scope (closeOf env.cells scope.names []) .none .none doc ((mg "__name__").getD .none) none (.ref c') ctv) }).get? b = some o := fun b o e => Heap.get?_push_of_some _ (hk b o e)
    have kp : Kp s { s with heap := h'.push { cls := .type "function", data := .func (fnX name q params body scope (closeOf env.cells scope.names []) .none .none doc ((mg "__name__").getD .none) none (.ref c') ctv) }, toks := tk } := ⟨_, tk, rfl, keepP⟩
    exact key _ _ (.of kp) (T.tb.kp kp).1 (T.tb.kp kp).2 ⟨_, _, _, _, _, _, _, Heap.get?_push_size _ rfl, cr.keeps keepP⟩
end
end Mine
end
section
open PySem PySem.W PyProof.Rows PySem.Calls PySem.Builtin PySem.Builtin.Int
set_option Elab.async false
set_option maxRecDepth 100000
set_option linter.unusedVariables false
set_option linter.unusedSimpArgs false
set_option maxHeartbeats 4000000
namespace Mine
section
variable {X : Heap → Env → Prop} {w : World} {k : Nat} {sc : Sc} {ρ : Rho} {ow : Own}
theorem EvX.ifexp {t a b : Expr} {pos : Pos} {c : Bool} {d : PyData} (h : Ts w k sc ρ t c) (h1 : c = true → EvX X w k sc ρ a d) (h2 : c = false → EvX X w k sc ρ b d) : EvX X w k sc ρ (.IfExp t a b pos) d := fun prog A s env B h₀ x hs R g V =>
  wpAny_IfExp (wpAny_mono (h prog A s env B R g V) (fun b' s₁ h₁ => by
    obtain ⟨h₁, rfl⟩ := h₁
    have hs₁ : ∀ b o, h₀.get? b = some o → s₁.heap.get? b = some o := fun b o e => h₁.heap b o (hs b o e)
    cases b' with
    | true => exact wpAny_mono (h1 rfl prog A s₁ env _ h₀ x hs₁ R (g.keeps h₁.heap) (V.next h₁)) (fun _ _ h₂ => .after h₁ h₂) fun _ _ x => x
    | false => exact wpAny_mono (h2 rfl prog A s₁ env _ h₀ x hs₁ R (g.keeps h₁.heap) (V.next h₁)) (fun _ _ h₂ => .after h₁ h₂) fun _ _ x => x) fun _ _ x => x)
end
theorem Ld.cellOf {env : Env} {h : Heap} {x : Str} {v : Value} {c : Addr} (l : Ld env h x v) (hk : env.kindOf x = some .cell) (hc : env.cells.lookup x = some c) : h.IsCell c (some v) := by
  cases l with
  | loc h1 _ _ => rw [hk] at h1; cases h1
  | cell _ h2 h3 => rw [hc] at h2; cases h2; exact h3
  | free h1 _ _ _ => rw [hk] at h1; cases h1
theorem def_d2i' (w : World) : ∃ fd, DefAt w 78 fd (fnPs (topSt 10)) (fnBody (topSt 10)) (fnScope (topSt 10)) ∧ fd.code = .ref 77 ∧ fd.qualname = Str.ofString "_digits2int" :=
  ⟨_, ⟨⟨_, _, _, rfl⟩, rfl, rfl, fun vs h => by obtain ⟨a, b, rfl⟩ := len2 h; rfl, rfl, rfl, by decide +kernel, by decide +kernel, rfl, rfl, rfl, rfl, rfl⟩, rfl, rfl⟩
theorem free_cells {names sc : Sc} (h : (names.all fun p => p.2 != .free || sc.lookup p.1 == some .cell) = true) : ∀ n, (n, NameKind.free) ∈ names → sc.lookup n = some .cell := fun n hn => by
  have := List.all_eq_true.mp h _ hn
  simpa using this
theorem seg_all (D : List Nat) : seg D 0 D.length = D := by unfold seg; simp
theorem d2i_spec {w : World} {D : List Nat} {n : Nat} (hD : ∀ d ∈ D, d < 2 ^ n) (hn : n ≤ 5000) (hl : D.length ≤ 16) : FnT w 6 (.ref 78) [.list (D.map Nn), Nn n] (Nn (val n D)) := by
  obtain ⟨fd, DA, hc, hq⟩ := def_d2i' w
  refine FnT.ofX DA rfl fun prog A s env B h₀ M oa ec eq R g F T => ?_
  rw [hc] at ec
  rw [hq] at eq
  refine wpAny_execs_cons ?_
  have kOf := F.fm.vars.kindOf
  refine def_stmt (c := 77) (P := 73) (q := q10) F T g .b ec rfl ?_ rfl rfl rfl ?_ rfl rfl (fun _ _ e => nomatch e) fun s' f kb gr al F' T' clo ld => ?_
  · unfold qualnameIn
    rw [eq, kOf]
    decide +kernel
  · exact free_cells (by decide +kernel)
  obtain ⟨cn, hcn, -⟩ := F'.oc (Str.ofString "n") rfl
  obtain ⟨ci, hci, -⟩ := F'.oc (Str.ofString "inner") rfl
  obtain ⟨cd, hcd, -⟩ := F'.oc (Str.ofString "digits") rfl
  have ecl : closeOf env.cells scD [] = clD cn ci cd := by
    show closeOf env.cells [(Str.ofString "L", .local), (Str.ofString "R", .local), (Str.ofString "mid", .local), (Str.ofString "shift", .local), (Str.ofString "digits", .free), (Str.ofString "inner", .free), (Str.ofString "n", .free)] [] = _
    show [(Str.ofString "n", (env.cells.lookup (Str.ofString "n")).getD 0), (Str.ofString "inner", (env.cells.lookup (Str.ofString "inner")).getD 0), (Str.ofString "digits", (env.cells.lookup (Str.ofString "digits")).getD 0)] = _
    rw [hcn, hci, hcd]; rfl
  have I : InD s'.heap f D n cn ci cd := by
    refine ⟨ecl ▸ clo, ?_, ld.cellOf (by rw [kOf]; rfl) hci, ?_⟩
    · obtain ⟨v, r, l⟩ := F'.fm.vars.look (Str.ofString "n") (Nn n) rfl
      cases r with
      | int _ t => exact ⟨t, l.cellOf (by rw [kOf]; rfl) hcn⟩
    · obtain ⟨v, r, l⟩ := F'.fm.vars.look (Str.ofString "digits") (.list (D.map Nn)) rfl
      exact ⟨v, l.cellOf (by rw [kOf]; rfl) hcd, r.has.of_has⟩
  have he : EvX (fun h₀ env' => h₀ = s'.heap ∧ env' = env) w 5 (fnScope (topSt 10)) ((fnPs (topSt 10)).zip [.list (D.map Nn), Nn n]) (match (fnBody (topSt 10)).getD 1 (.Pass ⟨0, 0, 0, 0⟩) with | .Return (some e) _ => e | _ => .Name (Str.ofString "") ⟨0, 0, 0, 0⟩) (Nn (val n D)) := by
    have hlen : (D.map Nn).length ≤ sizeLine := by rw [List.length_map]; exact Nat.le_trans hl (by decide)
    refine EvX.ifexp (c := !(D.map Nn).isEmpty) (Ts.val (Ev.name rfl) (Tr.list hlen)) (fun hne => ?_) fun hem => ?_
    · have h0 : 0 < D.length := by
        cases D with
        | nil => cases hne
        | cons _ _ => exact Nat.succ_pos _
      refine EvX.call (f := f) (ds := [Nn 0, Nn D.length]) (fun h₁ env' x => ?_) (fun h₁ env' x => ?_) ?_ fun prog A s vs B h₁ env' x hs R' g' rs' => ?_
      · obtain ⟨rfl, rfl⟩ := x; exact ld
      · obtain ⟨rfl, rfl⟩ := x
        obtain ⟨oc, od, osl, _, _, _, _, e, _⟩ := clo
        exact ⟨oc, od, _, osl, e⟩
      · refine Evs.cons Ev.int (Evs.cons (Ev.call (nm_len rfl) keepsOk.builtin (Evs.cons (Ev.name rfl) Evs.nil) ?_) Evs.nil)
        have := Fn.lenL (w := w) (k := 5) (xs := D.map Nn) hlen
        rw [List.length_map] at this
        exact this
      · obtain ⟨rfl, rfl⟩ := x
        have := innerD (w := w) (f := f) (cn := cn) (ci := ci) (cd := cd) hD hn hl 4 0 D.length h0 (Nat.le_refl _) hl prog A s vs B (I.keeps hs) R' g' rs'
        rw [seg_all] at this
        exact this
    · cases D with
      | nil => exact EvX.of Ev.int
      | cons _ _ => cases hem
  refine wpAny_execs_cons (wpAny_Return_some (wpAny_mono (he prog A s' env B s'.heap ⟨rfl, rfl⟩ (fun _ _ e => e) R (F'.g g) F'.fm.vars) (fun v s'' h' => ?_) fun _ _ x => x.elim))
  have t2 := T'.tb.kp h'.1
  exact SPT.pre (o := .ret _) kb gr al ⟨v, rfl, .of h'.1, F'.rd h'.2, t2.1, t2.2⟩
end Mine
end
section
open PySem PySem.W PyProof.Rows PySem.Calls PySem.Builtin PySem.Builtin.Int
set_option Elab.async false
set_option maxRecDepth 100000
set_option linter.unusedVariables false
set_option linter.unusedSimpArgs false
set_option maxHeartbeats 4000000
namespace Mine
abbrev iNs (l : List Nat) : List PyData := l.map Nn
abbrev NoB : Addr → Obj → Prop := fun _ _ => False
theorem Rds.ofInts {B : Addr → Obj → Prop} : ∀ {vs : List Value} {l : List Nat}, Rds B vs (iNs l) → Rds NoB vs (iNs l)
  | [], [], _ => .nil
  | _, x :: xs, .cons r rs => by
    refine .cons ?_ (Rds.ofInts rs)
    cases r with
    | int _ t => exact .int _ _
section
variable {w : World} {k : Nat} {sc : Sc} {ow : Own} {oa : Addr} {ρ : Rho} {h₀ : Heap} {B : Addr → Prop} {env : Env} {M : Addr → Prop} {s : Shared}
/-- the own list has turned into other items, and new objects have come -/
theorem Fs.changedK {x : Str} {xs ys : List PyData} {s' : Shared} {vs : Array Value} (F : Fs h₀ B env sc M (some (x, xs)) oa ρ s) (kb : Kb (· = oa) s s') (hp : s'.heap.PlainList oa vs) (rs : Rds NoB vs.toList ys) : Fs h₀ B env sc M (some (x, ys)) oa ρ s' := by
  obtain ⟨vs0, l, ⟨n0, hp0⟩, rs0, hB, hM, h0⟩ := F.own x xs rfl
  have hk := kb.heap
  have fm := F.fm.change (h' := s'.heap) (· = oa) (fun b o hb e => hk b o hb e) (fun b o hb _ _ q => hB (hb ▸ q)) (fun b hb => hb ▸ hM) (fun b hb => hb ▸ h0)
  have hcell : ∀ {y c u}, env.cells.lookup y = some c → s.heap.IsCell c u → s'.heap.IsCell c u := fun hc q => by
    obtain ⟨o, q1, q2⟩ := q
    refine ⟨o, hk _ o (fun hb => ?_) q1, q2⟩
    rcases (F.fm.cells _ _ hc).2.2 with qm | ⟨o, qm⟩
    · exact hM (hb ▸ qm)
    · rw [hb, h0] at qm; cases qm
  refine ⟨fm, fun b hb => F.cl b ?_, F.oc, fun y ys' e => ?_⟩
  · cases e : s.heap.get? b with
    | none => rfl
    | some o =>
      by_cases q : b = oa
      · subst q; obtain ⟨n, e'⟩ := hp; rw [hb] at e'; cases e'
      · rw [hk b o q e] at hb; cases hb
  · cases e
    refine ⟨vs, ?_, hp, rs.mono fun b o q _ => q.elim, hB, hM, h0⟩
    cases l with
    | loc q1 q2 q3 => exact .loc q1 (q2.at' fun o e => hk _ o (fun hb => hM (hb ▸ F.fm.mloc)) e) q3
    | cell q1 q2 q3 => exact .cell q1 q2 (hcell q2 q3)
    | free q1 q2 q3 q4 => exact .free q1 q2 (hcell q2 q3) q4
theorem Rds.set {B : Addr → Obj → Prop} : ∀ {vs : List Value} {ds : List PyData} (j : Nat) {v d}, Rds B vs ds → Rd B v d → Rds B (vs.set j v) (ds.set j d)
  | _, _, 0, _, _, .nil, _ => .nil
  | _, _, _ + 1, _, _, .nil, _ => .nil
  | _, _, 0, _, _, .cons _ h2, r => .cons r h2
  | _, _, j + 1, _, _, .cons h1 h2, r => .cons h1 (Rds.set j h2 r)
/-- x[j] = e on the own list -/
theorem Ex.setItem {y : Str} {py p pos : Pos} {e i : Expr} {xs : List PyData} {d : Int} {j : Nat} (he : Ev w k sc ρ e (.int d)) (hi : Ev w k sc ρ i (Nn j)) (hj : j < xs.length) (hl : xs.length ≤ 1000) (hd : (y == ("__debug__" : Str)) = false := by decide +kernel)
    (hs : ∀ env, swapsWith e (some (.Subscript (.Name y py) i p)) pos.line env = pure false := by intro _; rfl) :
    Ex w k sc (some (y, xs)) ρ (.Assign [.Subscript (.Name y py) i p] e pos) (.nxt (some (y, xs.set j (.int d))) ρ) := fun prog A s env B h₀ M oa R g F => by
  refine wpAny_Assign_Subscript (F.ev R g he fun v s₁ kp F₁ r => ?_) (hs env)
  cases r with
  | int _ t =>
  obtain ⟨vs, l, hp, rs, hB, hM, h0⟩ := F₁.own y xs rfl
  refine wpAny_Name (ld_load F₁.fm.vars.kind l ?_) hd
  refine F₁.ev R g hi fun iv s₂ kp₂ F₂ ri => ?_
  cases ri with
  | int _ ti =>
  obtain ⟨vs', l', ⟨n', hp'⟩, rs', hB', hM', h0'⟩ := F₂.own y xs rfl
  have hz : vs'.size = xs.length := by rw [← rs'.length]; simp
  have e : Obj.mapSeq (·.setIfInBounds j (.int d t)) { cls := .type "list", data := .seq vs' n' } = { cls := .type "list", data := .seq (vs'.setIfInBounds j (.int d t)) n' } := by simp [Obj.mapSeq]
  refine ki_setAt hp' (by omega) (by omega) (by omega) ?_
  rw [Int.toNat_natCast]
  have hs' := Heap.SameBut.update (h := s₂.heap) (a := oa) (f := Obj.mapSeq (·.setIfInBounds j (.int d t)))
  have hp'' : (s₂.heap.update oa (Obj.mapSeq (·.setIfInBounds j (.int d t)))).PlainList oa (vs'.setIfInBounds j (.int d t)) := ⟨n', by rw [Heap.get?_update_self _ hp' (by rw [e]; rfl), e]⟩
  refine ⟨rfl, (Kb.of (kp.trans kp₂)).trans (kb_own hs'), ?_⟩
  exact F₂.changed l' hB' hM' h0' hp'' hs' (by rw [Array.toList_setIfInBounds]; exact rs'.set j (.int _ _))
/-- f(..) as a statement that turns the own list -/
theorem call_own {prog : Program} {A : Around} {f : Addr} {x y : Str} {npos pos spos : Pos} {e : Expr} {es : List Expr} {ds xs ys : List PyData} (F : Fs h₀ B env sc M (some (y, xs)) oa ρ s) (R : Rm k A) (g : G w h₀) (ld : Ld env s.heap x (.ref f)) (hfn : FnAt f s.heap)
    (hes : Evs w k sc (full (some (y, xs)) ρ) (e :: es) ds)
    (hf : ∀ s₁ vs, Kp s s₁ → Fs h₀ B env sc M (some (y, xs)) oa ρ s₁ → Rds (HasB (Nw (fun _ => True) s.heap) s₁.heap) vs ds → wpAny (model prog w) A (PySem.call (.ref f) vs) (fun v s' => Kb (· = oa) s₁ s' ∧ ∃ us, s'.heap.PlainList oa us ∧ Rds NoB us.toList ys) NoE s₁)
    (hd : (x == ("__debug__" : Str)) = false := by decide +kernel) (hpl : (e :: es).all (fun e => !isStarred e) = true := by rfl)
    (hs : ∀ env, swapsWith (.Call (.Name x npos) (e :: es) [] pos) none spos.line env = pure false := by intro _; rfl) :
    wpAny (model prog w) A (exec (.Expr (.Call (.Name x npos) (e :: es) [] pos) spos) env) (SP h₀ B env sc M (some (y, xs)) oa s (.nxt (some (y, ys)) ρ)) NoE s := by
  refine wpAny_Expr_any ?_ (by unfold interactive; rw [F.fm.vars.kind]; rfl) (hs env)
  rw [eval_callName]
  refine wpAny_bind (wpAny_Name (ld_load F.fm.vars.kind ld ?_) hd)
  have h := hes prog A s env _ pos R (F.g g) F.full
  rw [List.all_cons, Bool.and_eq_true] at hpl
  rw [star_cons (by simpa using hpl.1) env] at h ⊢
  refine callWith_of (P := FnAt f) (by show ((false || (backTo pos (starEach es env)).any (·.1)) || false) = false; rw [(star_all env hpl.2).1]; rfl) (fun h gh => keeps_F h gh) (evalArgs_plain (wpAny_mono h (fun vs s₁ h₁ => ?_) fun _ _ x => x))
  have F₁ := F.next h₁.1
  refine ⟨let ⟨oc, od, fd, sl, e⟩ := hfn; ⟨oc, od, fd, sl, h₁.1.heap _ _ e⟩, ?_⟩
  refine wpAny_mono (hf s₁ vs h₁.1 F₁ h₁.2) (fun v s₂ h₂ => ?_) fun _ _ x => x
  obtain ⟨kb, us, hp, rs⟩ := h₂
  exact ⟨rfl, (Kb.of h₁.1).trans (kb.mono fun a ha => .inr ⟨rfl, ha⟩), F₁.changedK kb hp rs⟩
end
/-! inner of _int2digits -/
abbrev scI : Sc := (scopeOf (inSt 9 1)).names
abbrev yA : Str := Str.ofString "a_digits"
abbrev clI (cn ci ca : Addr) : List (Str × Addr) := [(Str.ofString "n", cn), (Str.ofString "inner", ci), (yA, ca)]
structure InI (h : Heap) (f : Addr) (n : Nat) (cn ci ca oa : Addr) : Prop where
  clo : Clo h f (inSt 9 1) (clI cn ci ca) q9
  n : ∃ t, h.IsCell cn (some (.int n t))
  i : h.IsCell ci (some (.ref f))
  a : h.IsCell ca (some (.ref oa))
theorem InI.keeps {h h' : Heap} {f : Addr} {n : Nat} {cn ci ca oa : Addr} (x : InI h f n cn ci ca oa) (hk : ∀ b o, h.get? b = some o → h'.get? b = some o) : InI h' f n cn ci ca oa :=
  ⟨x.clo.keeps hk, let ⟨t, e⟩ := x.n; ⟨t, e.keeps hk⟩, x.i.keeps hk, x.a.keeps hk⟩
def Turns (w : World) (k : Nat) (h₀ : Heap) (oa f : Addr) (args : List PyData) (xs ys : List Nat) : Prop :=
  ∀ (prog : Program) (A : Around) (s : Shared) (vs : List Value), Rm k A → (∀ b o, h₀.get? b = some o → s.heap.get? b = some o) → (∃ us, s.heap.PlainList oa us ∧ Rds NoB us.toList (iNs xs)) → Rds NoB vs args →
    wpAny (model prog w) A (PySem.call (.ref f) vs) (fun v s' => Kb (· = oa) s s' ∧ ∃ us, s'.heap.PlainList oa us ∧ Rds NoB us.toList (iNs ys)) NoE s
abbrev rhoI (n x L R : Nat) : Rho := [(Str.ofString "x", Nn x), (Str.ofString "L", Nn L), (Str.ofString "R", Nn R), (Str.ofString "n", Nn n)]
theorem enterI {w : World} {h₀ : Heap} {n x L R k : Nat} {f cn ci ca oa : Addr} {xs ys : List Nat} (g : G w h₀) (h0 : h₀.get? oa = none) (I : InI h₀ f n cn ci ca oa)
    (h : ∀ (prog : Program) (A : Around) (s : Shared) (env : Env) (B M : Addr → Prop), env.cells = clI cn ci ca → env.scope.names = scI → Rm k A → Fs h₀ B env scI M (some (yA, iNs xs)) oa (rhoI n x L R) s →
      wpAny (model prog w) A (execs (fnBody (inSt 9 1)) env) (fun fl s' => Kb (MO M (some (yA, iNs xs)) oa) s s' ∧ ∃ us, s'.heap.PlainList oa us ∧ Rds NoB us.toList (iNs ys)) NoE s) :
    Turns w (k + 1) h₀ oa f [Nn x, Nn L, Nn R] xs ys := fun prog A s vs Rr hsub hl rs => by
  have hvl : vs.length = 3 := rs.length
  obtain ⟨v1, v2, v3, rfl⟩ := len3 hvl
  have Is := I.keeps hsub
  refine clo_go (ps := [Str.ofString "x", Str.ofString "L", Str.ofString "R"]) Is.clo Rr (g.keeps hsub) (fun _ _ _ _ => rfl) (by decide +kernel) (fun x hx => ?_) rfl rfl rfl fun env h₁ tk e1 e2 e3 e4 e5 hns hk R' => ?_
  · simp only [List.zip_cons_cons, List.zip_nil_right, List.mem_cons, List.not_mem_nil, or_false] at hx
    rcases hx with rfl | rfl | rfl <;> rfl
  obtain ⟨tn, hcn⟩ := I.n
  obtain ⟨us, hp, ru⟩ := hl
  have hoa : ∃ o, s.heap.get? oa = some o := let ⟨n, e⟩ := hp; ⟨_, e⟩
  have F := clo_fs (s := s) (h₀ := h₀) (tk := tk) (B := (· ≠ oa)) (sc := scI) (ds := [Nn x, Nn L, Nn R]) (ρc := [(Str.ofString "n", Nn n)]) (ow := some (yA, iNs xs)) (oa := oa) e1 (by rw [e2]) e3 e4 e5 (by rw [e2]; rfl) hns hk hsub
    (fun x => by
      intro q
      have := mem_of_lookup q
      exact absurd rfl ((show ∀ y ∈ scI, y.2 ≠ .cell by decide +kernel) _ this))
    (by decide +kernel) (by decide +kernel) rfl (rs.mono fun a o e _ => e.elim) (fun a ha q => by obtain ⟨o, e⟩ := hoa; rw [q, e] at ha; cases ha)
    (fun x c hc => by
      have hm := mem_of_lookup hc
      simp only [List.mem_cons, Prod.mk.injEq, List.not_mem_nil, or_false] at hm
      rcases hm with ⟨_, rfl⟩ | ⟨_, rfl⟩ | ⟨_, rfl⟩
      · exact ⟨_, hcn⟩
      · exact ⟨_, I.i⟩
      · exact ⟨_, I.a⟩)
    (fun y d' hy => by
      have hm := PySem.mem_of_lookup hy
      simp only [List.mem_cons, Prod.mk.injEq, List.not_mem_nil, or_false] at hm
      obtain ⟨rfl, rfl⟩ := hm
      exact ⟨rfl, by decide +kernel, cn, _, rfl, hcn, .int _ _⟩)
    (fun x xs' e => by
      cases e
      exact ⟨rfl, by decide +kernel, ⟨ca, rfl, I.a⟩, ⟨us, hp, ru.mono fun a o e _ => e.elim⟩, fun q => q rfl, h0⟩)
  refine wpAny_mono (h prog (A.deeper env) _ env _ _ e3 (by rw [e2]) R' F) (fun fl s' h' => ?_) fun _ _ e => e.elim
  obtain ⟨kb, r⟩ := h'
  refine ⟨?_, r⟩
  obtain ⟨H2, T2, e2', k2⟩ := kb
  exact ⟨H2, T2, e2', fun b o hb e => k2 b o (fun q => q.elim (fun q => by
    have : s.heap.get? b = none := by rw [show b = env.locals from q, e1]; exact push_none _
    rw [e] at this; cases this) fun q => hb q.2) (hk b o e)⟩
end Mine
end
section
open PySem PySem.W PyProof.Rows PySem.Calls PySem.Builtin PySem.Builtin.Int
set_option Elab.async false
set_option maxRecDepth 100000
set_option linter.unusedVariables false
set_option linter.unusedSimpArgs false
set_option maxHeartbeats 4000000
namespace Mine
theorem val_one (n d : Nat) : val n [d] = d := by simp [val]
theorem val_split (n p : Nat) (D : List Nat) (hD : ∀ d ∈ D, d < 2 ^ n) (hp : p ≤ D.length) : val n D / 2 ^ (p * n) = val n (D.drop p) ∧ val n D % 2 ^ (p * n) = val n (D.take p) := by
  have e : val n D = val n (D.take p) + 2 ^ (p * n) * val n (D.drop p) := by
    conv => lhs; rw [← List.take_append_drop p D, val_append, List.length_take, Nat.min_eq_left hp, Nat.mul_comm n p]
  have hl : val n (D.take p) < 2 ^ (p * n) := by
    have := val_lt (n := n) (ds := D.take p) fun d hd => hD d (List.mem_of_mem_take hd)
    rw [List.length_take, Nat.min_eq_left hp, Nat.mul_comm] at this
    exact this
  rw [e]
  constructor
  · rw [Nat.add_mul_div_left _ _ (Nat.two_pow_pos _), Nat.div_eq_of_lt hl, Nat.zero_add]
  · rw [Nat.add_mul_mod_self_left, Nat.mod_eq_of_lt hl]
theorem splice2 (xs D : List Nat) (L p : Nat) (hp : p ≤ D.length) (hL : L + D.length ≤ xs.length) :
    (xs.take L ++ D.take p ++ xs.drop (L + p)).take (L + p) ++ D.drop p ++ (xs.take L ++ D.take p ++ xs.drop (L + p)).drop (L + D.length) = xs.take L ++ D ++ xs.drop (L + D.length) := by
  have h1 : (xs.take L ++ D.take p).length = L + p := by rw [List.length_append, List.length_take, List.length_take]; omega
  have e2 : (xs.take L ++ D.take p ++ xs.drop (L + p)).take (L + p) = xs.take L ++ D.take p := by rw [List.take_append_of_le_length (by omega), List.take_of_length_le (by omega)]
  have e3 : (xs.take L ++ D.take p ++ xs.drop (L + p)).drop (L + D.length) = xs.drop (L + D.length) := by
    rw [List.drop_append, List.drop_of_length_le (show (xs.take L ++ D.take p).length ≤ L + D.length by omega), List.nil_append, h1, List.drop_drop]
    congr 1; omega
  rw [e2, e3, List.append_assoc (xs.take L), List.take_append_drop]
/-- a_digits[L] = x -/
def stI : Stmt := match (fnBody (inSt 9 1)).getD 0 (.Pass ⟨0, 0, 0, 0⟩) with
  | .If _ (s :: _) _ _ => s
  | s => s
theorem innerI {w : World} {h₀ : Heap} {n : Nat} {f cn ci ca oa : Addr} (g : G w h₀) (h0 : h₀.get? oa = none) (I : InI h₀ f n cn ci ca oa) (hn : n ≤ 5000) : ∀ (j : Nat) (D : List Nat), (∀ d ∈ D, d < 2 ^ n) → 0 < D.length → D.length ≤ 2 ^ j → D.length ≤ 16 → ∀ (L : Nat) (xs : List Nat), L + D.length ≤ xs.length → xs.length ≤ 16 →
    Turns w (j + 1) h₀ oa f [Nn (val n D), Nn L, Nn (L + D.length)] xs (xs.take L ++ D ++ xs.drop (L + D.length)) := by
  have one : ∀ (k : Nat) (D : List Nat), D.length = 1 → ∀ (L : Nat) (xs : List Nat), L + D.length ≤ xs.length → xs.length ≤ 16 → Turns w (k + 1) h₀ oa f [Nn (val n D), Nn L, Nn (L + D.length)] xs (xs.take L ++ D ++ xs.drop (L + D.length)) := by
    intro k D hD1 L xs hL hx
    match D, hD1 with
    | [d], _ =>
    have hL' : L + 1 ≤ xs.length := hL
    refine enterI g h0 I fun prog A s env B M e3 e2 R F => ?_
    refine wpAny_execs_cons (wpAny_If (F.ts (b := true) R g ?_ fun s₁ kp F₁ => ?_))
    · rw [show true = (((L + 1 : Nat) : Int) == ((L + 1 : Nat) : Int)) from (beq_self_eq_true _).symm]
      exact Ts.cmp (Ev.binop (Ev.name rfl) Ev.int (Op2.addN (b := 1))) (Ev.name rfl) Cm.eqI
    · have st : Ex w k scI (some (yA, iNs xs)) (rhoI n (val n [d]) L (L + 1)) stI (.nxt (some (yA, (iNs xs).set L (.int (val n [d] : Nat)))) (rhoI n (val n [d]) L (L + 1))) :=
        Ex.setItem (Ev.name rfl) (Ev.name rfl) (by rw [List.length_map]; omega) (by rw [List.length_map]; omega)
      refine wpAny_execs_cons (wpAny_mono (st prog A s₁ env B h₀ M oa R g F₁) (fun fl s₂ h₂ => ?_) fun _ _ x => x)
      obtain ⟨rfl, kb, F₂⟩ := h₂
      refine wpAny_execs_cons (wpAny_Return_none ?_)
      obtain ⟨us, _, hp, rs, _⟩ := F₂.own _ _ rfl
      refine ⟨(Kb.of kp).trans kb, us, hp, Rds.ofInts (B := HasB B s₂.heap) ?_⟩
      have e : iNs (xs.take L ++ [d] ++ xs.drop (L + [d].length)) = (iNs xs).set L (.int (val n [d] : Nat)) := by
        rw [val_one, List.set_eq_take_append_cons_drop, if_pos (by rw [List.length_map]; omega)]
        simp
      rw [e]
      exact rs
  intro j
  induction j with
  | zero => exact fun D hD h1 h2 h16 L xs hL hx => one 0 D (by omega) L xs hL hx
  | succ j ih =>
    intro D hD h1 h2 h16 L xs hL hx
    by_cases hD1 : D.length = 1
    · exact one (j + 1) D hD1 L xs hL hx
    have h2' : D.length ≤ 2 * 2 ^ j := by rw [Nat.pow_succ, Nat.mul_comm] at h2; exact h2
    refine enterI g h0 I fun prog A s env B M e3 e2 R F => ?_
    generalize hp : D.length / 2 = p
    have hp1 : 0 < p := by omega
    have hp2 : p < D.length := by omega
    obtain ⟨v1, v2⟩ := val_split n p D hD (by omega)
    have hup : val n D / 2 ^ (p * n) < 2 ^ (n * 16) := by
      rw [v1]
      refine Nat.lt_of_lt_of_le (val_lt (n := n) fun d hd => hD d (List.mem_of_mem_drop hd)) (Nat.pow_le_pow_right (by decide) (Nat.mul_le_mul_left _ ?_))
      rw [List.length_drop]; omega
    have hpn : p * n ≤ 16 * 5000 := Nat.mul_le_mul (by omega) hn
    have pre : Exs w (j + 1) scI (some (yA, iNs xs)) (rhoI n (val n D) L (L + D.length)) ((fnBody (inSt 9 1)).take 5)
        (.nxt (some (yA, iNs xs)) (upd (upd (upd (upd (rhoI n (val n D) L (L + D.length)) (Str.ofString "mid") (Nn (L + p))) (Str.ofString "shift") (Nn (p * n))) (Str.ofString "upper") (Nn (val n (D.drop p)))) (Str.ofString "lower") (Nn (val n (D.take p))))) := by
      refine Exs.cons (Ex.ite (b := false) ?_ (fun e => by cases e) fun _ => Exs.nil) ?_
      · rw [show false = (((L + 1 : Nat) : Int) == ((L + D.length : Nat) : Int)) by symm; rw [beq_eq_false_iff_ne]; intro e; omega]
        exact Ts.cmp (Ev.binop (Ev.name rfl) Ev.int (Op2.addN (b := 1))) (Ev.name rfl) Cm.eqI
      refine Exs.cons (Ex.assign (d := Nn (L + p)) ?_ (.inl rfl)) ?_
      · have o := Op2.shrN (w := w) (k := j + 1) (a := L + (L + D.length)) (n := 1)
        rw [show (L + (L + D.length)) / 2 ^ 1 = L + p by omega] at o
        exact Ev.binop (Ev.binop (Ev.name rfl) (Ev.name rfl) Op2.addN) Ev.int o
      refine Exs.cons (Ex.assign (d := Nn (p * n)) ?_ (.inl rfl)) ?_
      · refine Ev.binop (a := Nn p) (Ev.binop (Ev.name rfl) (Ev.name rfl) ?_) (Ev.name rfl) (Op2.mulN (m := 5) (n := 20) (by show _ < 32; omega) (by show n < 1048576; omega) (by decide))
        rw [show Nn p = .int (((L + p : Nat) : Int) - (L : Int)) by show PyData.int _ = _; congr 1; omega]
        exact Op2.subI
      refine Exs.cons (Ex.assign (d := Nn (val n (D.drop p))) ?_ (.inl rfl)) ?_
      · rw [← v1]
        exact Ev.binop (Ev.name rfl) (Ev.name rfl) Op2.shrN
      refine Exs.cons (Ex.assign (d := Nn (val n (D.take p))) ?_ (.inl rfl)) Exs.nil
      rw [← v2]
      rw [v1] at hup
      have o := Op2.xorN (w := w) (k := j + 1) (x := val n D) (s := p * n)
      rw [v1] at o
      exact Ev.binop (Ev.name rfl) (Ev.binop (Ev.name rfl) (Ev.name rfl) (Op2.shlN hup (by omega))) o
    show wpAny _ _ (execs ((fnBody (inSt 9 1)).take 5 ++ (fnBody (inSt 9 1)).drop 5) env) _ _ _
    rw [execs_append]
    refine wpAny_bind (wpAny_mono (pre prog A s env B h₀ M oa R g F) (fun fl s₁ h₁ => ?_) fun _ _ x => x)
    obtain ⟨rfl, kb₁, F₁⟩ := h₁
    have hfn : ∀ {s' : Shared}, (∀ b o, h₀.get? b = some o → s'.heap.get? b = some o) → FnAt f s'.heap := fun hb => let ⟨oc, od, osl, _, _, _, _, e, _⟩ := I.clo; ⟨oc, od, _, osl, hb _ _ e⟩
    have ld : ∀ {s' : Shared}, (∀ b o, h₀.get? b = some o → s'.heap.get? b = some o) → Ld env s'.heap (Str.ofString "inner") (.ref f) := fun hb => .free (by unfold Env.kindOf; rw [e2]; rfl) (by rw [e3]; rfl) (I.i.keeps hb) (by decide +kernel)
    have t1 := ih (D.take p) (fun d hd => hD d (List.mem_of_mem_take hd)) (by rw [List.length_take]; omega) (by rw [List.length_take]; omega) (by rw [List.length_take]; omega) L xs (by rw [List.length_take]; omega) hx
    rw [List.length_take, Nat.min_eq_left (Nat.le_of_lt hp2)] at t1
    have hx1 : (xs.take L ++ D.take p ++ xs.drop (L + p)).length = xs.length := by simp only [List.length_append, List.length_take, List.length_drop]; omega
    have t2 := ih (D.drop p) (fun d hd => hD d (List.mem_of_mem_drop hd)) (by rw [List.length_drop]; omega) (by rw [List.length_drop]; omega) (by rw [List.length_drop]; omega) (L + p) (xs.take L ++ D.take p ++ xs.drop (L + p)) (by rw [List.length_drop, hx1]; omega) (by omega)
    rw [List.length_drop, show L + p + (D.length - p) = L + D.length by omega, splice2 xs D L p (by omega) hL] at t2
    refine wpAny_execs_cons (wpAny_mono (call_own (ds := [Nn (val n (D.take p)), Nn L, Nn (L + p)]) (ys := iNs (xs.take L ++ D.take p ++ xs.drop (L + p))) F₁ R g (ld F₁.fm.base) (hfn F₁.fm.base) (Evs.cons (Ev.name rfl) (Evs.cons (Ev.name rfl) (Evs.cons (Ev.name rfl) Evs.nil))) fun s₂ vs kp F₂ rs => ?_) (fun fl s₃ h₃ => ?_) fun _ _ x => x)
    · obtain ⟨us, _, hp', rs', _⟩ := F₂.own _ _ rfl
      exact t1 prog A s₂ vs R F₂.fm.base ⟨us, hp', rs'.ofInts⟩ (Rds.ofInts (l := [val n (D.take p), L, L + p]) rs)
    obtain ⟨rfl, kb₃, F₃⟩ := h₃
    refine wpAny_execs_cons (wpAny_mono (call_own (ds := [Nn (val n (D.drop p)), Nn (L + p), Nn (L + D.length)]) (ys := iNs (xs.take L ++ D ++ xs.drop (L + D.length))) F₃ R g (ld F₃.fm.base) (hfn F₃.fm.base) (Evs.cons (Ev.name rfl) (Evs.cons (Ev.name rfl) (Evs.cons (Ev.name rfl) Evs.nil))) fun s₂ vs kp F₂ rs => ?_) (fun fl s₅ h₅ => ?_) fun _ _ x => x)
    · obtain ⟨us, _, hp', rs', _⟩ := F₂.own _ _ rfl
      exact t2 prog A s₂ vs R F₂.fm.base ⟨us, hp', rs'.ofInts⟩ (Rds.ofInts (l := [val n (D.drop p), L + p, L + D.length]) rs)
    obtain ⟨rfl, kb₅, F₅⟩ := h₅
    refine wpAny_execs_nil ?_
    obtain ⟨us, _, hp', rs', _⟩ := F₅.own _ _ rfl
    exact ⟨(kb₁.trans kb₃).trans kb₅, us, hp', rs'.ofInts⟩
end Mine
end
section
open PySem PySem.W PyProof.Rows PySem.Calls PySem.Builtin PySem.Builtin.Int
set_option Elab.async false
set_option maxRecDepth 100000
set_option linter.unusedVariables false
set_option linter.unusedSimpArgs false
set_option maxHeartbeats 4000000
namespace Mine
section
variable {w : World} {k : Nat} {sc : Sc} {oa : Addr} {ρ : Rho} {h₀ : Heap} {B : Addr → Prop} {env : Env} {M : Addr → Prop} {s : Shared} {prog : Program} {A : Around}
theorem Vars.noB {ρ' : Rho} (V : Vars B env sc ρ s.heap) (hs : Sub ρ' ρ) (hi : ∀ x d, ρ'.lookup x = some d → ∃ i, d = .int i) : Vars (fun _ => False) env sc ρ' s.heap :=
  ⟨V.kind, V.names, V.globals, V.builtins, fun x d hx => by
    obtain ⟨v, r, l⟩ := V.look x d (hs x d hx)
    obtain ⟨i, rfl⟩ := hi x d hx
    cases r with
    | int _ t => exact ⟨_, .int _ _, l⟩⟩
/-- x = e, a new list of ints, and a run of statements that turn it; behind them it is a list like others -/
theorem own_wp {x : Str} {px pos : Pos} {e : Expr} {blk rest : List Stmt} {xs0 : List Nat} {xs : List PyData} {ρ' ρ₁ : Rho} {o : Out} (F : Fs h₀ B env sc M none oa ρ s) (T : Tv M none oa h₀ s.heap) (R : Rm k A) (g : G w h₀)
    (hs : Sub ρ' ρ) (hi : ∀ x d, ρ'.lookup x = some d → ∃ i, d = .int i) (he : Ev w k sc ρ' e (.list (iNs xs0))) (hx : stores sc x) (hρ : ρ.lookup x = none) (hρ₁ : ρ₁.lookup x = none) (hsw : swapsWith e (some (.Name x px)) pos.line env = pure false)
    (hblk : ∀ s₁ B₁ a, Fs h₀ B₁ env sc M (some (x, iNs xs0)) a ρ s₁ → Tv M (some (x, iNs xs0)) a h₀ s₁.heap → wpAny (model prog w) A (execs blk env) (SPT h₀ B₁ env sc M (some (x, iNs xs0)) a s₁ (.nxt (some (x, xs)) ρ₁)) NoE s₁)
    (hrest : ∀ s₃, Fs h₀ B env sc M none oa (upd ρ₁ x (.list xs)) s₃ → Tv M none oa h₀ s₃.heap → wpAny (model prog w) A (execs rest env) (SPT h₀ B env sc M none oa s₃ o) NoE s₃) :
    wpAny (model prog w) A (execs (.Assign [.Name x px] e pos :: (blk ++ rest)) env) (SPT h₀ B env sc M none oa s o) NoE s := by
  refine wpAny_execs_cons (wpAny_Assign_Name (wpAny_mono (he prog A s env _ R (F.g g) (F.fm.vars.noB hs hi)) (fun v s₁ h₁ => ?_) fun _ _ x => x.elim) hsw)
  obtain ⟨kp, r⟩ := h₁
  obtain ⟨a, us, n, rfl, hb, _, rs⟩ := r.list_inv
  have hp : s₁.heap.get? a = some { cls := .type "list", data := .seq us n } := hb.get
  have hnew : s.heap.get? a = none := hb.ok.elim (fun q => q.elim) id
  have rs0 : Rds NoB us.toList (iNs xs0) := rs.ofInts
  have hB0 : B a := F.cl a hnew
  have h0a : h₀.get? a = none := by
    cases q : h₀.get? a with
    | none => rfl
    | some o => have := F.fm.base a o q; rw [hnew] at this; cases this
  have hMa : ¬ M a := fun hm => by obtain ⟨o, q, _⟩ := F.fm.mobj a hm; rw [hnew] at q; cases q
  have F1 : Fm h₀ (fun b => B b ∧ b ≠ a) env sc M ρ s₁.heap :=
    (F.fm.monoB (B' := fun b => B b ∧ b ≠ a) fun b o e _ hb => ⟨hb, fun q => by rw [q, hnew] at e; cases e⟩).change (fun _ => False) (fun b o _ e => kp.heap b o e) (fun _ _ q => q.elim) (fun _ q => q.elim) (fun _ q => q.elim)
  have F2 : Fm h₀ B env sc M ρ s₁.heap := F1.monoB fun b o _ _ hb => hb.1
  refine Fm.store F2 (hx.imp id fun hx => ⟨hx, F.oc x hx⟩) (.list ⟨hp, hB0⟩ (rs0.mono fun _ _ e _ => e.elim)) fun h' tk hk hld hnone lx F3 => ?_
  have F4 : Fs h₀ (fun b => B b ∧ b ≠ a) env sc M (some (x, iNs xs0)) a ρ { s₁ with heap := h', toks := tk } := by
    refine ⟨F1.rebase hk hld F3 hρ, fun b hb => ⟨F.cl b (kp_none kp (hnone b hb)), fun q => ?_⟩, F.oc, fun y ys e => ?_⟩
    · have := hk a _ hMa hp
      rw [q] at hb
      rw [show h'.get? a = none from hb] at this; cases this
    · cases e
      exact ⟨_, lx, ⟨_, hk _ _ hMa hp⟩, rs0.mono fun _ _ e _ => e.elim, fun q => q.2 rfl, hMa, h0a⟩
  have hkT : ∀ a o, Ft s.heap a → s.heap.get? a = some o → h'.get? a = some o := fun b o hb e => hk b o (fun q => T.dis b hb (.inl q)) (kp.heap b o e)
  have ft4 := T.tb.ft hkT
  have T4 : Tv M (some (x, iNs xs0)) a h₀ h' := by
    refine ⟨T.tb.keep hkT, fun b hb q => ?_, T.new⟩
    have hb' := ft4 b hb
    rcases q with q | ⟨_, q⟩
    · exact T.dis b hb' (.inl q)
    · obtain ⟨o, e⟩ := T.tb.alive hb'
      rw [q, hnew] at e; cases e
  have al4 : ∀ b, h'.get? b = none → s.heap.get? b = none := fun b hb => kp_none kp (hnone b hb)
  show wpAny _ _ (execs (blk ++ rest) env) _ _ _
  rw [execs_append]
  refine wpAny_bind (wpAny_mono (hblk _ _ a F4 T4) (fun fl s₃ h₃ => ?_) fun _ _ e => e)
  obtain ⟨rfl, kb, F5, T5, gr5, al5⟩ := h₃
  have kb1 : Kb M s { s₁ with heap := h', toks := tk } := (Kb.of kp).trans ⟨h', tk, rfl, hk⟩
  have kb2 : Kb (MT M none oa) s s₃ := by
    obtain ⟨H1, t1, q1, k1⟩ := kb1
    obtain ⟨H2, t2, q2, k2⟩ := kb
    have k1' : ∀ b o, ¬ M b → s.heap.get? b = some o → ({ s₁ with heap := h', toks := tk } : Shared).heap.get? b = some o := by rw [q1]; exact k1
    rw [q1] at q2
    refine ⟨H2, t2, q2, fun b o hb e => k2 b o (fun hm => ?_) (k1' b o (fun q => hb (.inl (.inl q))) e)⟩
    rcases hm with (hm | ⟨_, hm⟩) | hm
    · exact hb (.inl (.inl hm))
    · rw [hm, hnew] at e; cases e
    · exact hb (.inr hm)
  obtain ⟨vs, l5, ⟨n5, hp5⟩, rs5, _, _, _⟩ := F5.own x xs rfl
  have F6 : Fs h₀ B env sc M none oa (upd ρ₁ x (.list xs)) s₃ := by
    refine ⟨{ F5.fm with vars := ⟨F5.fm.vars.kind, F5.fm.vars.names, F5.fm.vars.globals, F5.fm.vars.builtins, fun y d hy => ?_⟩ }, fun b hb => (F5.cl b hb).1, F.oc, fun y ys e => by cases e⟩
    rw [lookup_upd] at hy
    cases hb : y == x with
    | true =>
      rw [hb] at hy; cases hy
      rw [beq_iff_eq.mp hb]
      exact ⟨_, .list ⟨hp5, hB0⟩ (rs5.mono fun b o q _ => ⟨q.get, q.ok.1⟩), l5⟩
    | false =>
      rw [hb] at hy
      obtain ⟨v, r, l⟩ := F5.fm.vars.look y d hy
      exact ⟨v, r.mono fun b o q _ => ⟨q.get, q.ok.1⟩, l⟩
  have T6 : Tv M none oa h₀ s₃.heap := ⟨T5.tb, fun b hb q => T5.dis b hb (.inl (q.elim id fun q => by cases q.1)), T5.new⟩
  exact wpAny_mono (hrest s₃ F6 T6) (fun _ _ h => .pre kb2 (fun b hb => (gr5 b hb).elim (fun q => .inl (ft4 b q)) fun q => .inr (al4 b q)) (fun b hb => al4 b (al5 b hb)) h) fun _ _ e => e
end
/-! _int2digits -/
theorem def_i2d' (w : World) : ∃ fd, DefAt w 71 fd (fnPs (topSt 9)) (fnBody (topSt 9)) (fnScope (topSt 9)) ∧ fd.code = .ref 70 ∧ fd.qualname = Str.ofString "_int2digits" :=
  ⟨_, ⟨⟨_, _, _, rfl⟩, rfl, rfl, fun vs h => by obtain ⟨a, b, rfl⟩ := len2 h; rfl, rfl, rfl, by decide +kernel, by decide +kernel, rfl, rfl, rfl, rfl, rfl⟩, rfl, rfl⟩
theorem val_pos {n : Nat} : ∀ {D : List Nat} (h : D ≠ []), D.getLast h ≠ 0 → 2 ^ (n * (D.length - 1)) ≤ val n D
  | [], h, _ => absurd rfl h
  | [d], _, h0 => by simp [val]; simp at h0; omega
  | d :: e :: D, _, h0 => by
    have ih := val_pos (n := n) (D := e :: D) (by simp) (by simpa using h0)
    show 2 ^ (n * (D.length + 1)) ≤ d + 2 ^ n * val n (e :: D)
    have h1 : 2 ^ n * 2 ^ (n * D.length) ≤ 2 ^ n * val n (e :: D) := Nat.mul_le_mul_left _ ih
    rw [Nat.mul_succ, Nat.pow_add, Nat.mul_comm (2 ^ (n * D.length))]
    omega
theorem count_digits {n : Nat} {D : List Nat} (hD : ∀ d ∈ D, d < 2 ^ n) (hn : 1 ≤ n) (hlast : ∀ h : D ≠ [], D.getLast h ≠ 0) : (intBits (val n D : Int) + n - 1) / n = D.length := by
  have h1 := bits_le (val_lt hD)
  have h2 := bits_lt (val n D)
  by_cases q : D = []
  · subst q
    have : intBits ((val n [] : Nat) : Int) = 0 := by simpa using h1
    rw [this]
    exact Nat.div_eq_of_lt (by omega)
  · have h3 := val_pos (n := n) q (hlast q)
    have h4 : n * (D.length - 1) < intBits (val n D : Int) := (Nat.pow_lt_pow_iff_right (by decide : 1 < 2)).mp (Nat.lt_of_le_of_lt h3 h2)
    have hl : 0 < D.length := List.length_pos_iff.mpr q
    have e : n * D.length = n * (D.length - 1) + n := by
      conv => lhs; rw [show D.length = (D.length - 1) + 1 by omega, Nat.mul_succ]
    refine Nat.div_eq_of_lt_le ?_ ?_
    · rw [Nat.mul_comm]; omega
    · rw [Nat.mul_comm, Nat.mul_succ]; omega
theorem cell_hide {h : Heap} {c a : Addr} {v : Option Value} {us : Array Value} (x : h.IsCell c v) (hp : h.PlainList a us) : (hideAll h [a]).IsCell c v := by
  obtain ⟨o, e, d⟩ := x
  obtain ⟨n, ea⟩ := hp
  refine ⟨o, hideAll_get _ e fun q => ?_, d⟩
  rw [List.mem_singleton.mp q, ea] at e; cases e; cases d
theorem i2d_spec {w : World} {n : Nat} {D : List Nat} (hD : ∀ d ∈ D, d < 2 ^ n) (hn1 : 1 ≤ n) (hn : n ≤ 5000) (hl : D.length ≤ 16) (hlast : ∀ h : D ≠ [], D.getLast h ≠ 0) : FnT w 6 (.ref 71) [Nn (val n D), Nn n] (.list (iNs D)) := by
  obtain ⟨fd, DA, hc, hq⟩ := def_i2d' w
  refine FnT.ofX DA rfl fun prog A s env B h₀ M oa ec eq R g F T => ?_
  rw [hc] at ec
  rw [hq] at eq
  have kOf := F.fm.vars.kindOf
  have rpl : iNs (List.replicate D.length 0) = (List.replicate ((D.length : Nat) : Int).toNat [PyData.int 0]).flatten := by
    rw [Int.toNat_natCast, List.flatten_replicate_singleton, iNs, List.map_replicate]; rfl
  refine own_wp (k := 5) (xs0 := List.replicate D.length 0) (xs := iNs D) (ρ' := (fnPs (topSt 9)).zip [Nn (val n D), Nn n]) (ρ₁ := (fnPs (topSt 9)).zip [Nn (val n D), Nn n]) (blk := ((fnBody (topSt 9)).drop 1).take 2) F T R g Sub.rfl' (fun x d hx => ?_) ?_ (.inr rfl) rfl rfl rfl (fun s₁ B₁ a F₁ T₁ => ?_) fun s₃ F₃ T₃ => ?_
  · have hm := PySem.mem_of_lookup hx
    rcases List.mem_cons.mp hm with q | hm
    · cases q; exact ⟨_, rfl⟩
    rcases List.mem_cons.mp hm with q | hm
    · cases q; exact ⟨_, rfl⟩
    · cases hm
  · rw [rpl]
    refine Ev.binop (Ev.list (Evs.cons Ev.int Evs.nil) (by decide)) (Ev.binop (d := .int ((D.length : Nat) : Int)) (Ev.binop (Ev.binop (Ev.meth0 (Ev.name rfl) Ty.int PySem.F.plainAttrs_int PySem.F.slot_int_bit_length PySem.F.type_int_bit_length Me.bitLength) (Ev.name rfl) Op2.addI) Ev.int Op2.subI) (Ev.name rfl) ?_) (Op2.mulL (by omega) (by omega) (by decide))
    have o := Op2.divI (w := w) (k := 5) (a := (intBits (val n D : Int) : Int) + (n : Int) - 1) (b := (n : Int)) (by omega) (by
      show n.log2 < 9000
      exact (Nat.log2_lt (by omega)).mpr (Nat.lt_of_le_of_lt hn (Nat.lt_of_lt_of_le (by decide : 5000 < 2 ^ 13) (Nat.pow_le_pow_right (by decide) (by decide)))))
    rw [show (intBits (val n D : Int) : Int) + (n : Int) - 1 = ((intBits (val n D : Int) + n - 1 : Nat) : Int) by omega, fdiv_nat, count_digits hD hn1 hlast] at o
    rw [show ((intBits (val n D : Int) + n - 1 : Nat) : Int) = (intBits (val n D : Int) : Int) + (n : Int) - 1 by omega] at o
    exact o
  · -- the def, and the call
    refine wpAny_execs_cons ?_
    refine def_stmt (c := 70) (P := 66) (q := q9) F₁ T₁ g .a ec rfl ?_ rfl rfl rfl ?_ rfl rfl (fun y ys e => by cases e; decide +kernel) fun s' f kb gr al F' T' clo ld => ?_
    · unfold qualnameIn
      rw [eq, kOf]
      decide +kernel
    · exact free_cells (by decide +kernel)
    obtain ⟨cn, hcn, -⟩ := F'.oc (Str.ofString "n") rfl
    obtain ⟨ci, hci, -⟩ := F'.oc (Str.ofString "inner") rfl
    obtain ⟨ca, hca, -⟩ := F'.oc yA rfl
    have ecl : closeOf env.cells scI [] = clI cn ci ca := by
      show [(Str.ofString "n", (env.cells.lookup (Str.ofString "n")).getD 0), (Str.ofString "inner", (env.cells.lookup (Str.ofString "inner")).getD 0), (yA, (env.cells.lookup yA).getD 0)] = _
      rw [hcn, hci, hca]; rfl
    have T2 : ∀ {s₂ : Shared}, Kp s' s₂ → Fs h₀ B₁ env (fnScope (topSt 9)) M (some (yA, iNs (List.replicate D.length 0))) a ((fnPs (topSt 9)).zip [Nn (val n D), Nn n]) s₂ → _ := fun kp F₂ => SPT.of (o := .nxt (some (yA, iNs (List.replicate D.length 0))) ((fnPs (topSt 9)).zip [Nn (val n D), Nn n])) (fl := .next) F' T' (fun _ _ e => by cases e; rfl) ⟨rfl, Kb.of kp, F₂⟩
    refine wpAny_execs_cons (wpAny_If (F'.ts (b := ((val n D : Nat) : Int) != 0) R g (Ts.int rfl rfl) fun s₂ kp F₂ => ?_))
    by_cases q : D = []
    · subst q
      exact wpAny_execs_nil (wpAny_execs_nil (SPT.pre kb gr al (T2 kp F₂)))
    have hpos : 0 < val n D := Nat.lt_of_lt_of_le (Nat.two_pow_pos _) (val_pos q (hlast q))
    have hlen : 0 < D.length := List.length_pos_iff.mpr q
    have hne : (((val n D : Nat) : Int) != 0) = true := by rw [bne_iff_ne]; omega
    rw [hne]
    show wpAny _ _ (execs _ env) _ _ _
    obtain ⟨us, la, hpl, rsa, hBa, hMa, h0a⟩ := F₂.own _ _ rfl
    have hsub0 : ∀ b o, h₀.get? b = some o → (hideAll s₂.heap [a]).get? b = some o := fun b o e => hideAll_get _ (F₂.fm.base b o e) fun hb => by rw [List.mem_singleton.mp hb, h0a] at e; cases e
    have G1 : G w (hideAll s₂.heap [a]) := g.keeps hsub0
    have I1 : InI (hideAll s₂.heap [a]) f n cn ci ca a := by
      refine ⟨?_, ?_, ?_, ?_⟩
      · have c2 := (ecl ▸ clo : Clo s'.heap f (inSt 9 1) (clI cn ci ca) q9).keeps kp.heap
        exact c2.but hpl fun b o hb e => hideAll_get _ e fun hb' => hb (List.mem_singleton.mp hb')
      · obtain ⟨v, r, l⟩ := F₂.fm.vars.look (Str.ofString "n") (Nn n) rfl
        cases r with
        | int _ t => exact ⟨t, cell_hide (l.cellOf (by rw [kOf]; rfl) hcn) hpl⟩
      · exact cell_hide ((ld.keeps kp.heap).cellOf (by rw [kOf]; rfl) hci) hpl
      · exact cell_hide (la.cellOf (by rw [kOf]; rfl) hca) hpl
    have t := innerI G1 (hideAll_none _ (by simp)) I1 hn 4 D hD hlen hl hl 0 (List.replicate D.length 0) (by simp) (by simpa using hl)
    have et : (List.replicate D.length 0).take 0 ++ D ++ (List.replicate D.length 0).drop (0 + D.length) = D := by simp
    rw [et, Nat.zero_add] at t
    refine wpAny_execs_cons (wpAny_mono (call_own (f := f) (ds := [Nn (val n D), Nn 0, Nn D.length]) (ys := iNs D) F₂ R g (ld.keeps kp.heap) ?_ ?_ fun s₄ vs kp₄ F₄ rs => ?_) (fun fl s₅ h₅ => ?_) fun _ _ x => x)
    · obtain ⟨oc, od, osl, _, _, _, _, e, _⟩ := clo
      exact ⟨oc, od, _, osl, kp.heap _ _ e⟩
    · refine Evs.cons (Ev.name rfl) (Evs.cons Ev.int (Evs.cons (Ev.call (nm_len rfl) keepsOk.builtin (Evs.cons (Ev.name rfl) Evs.nil) ?_) Evs.nil))
      have := Fn.lenL (w := w) (k := 5) (xs := iNs (List.replicate D.length 0)) (by rw [List.length_map, List.length_replicate]; exact Nat.le_trans hl (by decide))
      rw [List.length_map, List.length_replicate] at this
      exact this
    · obtain ⟨us', _, hp', rs', _⟩ := F₄.own _ _ rfl
      exact t prog A s₄ vs R (fun b o e => kp₄.heap b o (of_hideAll _ e)) ⟨us', hp', rs'.ofInts⟩ (Rds.ofInts (l := [val n D, 0, D.length]) rs)
    · obtain ⟨rfl, kb₅, F₅⟩ := h₅
      refine wpAny_execs_nil (wpAny_execs_nil ?_)
      obtain ⟨_, _, _, T₂, _, _⟩ := T2 kp F₂
      exact SPT.pre kb gr al (SPT.of F' T' (fun _ _ e => by cases e; rfl) ⟨rfl, (Kb.of kp).trans kb₅, F₅⟩)
  · exact (ExsT.of (Exs.ret (Ex.return (Ev.name rfl))) (fun _ _ e => by cases e) : ExsT w 5 (fnScope (topSt 9)) none _ _ _) prog A s₃ env B h₀ M oa R g F₃ T₃
end Mine
end
section
open PySem PySem.W PyProof.Rows PySem.Calls PySem.Builtin PySem.Builtin.Int
set_option Elab.async false
set_option maxRecDepth 100000
set_option linter.unusedVariables false
set_option linter.unusedSimpArgs false
set_option maxHeartbeats 4000000
namespace Mine
section
variable {w : World} {k : Nat} {sc : Sc} {ow : Own} {ρ : Rho}
/-- over reversed(list) -/
theorem It.reversed {e : Expr} {npos pos : Pos} {xs : List PyData} (nm : Nm w sc (Str.ofString "reversed") (.type "reversed")) (he : Ev w k sc ρ e (.list xs))
    (hse : isStarred e = false := by rfl) : It w k sc ρ (.Call (.Name (Str.ofString "reversed") npos) [e] [] pos) xs.reverse := fun prog A s env B R g V => by
  rw [eval_callName]
  refine wpAny_bind (nm.go g V ?_)
  have h : Evs w k sc ρ [e] [.list xs] := Evs.cons he Evs.nil hse
  have h := h prog A s env B pos R g V
  rw [star_cons hse env] at h ⊢
  refine callWith_of (P := G w) rfl (fun h gh => keepsOk.type _ h gh) (evalArgs_plain (wpAny_mono h (fun vs s₁ h₁ => ⟨g.keeps h₁.1.heap, ?_⟩) fun _ _ x => x))
  obtain ⟨kp, rs⟩ := h₁
  cases rs with
  | cons r1 r2 =>
  cases r2
  obtain ⟨l, items, n, rfl, hoB, hl, rs⟩ := r1.list_inv
  have ho := hoB.get
  have e : items.size = xs.reverse.length := by rw [List.length_reverse, ← rs.length]; simp
  have hlt : l < s₁.heap.objs.size := Heap.lt_size ho
  have new : s.heap.get? s₁.heap.objs.size = none := kp_size kp _ (Nat.le_refl _)
  refine call_reversed_list hl ?_
  have kp1 : Kp s { s₁ with heap := s₁.heap.push (revObj l ((items.size : Int) - 1)) } := kp.trans (Kp.push _)
  have hit : (s₁.heap.push (revObj l ((items.size : Int) - 1))).IsRevIter s₁.heap.objs.size l ((items.size : Int) - 1) := ⟨_, Heap.get?_push_size _ rfl, rfl, rfl⟩
  have hit0 : (s₁.heap.push (revObj l ((items.size : Int) - 1))).IsRevIter s₁.heap.objs.size l ((items.size : Int) - 1 - ((0 : Nat) : Int)) := by
    rw [show ((items.size : Int) - 1 - ((0 : Nat) : Int)) = (items.size : Int) - 1 by omega]; exact hit
  have W : Walks prog w A s₁.heap.objs.size [s₁.heap.objs.size, l] [s₁.heap.objs.size] xs.reverse.length (fun i v => i < items.size ∧ items[items.size - 1 - i]? = some v) (fun i h => i ≤ items.size ∧ h.IsRevIter s₁.heap.objs.size l ((items.size : Int) - 1 - (i : Int)) ∧ h.IsList l items) := by
    rw [← e]; exact (Walks.listRev (A := A) R.hd _ l (Nat.ne_of_lt hlt) items).bound
  refine ⟨kp1, wpAny_pyIter_revIter hit ?_⟩
  refine ⟨kp1, s₁.heap.objs.size, [s₁.heap.objs.size, l], [s₁.heap.objs.size], _, _, rfl, W, ⟨Nat.zero_le _, hit0, hl.push _⟩, fun b hb => ?_, fun b hb => ?_, fun b hb => ?_, fun i h st b hb => ?_, fun i v hv => ?_⟩
  · rw [show ({ s₁ with heap := s₁.heap.push (revObj l ((items.size : Int) - 1)) } : Shared).heap.objs.size = s₁.heap.objs.size + 1 from Heap.size_push ..]
    rcases List.mem_cons.mp hb with rfl | hb
    · exact Nat.lt_succ_self _
    · rw [List.mem_singleton.mp hb]; exact Nat.lt_succ_of_lt hlt
  · rw [List.mem_singleton.mp hb]; exact new
  · rcases List.mem_cons.mp hb with rfl | hb
    · exact .inl new
    · rw [List.mem_singleton.mp hb]
      cases e0 : s.heap.get? l with
      | none => exact .inl rfl
      | some o =>
        have := kp.heap l o e0
        rw [ho] at this
        cases this
        rcases hoB.ok with h | h
        · exact .inr ⟨h, _, rfl, .inl rfl, _, _, rfl⟩
        · rw [e0] at h; cases h
  · rw [List.mem_singleton.mp hb]
    obtain ⟨o, h1, h2, _⟩ := st.2.1
    exact ⟨o, h1, notSeq_cls h2 (by decide) (by decide)⟩
  · obtain ⟨hi, hv⟩ := hv
    have hi' : i < xs.length := by rw [e, List.length_reverse] at hi; exact hi
    have hz : items.size = xs.length := by rw [e, List.length_reverse]
    obtain ⟨d, hd, rd⟩ := rs.get (items.size - 1 - i) v (by simpa using hv)
    refine ⟨d, by rw [List.getElem?_reverse hi', ← hz]; exact hd, rd.mono fun b o eb _ => ⟨Heap.get?_push_of_some _ eb.get, eb.ok⟩⟩
theorem Rds.rev {B : Addr → Obj → Prop} {vs : Array Value} {ds : List PyData} (h : Rds B vs.toList ds) : Rds B vs.reverse.toList ds.reverse := by
  rw [Array.toList_reverse]; exact h.reverse
/-- x.reverse() on the own list -/
theorem Ex.reverse {x : Str} {px apos pos spos : Pos} {xs : List PyData} (hl : xs.length ≤ sizeLine) (hd : (x == ("__debug__" : Str)) = false := by decide +kernel)
    (hline : (apos.endLine == pos.line) = true := by rfl) :
    Ex w k sc (some (x, xs)) ρ (.Expr (.Call (.Attribute (.Name x px) (Str.ofString "reverse") apos) [] [] pos) spos) (.nxt (some (x, xs.reverse)) ρ) := fun prog A s env B h₀ M oa R g F => by
  refine wpAny_Expr ?_ (by unfold interactive; rw [F.fm.vars.kind]; rfl) rfl
  obtain ⟨vs, l, ⟨n, hp⟩, rs, hB, hM, h0⟩ := F.own x xs rfl
  refine wpAny_Call_method rfl rfl hline PySem.F.plainAttrs_list PySem.F.slot_list_reverse PySem.F.type_list_reverse (wpAny_Name (ld_load F.fm.vars.kind l ?_) hd)
  refine ⟨⟨_, hp, rfl⟩, fun b e => by cases e; exact ⟨_, hp, rfl⟩, callWith_method0 ?_⟩
  have hz : vs.size = xs.length := by rw [← rs.length]; simp
  refine call_meets PySem.F.slot_list_reverse ⟨_, hp, rfl⟩ PySem.F.entry_list_reverse (PySem.F.args_list_reverse_1 _) (AutoSeq1.list_reverse_list_0 oa vs n (by rw [hz]; exact hl)) ⟨hp, ?_⟩
  have e : Obj.mapSeq (fun x => x.reverse) { cls := .type "list", data := .seq vs n } = { cls := .type "list", data := .seq vs.reverse n } := by simp [Obj.mapSeq]
  have hs' := Heap.SameBut.update (h := s.heap) (a := oa) (f := Obj.mapSeq (fun x => x.reverse))
  have hp'' : (s.heap.update oa (Obj.mapSeq (fun x => x.reverse))).PlainList oa vs.reverse := ⟨n, by rw [Heap.get?_update_self _ hp (by rw [e]; rfl), e]⟩
  exact ⟨rfl, kb_own hs', F.changed l hB hM h0 hp'' hs' rs.rev⟩
end
/-! digits and their division, plainly -/
theorem digits_of (n : Nat) : ∀ (f a : Nat), a < 2 ^ (n * f) → ∃ D : List Nat, val n D = a ∧ (∀ d ∈ D, d < 2 ^ n) ∧ D.length ≤ f ∧ ∀ h : D ≠ [], D.getLast h ≠ 0
  | 0, a, h => ⟨[], by rw [Nat.mul_zero, Nat.pow_zero] at h; show 0 = a; omega, by simp, Nat.le_refl _, fun h => absurd rfl h⟩
  | f + 1, a, h => by
    by_cases h0 : a = 0
    · exact ⟨[], by rw [h0]; rfl, by simp, Nat.zero_le _, fun h => absurd rfl h⟩
    rw [Nat.mul_succ, Nat.pow_add] at h
    have hlt : a / 2 ^ n < 2 ^ (n * f) := (Nat.div_lt_iff_lt_mul (Nat.two_pow_pos n)).mpr h
    obtain ⟨D, e, hD, hl, hg⟩ := digits_of n f (a / 2 ^ n) hlt
    refine ⟨a % 2 ^ n :: D, ?_, ?_, Nat.succ_le_succ hl, fun hne => ?_⟩
    · show a % 2 ^ n + 2 ^ n * val n D = a
      rw [e, Nat.add_comm]; exact Nat.div_add_mod a (2 ^ n)
    · intro d hd
      rcases List.mem_cons.mp hd with rfl | hd
      · exact Nat.mod_lt _ (Nat.two_pow_pos n)
      · exact hD d hd
    · by_cases q : D = []
      · subst q
        show a % 2 ^ n ≠ 0
        have e0 : a / 2 ^ n = 0 := e.symm
        have e1 := Nat.div_add_mod a (2 ^ n)
        rw [e0, Nat.mul_zero] at e1
        omega
      · rw [List.getLast_cons q]; exact hg q
noncomputable def dm (b n : Nat) : List Nat → List Nat × Nat
  | [] => ([], 0)
  | d :: D => ((((dm b n D).2 * 2 ^ n + d) / b) :: (dm b n D).1, ((dm b n D).2 * 2 ^ n + d) % b)
theorem dm_len {b n : Nat} : ∀ D : List Nat, (dm b n D).1.length = D.length
  | [] => rfl
  | d :: D => congrArg (· + 1) (dm_len D)
theorem dm_lt {b n : Nat} (hb : 0 < b) (D : List Nat) : (dm b n D).2 < b := by
  cases D with
  | nil => exact hb
  | cons d D => exact Nat.mod_lt _ hb
theorem step_lt {b n r d : Nat} (hr : r < b) (hd : d < 2 ^ n) : r * 2 ^ n + d < b * 2 ^ n := by
  have : (r + 1) * 2 ^ n ≤ b * 2 ^ n := Nat.mul_le_mul_right _ hr
  rw [Nat.add_mul, Nat.one_mul] at this
  omega
theorem dm_spec {b n : Nat} (hb : 0 < b) : ∀ D : List Nat, (∀ d ∈ D, d < 2 ^ n) → val n (dm b n D).1 = val n D / b ∧ (dm b n D).2 = val n D % b ∧ (∀ q ∈ (dm b n D).1, q < 2 ^ n) ∧ (dm b n D).1.length = D.length
  | [], _ => ⟨by simp [dm, val], by simp [dm, val], by simp [dm], rfl⟩
  | d :: D, h => by
    obtain ⟨h1, h2, h3, h4⟩ := dm_spec hb D fun e he => h e (List.mem_cons_of_mem _ he)
    have hd := h d List.mem_cons_self
    have hv : val n (d :: D) = b * (2 ^ n * (val n D / b)) + ((dm b n D).2 * 2 ^ n + d) := by
      rw [h2]
      show d + 2 ^ n * val n D = _
      conv => lhs; rw [← Nat.div_add_mod (val n D) b]
      rw [Nat.mul_add, Nat.mul_left_comm, Nat.mul_comm (val n D % b)]
      omega
    refine ⟨?_, ?_, ?_, by show (dm b n D).1.length + 1 = _; rw [h4]; rfl⟩
    · show ((dm b n D).2 * 2 ^ n + d) / b + 2 ^ n * val n (dm b n D).1 = _
      rw [hv, Nat.mul_add_div hb, h1, Nat.add_comm]
    · show ((dm b n D).2 * 2 ^ n + d) % b = _
      rw [hv, Nat.mul_add_mod]
    · intro q hq
      rcases List.mem_cons.mp hq with rfl | hq
      · refine (Nat.div_lt_iff_lt_mul hb).mpr ?_
        rw [Nat.mul_comm (2 ^ n)]
        exact step_lt (dm_lt hb D) hd
      · exact h3 q hq
/-! _divmod_pos -/
abbrev yQ : Str := Str.ofString "q_digits"
theorem nm_i2d {w : World} {sc : Sc} (h : sc.lookup (Str.ofString "_int2digits") = some .globalImplicit) : Nm w sc (Str.ofString "_int2digits") (.ref 71) := .mod h rfl (by decide +kernel)
theorem nm_d2i {w : World} {sc : Sc} (h : sc.lookup (Str.ofString "_digits2int") = some .globalImplicit) : Nm w sc (Str.ofString "_digits2int") (.ref 78) := .mod h rfl (by decide +kernel)
theorem nm_reversed {w : World} {sc : Sc} (h : sc.lookup (Str.ofString "reversed") = some .globalImplicit) : Nm w sc (Str.ofString "reversed") (.type "reversed") := .bi h rfl rfl (by decide +kernel) (by decide +kernel)
theorem dmp_spec {w : World} {a b n : Nat} (hb : 0 < b) (hn : intBits (b : Int) = n) (hn4 : n ≤ 4300) (ha : a < 2 ^ (n * 16)) : FnT w 7 (.ref 85) [Nn a, Nn b] (qr a b) := by
  have hb2 : b < 2 ^ n := by rw [← hn]; exact bits_lt b
  have hn1 : 1 ≤ n := by
    cases n with
    | zero => omega
    | succ n => omega
  have hb1 : 2 ^ (n - 1) ≤ b := by
    rcases Nat.lt_or_ge b (2 ^ (n - 1)) with q | q
    · have := bits_le q; omega
    · exact q
  obtain ⟨D, hv, hD, hl, hlast⟩ := digits_of n 16 a ha
  obtain ⟨d1, d2, d3, d4⟩ := dm_spec hb D hD
  have hlz : D.length ≤ sizeLine := Nat.le_trans hl (by decide)
  refine FnT.def (k := 6) (def_dmp w) rfl ?_
  have eb : Ev w 6 (fnScope (topSt 11)) ((fnPs (topSt 11)).zip [Nn a, Nn b]) (.Call (.Attribute (.Name (Str.ofString "b") ⟨75, 8, 75, 9⟩) (Str.ofString "bit_length") ⟨75, 8, 75, 20⟩) [] [] ⟨75, 8, 75, 22⟩) (Nn n) := by
    have := Ev.meth0 (w := w) (k := 6) (sc := fnScope (topSt 11)) (ρ := (fnPs (topSt 11)).zip [Nn a, Nn b]) (o := .Name (Str.ofString "b") ⟨75, 8, 75, 9⟩) (apos := ⟨75, 8, 75, 20⟩) (pos := ⟨75, 8, 75, 22⟩) (Ev.name (d := Nn b) rfl) Ty.int PySem.F.plainAttrs_int PySem.F.slot_int_bit_length PySem.F.type_int_bit_length Me.bitLength
    rw [hn] at this
    exact this
  refine ExsT.cons (ExT.of (Ex.assign eb (.inl rfl))) ?_
  refine ExsT.cons (ExT.assign (d := .list (iNs D)) (EvT.call (nm_i2d rfl) (keepsOk.def rfl) (Evs.cons (Ev.name rfl) (Evs.cons (Ev.name rfl) Evs.nil)) ?_) (.inl rfl)) ?_
  · have := i2d_spec (w := w) hD hn1 (by omega) hl hlast
    rw [hv] at this
    exact this
  refine ExsT.cons (ExT.of (Ex.assign (d := Nn 0) Ev.int (.inl rfl))) ?_
  refine ExsT.ownBlock (x := yQ) (blk := ((fnBody (topSt 11)).drop 4).take 2) (rest := (fnBody (topSt 11)).drop 6) (xs := iNs (dm b n D).1) (ρ₁ := [(Str.ofString "r", Nn (dm b n D).2), (Str.ofString "n", Nn n), (Str.ofString "b", Nn b)]) (.inl rfl) rfl rfl (ExsT.of ?_) ?_
  · have body := Ex.forN (w := w) (k := 6) (sc := fnScope (topSt 11)) (ow := some (yQ, [])) (x := Str.ofString "a_digit") (items := (iNs D).reverse) D.length (by rw [List.length_reverse, List.length_map])
      (fun i => some (yQ, iNs (dm b n (D.drop (D.length - i))).1.reverse)) (fun i => [(Str.ofString "r", Nn (dm b n (D.drop (D.length - i))).2), (Str.ofString "n", Nn n), (Str.ofString "b", Nn b)])
      (It.reversed (nm_reversed rfl) (Ev.name (x := Str.ofString "a_digits") (ρ := upd (upd (upd ((fnPs (topSt 11)).zip [Nn a, Nn b]) (Str.ofString "n") (Nn n)) (Str.ofString "a_digits") (.list (iNs D))) (Str.ofString "r") (Nn 0)) (pos := ⟨79, 28, 79, 36⟩) rfl) (npos := ⟨79, 19, 79, 27⟩) (pos := ⟨79, 19, 79, 37⟩))
      (by rw [Nat.sub_zero, List.drop_length]; rfl) (by rw [Nat.sub_zero, List.drop_length]; exact Sub.cons rfl (Sub.cons rfl (Sub.cons rfl Sub.nil))) (.inl rfl) (fun _ => rfl) (fun _ => by show (!(yQ == Str.ofString "a_digit")) = true; decide +kernel)
      (body := match (fnBody (topSt 11)).getD 4 (.Pass ⟨0, 0, 0, 0⟩) with | .For _ _ b _ _ => b | _ => []) (pos := match (fnBody (topSt 11)).getD 4 (.Pass ⟨0, 0, 0, 0⟩) with | .For _ _ _ _ p => p | _ => ⟨0, 0, 0, 0⟩) (px := ⟨79, 8, 79, 15⟩)
      (fun i d hd => ?_)
    · rw [Nat.sub_self, List.drop_zero] at body
      refine Exs.cons body (Exs.cons ?_ Exs.nil)
      have := Ex.reverse (w := w) (k := 6) (sc := fnScope (topSt 11)) (x := yQ) (xs := iNs (dm b n D).1.reverse) (ρ := [(Str.ofString "r", Nn (dm b n D).2), (Str.ofString "n", Nn n), (Str.ofString "b", Nn b)]) (px := ⟨82, 4, 82, 12⟩) (apos := ⟨82, 4, 82, 20⟩) (pos := ⟨82, 4, 82, 22⟩) (spos := ⟨82, 4, 82, 22⟩) (by rw [List.length_map, List.length_reverse, d4]; exact hlz)
      rw [show (iNs (dm b n D).1.reverse).reverse = iNs (dm b n D).1 by rw [iNs, List.map_reverse, List.reverse_reverse]] at this
      exact this
    · have hi : i < D.length := by
        have := (List.getElem?_eq_some_iff.mp hd).1
        rw [List.length_reverse, List.length_map] at this
        exact this
      rw [List.getElem?_reverse (by rw [List.length_map]; exact hi), List.length_map, List.getElem?_map, List.getElem?_eq_getElem (show D.length - 1 - i < D.length by omega)] at hd
      cases hd
      have hdd : D.drop (D.length - (i + 1)) = D[D.length - 1 - i]'(by omega) :: D.drop (D.length - i) := by
        rw [List.drop_eq_getElem_cons (show D.length - (i + 1) < D.length by omega)]
        congr 1
        · congr 1; omega
        · congr 1; omega
      have hdlt : D[D.length - 1 - i]'(by omega) < 2 ^ n := hD _ (List.getElem_mem _)
      rw [hdd]
      have hEl : (D.drop (D.length - i)).length ≤ sizeLine := by rw [List.length_drop]; omega
      generalize D[D.length - 1 - i]'(by omega) = d at *
      generalize D.drop (D.length - i) = E at *
      have hr := dm_lt (n := n) hb E
      have hql : (iNs (dm b n E).1.reverse).length ≤ sizeLine := by rw [List.length_map, List.length_reverse, dm_len]; exact hEl
      refine Exs.weaken (ρ₁ := upd (upd (upd [(Str.ofString "r", Nn (dm b n E).2), (Str.ofString "n", Nn n), (Str.ofString "b", Nn b)] (Str.ofString "a_digit") (Nn d)) (Str.ofString "q_digit") (Nn (((dm b n E).2 * 2 ^ n + d) / b))) (Str.ofString "r") (Nn (((dm b n E).2 * 2 ^ n + d) % b))) ?_ (Sub.cons rfl (Sub.cons rfl (Sub.cons rfl Sub.nil)))
      refine Exs.cons (Ex.tuple2 (Ev.call (nm_d2 rfl) (keepsOk.def rfl) (Evs.cons (Ev.binop (Ev.binop (Ev.name rfl) (Ev.name rfl) (Op2.shlN (Nat.lt_trans hr hb2) (by omega))) (Ev.name rfl) Op2.addN) (Evs.cons (Ev.name rfl) (Evs.cons (Ev.name rfl) Evs.nil))) (d2_spec (k := 3) hn1 hn4 hb2 hb1 (step_lt hr hdlt))) (.inl rfl) (.inl rfl)) (Exs.cons ?_ Exs.nil)
      have := Ex.append (w := w) (k := 6) (sc := fnScope (topSt 11)) (x := yQ) (px := ⟨81, 8, 81, 16⟩) (apos := ⟨81, 8, 81, 23⟩) (pos := ⟨81, 8, 81, 32⟩) (spos := ⟨81, 8, 81, 32⟩) (e := .Name (Str.ofString "q_digit") ⟨81, 24, 81, 31⟩) (ρ := upd (upd (upd [(Str.ofString "r", Nn (dm b n E).2), (Str.ofString "n", Nn n), (Str.ofString "b", Nn b)] (Str.ofString "a_digit") (Nn d)) (Str.ofString "q_digit") (Nn (((dm b n E).2 * 2 ^ n + d) / b))) (Str.ofString "r") (Nn (((dm b n E).2 * 2 ^ n + d) % b))) (xs := iNs (dm b n E).1.reverse) (d := Nn (((dm b n E).2 * 2 ^ n + d) / b)) (Ev.name rfl) hql
      have e : iNs (dm b n (d :: E)).1.reverse = iNs (dm b n E).1.reverse ++ [Nn (((dm b n E).2 * 2 ^ n + d) / b)] := by
        show iNs ((_ :: (dm b n E).1).reverse) = _
        rw [List.reverse_cons, iNs, List.map_append]; rfl
      rw [e]
      exact this
  · refine ExsT.cons (ExT.assign (d := Nn (a / b)) (EvT.call (nm_d2i rfl) (keepsOk.def rfl) (Evs.cons (Ev.name rfl) (Evs.cons (Ev.name rfl) Evs.nil)) ?_) (.inl rfl)) (ExsT.of (Exs.ret (Ex.return ?_)) (fun _ _ e => by cases e))
    · have := d2i_spec (w := w) d3 (by omega) (by rw [d4]; exact hl)
      rw [d1, hv] at this
      exact this
    · rw [← hv, show qr (val n D) b = .tuple [Nn (val n D / b), Nn (dm b n D).2] by rw [d2]]
      exact Ev.tuple (Evs.cons (Ev.name rfl) (Evs.cons (Ev.name rfl) Evs.nil)) (show 2 ≤ 1000 by decide)
end Mine
end
section
open PySem PySem.W PyProof.Rows PySem.Calls PySem.Builtin PySem.Builtin.Int
set_option Elab.async false
set_option maxRecDepth 100000
set_option linter.unusedVariables false
set_option linter.unusedSimpArgs false
set_option maxHeartbeats 4000000
namespace Mine
abbrev qrI (a b : Int) : PyData := .tuple [.int (a.fdiv b), .int (a.fmod b)]
theorem nm_dmp {w : World} {sc : Sc} (h : sc.lookup (Str.ofString "_divmod_pos") = some .globalImplicit) : Nm w sc (Str.ofString "_divmod_pos") (.ref 85) := .mod h rfl (by decide +kernel)
theorem nm_idm {w : World} {sc : Sc} (h : sc.lookup (Str.ofString "int_divmod") = some .globalImplicit) : Nm w sc (Str.ofString "int_divmod") (.ref 92) := .mod h rfl (by decide +kernel)
theorem low_div (x b : Nat) (hb : 0 < b) : (-(x : Int) - 1).fdiv b = bitNot ((x / b : Nat) : Int) ∧ (-(x : Int) - 1).fmod b = (b : Int) + bitNot ((x % b : Nat) : Int) := by
  have hb' : (0 : Int) < b := by omega
  have hm := Nat.mod_lt x hb
  have hx : (x : Int) = b * ((x / b : Nat) : Int) + ((x % b : Nat) : Int) := by
    have := Nat.div_add_mod x b
    exact_mod_cast this.symm
  have e1 : bitNot ((x / b : Nat) : Int) = -((x / b : Nat) : Int) - 1 := by unfold bitNot; omega
  have e2 : bitNot ((x % b : Nat) : Int) = -((x % b : Nat) : Int) - 1 := by unfold bitNot; omega
  rw [Int.fdiv_eq_ediv_of_nonneg _ (by omega), Int.fmod_eq_emod_of_nonneg _ (by omega), e1, e2]
  refine (Int.ediv_emod_unique hb').mpr ⟨?_, by omega, by omega⟩
  rw [Int.mul_sub, Int.mul_neg]
  omega
structure Sz (a b : Int) : Prop where
  ne : b ≠ 0
  n : intBits (b.natAbs : Int) ≤ 4300
  a : a.natAbs < 2 ^ (intBits (b.natAbs : Int) * 16)
theorem idm_pos {w : World} {a b : Nat} (h : Sz a b) : FnT w 8 (.ref 92) [Nn a, Nn b] (qrI a b) := by
  have hb : 0 < b := by have := h.ne; omega
  refine FnT.def (k := 7) (def_idm w) rfl ?_
  refine ExsT.ret (ExT.ite (b := ((b : Int) == 0)) (Ts.cmp (Ev.name rfl) Ev.int Cm.eqI) (fun e => by rw [beq_iff_eq] at e; omega) fun _ => ?_)
  refine ExsT.ret (ExT.ite (b := decide ((b : Int) < 0)) (Ts.cmp (Ev.name rfl) Ev.int Cm.ltI) (fun e => by rw [decide_eq_true_eq] at e; omega) fun _ => ?_)
  refine ExsT.ret (ExT.ite (b := decide ((a : Int) < 0)) (Ts.cmp (Ev.name rfl) Ev.int Cm.ltI) (fun e => by rw [decide_eq_true_eq] at e; omega) fun _ => ?_)
  refine ExsT.ret (ExT.return (EvT.call (nm_dmp rfl) (keepsOk.def rfl) (Evs.cons (Ev.name rfl) (Evs.cons (Ev.name rfl) Evs.nil)) ?_))
  have := dmp_spec (w := w) (a := a) (b := b) hb rfl h.n h.a
  unfold qrI
  rw [fdiv_nat, fmod_nat]
  exact this
theorem Sz.low {x b : Nat} (h : Sz (-(x : Int) - 1) b) : Sz x b := ⟨h.ne, h.n, by have := h.a; omega⟩
theorem idm_b {w : World} {a : Int} {b : Nat} (h : Sz a b) : FnT w 9 (.ref 92) [.int a, Nn b] (qrI a b) := by
  have hb : 0 < b := by have := h.ne; omega
  by_cases ha : 0 ≤ a
  · obtain ⟨x, rfl⟩ := Int.eq_ofNat_of_zero_le ha
    exact (idm_pos h).mono (by decide)
  obtain ⟨x, rfl⟩ : ∃ x : Nat, a = -(x : Int) - 1 := ⟨(-a - 1).toNat, by omega⟩
  obtain ⟨f1, f2⟩ := low_div x b hb
  refine FnT.def (k := 8) (def_idm w) rfl ?_
  refine ExsT.ret (ExT.ite (b := ((b : Int) == 0)) (Ts.cmp (Ev.name rfl) Ev.int Cm.eqI) (fun e => by rw [beq_iff_eq] at e; omega) fun _ => ?_)
  refine ExsT.ret (ExT.ite (b := decide ((b : Int) < 0)) (Ts.cmp (Ev.name rfl) Ev.int Cm.ltI) (fun e => by rw [decide_eq_true_eq] at e; omega) fun _ => ?_)
  refine ExsT.ret (ExT.ite (b := decide (-(x : Int) - 1 < 0)) (Ts.cmp (Ev.name rfl) Ev.int Cm.ltI) (fun _ => ?_) fun e => by rw [decide_eq_false_iff_not] at e; omega)
  have hz := h.low
  have en : bitNot (-(x : Int) - 1) = (x : Int) := by unfold bitNot; omega
  refine ExsT.cons (ExT.tuple2 (a := .int ((x : Int).fdiv b)) (b := .int ((x : Int).fmod b)) (EvT.call (ds := [.int (bitNot (-(x : Int) - 1)), Nn b]) (nm_idm rfl) (keepsOk.def rfl) (Evs.cons (Ev.inv (Ev.name rfl)) (Evs.cons (Ev.name rfl) Evs.nil)) (by rw [en]; exact idm_pos hz)) (.inl rfl) (.inl rfl)) ?_
  refine ExsT.of (Exs.ret (Ex.return ?_)) (fun _ _ e => by cases e)
  unfold qrI
  rw [f1, f2, fdiv_nat, fmod_nat]
  exact Ev.tuple (Evs.cons (Ev.inv (Ev.name rfl)) (Evs.cons (Ev.binop (Ev.name rfl) (Ev.inv (Ev.name rfl)) Op2.addI) Evs.nil)) (show 2 ≤ 1000 by decide)
theorem idm_spec {w : World} {a b : Int} (h : Sz a b) : FnT w 10 (.ref 92) [.int a, .int b] (qrI a b) := by
  by_cases hb : 0 ≤ b
  · obtain ⟨x, rfl⟩ := Int.eq_ofNat_of_zero_le hb
    exact (idm_b h).mono (by decide)
  obtain ⟨x, hx⟩ : ∃ x : Nat, -b = (x : Int) := ⟨(-b).toNat, by omega⟩
  have hz : Sz (-a) x := by
    have e : ((x : Int)).natAbs = b.natAbs := by omega
    exact ⟨by have := h.ne; omega, by rw [e]; exact h.n, by rw [e, Int.natAbs_neg]; exact h.a⟩
  refine FnT.def (k := 9) (def_idm w) rfl ?_
  refine ExsT.ret (ExT.ite (b := (b == 0)) (Ts.cmp (Ev.name rfl) Ev.int Cm.eqI) (fun e => by rw [beq_iff_eq] at e; omega) fun _ => ?_)
  refine ExsT.ret (ExT.ite (b := decide (b < 0)) (Ts.cmp (Ev.name rfl) Ev.int Cm.ltI) (fun _ => ?_) fun e => by rw [decide_eq_false_iff_not] at e; omega)
  refine ExsT.cons (ExT.tuple2 (a := .int ((-a).fdiv (-b))) (b := .int ((-a).fmod (-b))) (EvT.call (ds := [.int (-a), .int (-b)]) (nm_idm rfl) (keepsOk.def rfl) (Evs.cons (Ev.neg (Ev.name rfl)) (Evs.cons (Ev.neg (Ev.name rfl)) Evs.nil)) (by rw [hx]; exact idm_b hz)) (.inl rfl) (.inl rfl)) ?_
  refine ExsT.of (Exs.ret (Ex.return ?_)) (fun _ _ e => by cases e)
  have e : qrI a b = .tuple [.int ((-a).fdiv (-b)), .int (-((-a).fmod (-b)))] := by
    unfold qrI
    rw [Int.neg_fdiv_neg, Int.neg_fmod_neg, Int.neg_neg]
  rw [e]
  exact Ev.tuple (Evs.cons (Ev.name rfl) (Evs.cons (Ev.neg (Ev.name rfl)) Evs.nil)) (show 2 ≤ 1000 by decide)
end Mine
end
section
open PySem PySem.W PyProof.Rows PySem.Calls
set_option Elab.async false
set_option maxRecDepth 100000
set_option linter.unusedVariables false
set_option linter.unusedSimpArgs false
set_option maxHeartbeats 4000000
namespace Mine
open PySem.AutoSeq1 (wpAny_loadPart')
/-! enumerate over a tuple -/
theorem enum_newT (l : Addr) (items : Array Value) (n : Nat) :
    Meets (Builtin.«enumerate.__new__» ⟨[.type "enumerate", .ref l], []⟩) (fun _ R s => s.heap.get? l = some { cls := .type "tuple", dict := none, data := .seq items n, slots := #[] } ∧
      R (.ok (.ret (.ref (s.heap.push { cls := .type "tuple_iterator", data := .fields #[.ref l, .int 0 0] }).objs.size)))
        { s with heap := (s.heap.push { cls := .type "tuple_iterator", data := .fields #[.ref l, .int 0 0] }).push { cls := .type "enumerate", data := .fields #[.none, .bool false, .ref s.heap.objs.size, rawInt 0, .none, .none] } }) :=
  .of_wp fun prog w A R s h => by
    obtain ⟨hp, g, d, tk, os⟩ := s
    obtain ⟨hl, h⟩ := h
    have hsub := sub_enumerate
    have hL : Heap.IsTuple (Shared.heap ⟨hp, g, d, tk, os⟩) l items := ⟨_, hl, rfl, n, rfl⟩
    wp_walk using wpAny_loadPart' hl
    refine wpAny_stack_any fun st => wpAny_pure ?_
    split
    · rename_i c _ _ _ _ _
      cases (c == Value.type "enumerate") <;>
      · wp_walk using wpAny_loadPart' hl, wpAny_pyIter_tuple hL
        exact ⟨_, rfl, h⟩
    · wp_walk using wpAny_loadPart' hl, wpAny_pyIter_tuple hL
      exact ⟨_, rfl, h⟩
section
variable {prog : Program} {w : World} {A : Around} {E : Value → Shared → Prop} {s : Shared}
theorem call_enum_tuple {l : Addr} {items : Array Value} {n : Nat} {Q : Value → Shared → Prop} (hl : s.heap.get? l = some { cls := .type "tuple", data := .seq items n })
    (h : ∀ h', IsEnum h' (s.heap.objs.size + 1) s.heap.objs.size 0 .none → h'.IsTupleIter s.heap.objs.size l 0 → h'.objs.size = s.heap.objs.size + 2 →
      (∀ b o, s.heap.get? b = some o → h'.get? b = some o) → Q (.ref (s.heap.objs.size + 1)) { s with heap := h' }) :
    wpAny (model prog w) A (call (.type "enumerate") [.ref l]) Q E s := by
  refine callType_new PySem.F.called_enumerate (by decide) (PySem.F.typeCall_enumerate_1 _) (PySem.F.newCall_enumerate_1 _) (fun obj => PySem.F.args_object_init_2 obj _) PySem.F.entry_enumerate_new (enum_newT l items n) ⟨hl, ?_⟩
  have hz : (s.heap.push { cls := .type "tuple_iterator", data := .fields #[.ref l, .int 0 0] }).objs.size = s.heap.objs.size + 1 := Heap.size_push ..
  show _ ∧ _
  rw [hz]
  have he : IsEnum ((s.heap.push { cls := .type "tuple_iterator", data := .fields #[.ref l, .int 0 0] }).push { cls := .type "enumerate", data := .fields #[.none, .bool false, .ref s.heap.objs.size, rawInt 0, .none, .none] }) (s.heap.objs.size + 1) s.heap.objs.size 0 .none := by
    have := Heap.get?_push_size (s.heap.push { cls := .type "tuple_iterator", data := .fields #[.ref l, .int 0 0] }) (o := { cls := .type "enumerate", data := .fields #[.none, .bool false, .ref s.heap.objs.size, rawInt 0, .none, .none] }) rfl
    rw [hz] at this
    exact this
  exact ⟨⟨_, he, rfl⟩, h _ he ⟨_, Heap.get?_push_of_some _ (Heap.get?_push_size _ rfl), rfl, rfl⟩ (by rw [Heap.size_push, hz]) fun b o x => Heap.get?_push_of_some _ (Heap.get?_push_of_some _ x)⟩
theorem nextOf_tuple_item {it l : Addr} {i : Nat} {items : Array Value} {x : Value} {Q : Value → Shared → Prop} (hit : s.heap.IsTupleIter it l i) (hl : s.heap.IsTuple l items) (hx : items[i]? = some x)
    (hQ : ∀ h', h'.IsTupleIter it l (i + 1) → Heap.SameBut it s.heap h' → Q x { s with heap := h' }) : wpAny (model prog w) A (Builtin.SmallTypes.nextOf (.ref it)) Q E s := by
  obtain ⟨o, ho, hc, hd⟩ := id hit
  obtain ⟨ol, hol, _, nl, hdl⟩ := hl
  unfold Builtin.SmallTypes.nextOf
  refine wpAny_bind (wpAny_callSpecial?_slot (name := Str.ofString "__next__") hit.typeIs PySem.F.slot_tuple_iterator_next (wpAny_call_entry PySem.F.slot_tuple_iterator_next hit.typeIs PySem.F.entry_tuple_iterator_next ?_ (PySem.F.args_tuple_iterator_next_1 _)))
  show wpAny _ _ (field (.ref it) 0 >>= _) _ _ s
  refine wpAny_bind (wpAny_field ho hd (x := .ref l) rfl ?_)
  show wpAny _ _ (if (Value.ref l == Value.none) = true then _ else _) _ _ s
  rw [if_neg (show ¬ ((Value.ref l == Value.none) = true) from Bool.false_ne_true)]
  show wpAny _ _ (field (.ref it) 1 >>= _) _ _ s
  refine wpAny_bind (wpAny_field ho hd (x := .int i 0) rfl ?_)
  show wpAny _ _ (seqItems? (.ref l) >>= _) _ _ s
  refine wpAny_bind (wpAny_seqItems hol hdl ?_)
  simp only [Int.toNat_natCast, hx]
  refine wpAny_bind (wpAny_setField ho hd (by simp) (wpAny_pure ⟨x, rfl, wpAny_pure (hQ _ ?_ (Heap.SameBut.update ..))⟩))
  exact ⟨_, Heap.get?_update_self _ ho (Obj.isFreed_of_fields (Obj.data_mapFields hd _)), (Obj.cls_mapFields ..).trans hc, by rw [Obj.data_mapFields hd]; simp [rawInt]⟩
theorem nextOf_tuple_end {it l : Addr} {i : Nat} {items : Array Value} {Q : Value → Shared → Prop} (hh : A.handled = none) (hit : s.heap.IsTupleIter it l i) (hl : s.heap.IsTuple l items) (hx : items[i]? = none)
    (hE : ∀ h' e, Heap.ExtBut it s.heap h' → (∃ o, h'.get? e = some o ∧ o.cls = .type "StopIteration") → E (.ref e) { s with heap := h' }) : wpAny (model prog w) A (Builtin.SmallTypes.nextOf (.ref it)) Q E s := by
  obtain ⟨o, ho, hc, hd⟩ := id hit
  obtain ⟨ol, hol, _, nl, hdl⟩ := hl
  unfold Builtin.SmallTypes.nextOf
  refine wpAny_bind (wpAny_callSpecial?_slot (name := Str.ofString "__next__") hit.typeIs PySem.F.slot_tuple_iterator_next (wpAny_call_entry PySem.F.slot_tuple_iterator_next hit.typeIs PySem.F.entry_tuple_iterator_next ?_ (PySem.F.args_tuple_iterator_next_1 _)))
  show wpAny _ _ (field (.ref it) 0 >>= _) _ _ s
  refine wpAny_bind (wpAny_field ho hd (x := .ref l) rfl ?_)
  show wpAny _ _ (if (Value.ref l == Value.none) = true then _ else _) _ _ s
  rw [if_neg (show ¬ ((Value.ref l == Value.none) = true) from Bool.false_ne_true)]
  show wpAny _ _ (field (.ref it) 1 >>= _) _ _ s
  refine wpAny_bind (wpAny_field ho hd (x := .int i 0) rfl ?_)
  show wpAny _ _ (seqItems? (.ref l) >>= _) _ _ s
  refine wpAny_bind (wpAny_seqItems hol hdl ?_)
  simp only [Int.toNat_natCast, hx]
  refine wpAny_bind (wpAny_rule (wpAny_bind (wpAny_setField ho hd (by simp) ?_)))
  show wpAny _ _ (newExc (.type "StopIteration") [] >>= _) _ _ _
  refine wpAny_bind ?_
  simp only [newExc, newTuple]
  refine wpAny_bind (wpAny_newObj_type ?_ (by size_fits))
  refine wpAny_bind (m := firstArgMember _ _) (wpAny_of_eq (a := Value.none) (by first | rfl | (simp only [firstArgMember]; rfl)) ?_)
  refine wpAny_newObj_type ?_ (by size_fits)
  simp only [raiseNew]
  refine wpAny_bind (wpAny_handled ?_)
  first | rw [show A.in1.handled = none from hh] | rw [hh]
  refine wpAny_bind (wpAny_pure (wpAny_throw ?_))
  exact hE _ _ (((Heap.SameBut.update ..).extBut.push _).push _) ⟨_, Heap.get?_push_size _ rfl, rfl⟩
theorem enum_next_itemT {e it l : Addr} {i : Nat} {items : Array Value} {x old : Value} {Q : Value → Shared → Prop} (he : IsEnum s.heap e it i old) (hit : s.heap.IsTupleIter it l i) (hl : s.heap.IsTuple l items) (hx : items[i]? = some x) (hne : e ≠ it)
    (hQ : ∀ h', IsEnumOut h' e it ((i : Int) + 1) x s.heap.objs.size → h'.IsTupleIter it l (i + 1) → h'.get? s.heap.objs.size = some { cls := .type "tuple", data := .seq #[.int i s.toks, x] } → h'.objs.size = s.heap.objs.size + 1 →
      (∀ b o, b ≠ e → b ≠ it → s.heap.get? b = some o → h'.get? b = some o) → Q (.ref s.heap.objs.size) { s with heap := h', toks := s.toks + 1 }) :
    wpAny (model prog w) A (Builtin.«enumerate.__next__» ⟨[.ref e], []⟩) (fun fin s' => ∃ v, fin = .done (.ret v) ∧ Q v s') E s := by
  obtain ⟨hp, g, d, tk, os⟩ := s
  show wpAny _ _ (field (.ref e) 2 >>= _) _ _ _
  refine wpAny_bind (wpAny_field he rfl (x := .ref it) rfl ?_)
  refine wpAny_bind (nextOf_tuple_item hit hl hx fun h₁ hit₁ hs₁ => ?_)
  replace hs₁ : Heap.SameBut it hp h₁ := hs₁
  have he₁ : IsEnum h₁ e it i old := (hs₁.2 e hne).trans he
  show wpAny _ _ (field (.ref e) 3 >>= _) _ _ ⟨h₁, g, d, tk, os⟩
  refine wpAny_bind (wpAny_field he₁ rfl (x := rawInt i) rfl ?_)
  show wpAny _ _ (field (.ref e) 4 >>= _) _ _ ⟨h₁, g, d, tk, os⟩
  refine wpAny_bind (wpAny_field he₁ rfl (x := .none) rfl ?_)
  show wpAny _ _ (mkInt i >>= _) _ _ ⟨h₁, g, d, tk, os⟩
  refine wpAny_bind (wpAny_mkInt ?_)
  show wpAny _ _ (setField (.ref e) 3 (rawInt ((i : Int) + 1)) >>= _) _ _ ⟨h₁, g, d, tk + 1, os⟩
  refine wpAny_bind (wpAny_setField_rec he₁ (by simp) fun h₂ he₂ hs₂ => ?_)
  replace hs₂ : Heap.SameBut e h₁ h₂ := hs₂
  replace he₂ : IsEnum h₂ e it ((i : Int) + 1) old := he₂
  show wpAny _ _ (setField (.ref e) 4 .none >>= _) _ _ ⟨h₂, g, d, tk + 1, os⟩
  refine wpAny_bind (wpAny_setField_rec he₂ (by simp) fun h₃ he₃ hs₃ => ?_)
  replace hs₃ : Heap.SameBut e h₂ h₃ := hs₃
  replace he₃ : IsEnum h₃ e it ((i : Int) + 1) old := he₃
  show wpAny _ _ (newTuple [.int i tk, x] >>= _) _ _ ⟨h₃, g, d, tk + 1, os⟩
  refine wpAny_bind (wpAny_newTuple ?_)
  have he₄ : IsEnum (h₃.push { cls := .type "tuple", data := .seq #[.int i tk, x] }) e it ((i : Int) + 1) old := Heap.get?_push_of_some _ he₃
  generalize hh₄ : h₃.push { cls := .type "tuple", data := .seq #[.int i tk, x] } = h₄ at he₄
  have hsz : h₃.objs.size = hp.objs.size := by rw [hs₃.1, hs₂.1, hs₁.1]
  have hel : e < hp.objs.size := Heap.lt_size he
  have ht₄ : h₄.get? hp.objs.size = some { cls := .type "tuple", data := .seq #[.int i tk, x] } := by rw [← hh₄, ← hsz]; exact Heap.get?_push_size _ rfl
  have hz₄ : h₄.objs.size = hp.objs.size + 1 := by rw [← hh₄, Heap.size_push, hsz]
  have hk₄ : ∀ b o, b ≠ e → b ≠ it → hp.get? b = some o → h₄.get? b = some o := fun b o hbe hbi hb => by
    rw [← hh₄]; exact Heap.get?_push_of_some _ (hs₃.extBut b o hbe (hs₂.extBut b o hbe (hs₁.extBut b o hbi hb)))
  have hit₄ : h₄.IsTupleIter it l (i + 1) := by
    rw [← hh₄]
    obtain ⟨o, ho, r⟩ := (hit₁.extBut hs₂.extBut (Ne.symm hne)).extBut hs₃.extBut (Ne.symm hne)
    exact ⟨o, Heap.get?_push_of_some _ ho, r⟩
  show wpAny _ _ (Builtin.SmallTypes.ownedTupleIsFree (.ref e) >>= _) _ _ ⟨h₄, g, d, tk + 1, os⟩
  rw [hsz]
  clear hh₄ he₃ hs₃ he₂ hs₂ he₁ hs₁ hit₁ hsz h₃ h₂ h₁
  refine wpAny_bind ?_
  unfold Builtin.SmallTypes.ownedTupleIsFree
  refine wpAny_bind (wpAny_field he₄ rfl (x := .none) rfl (wpAny_pure ?_))
  simp only [if_true]
  refine wpAny_bind (wpAny_rule ?_)
  refine wpAny_bind (wpAny_field he₄ rfl (x := old) rfl ?_)
  refine wpAny_bind (wpAny_setField_rec he₄ (by simp) fun h₅ he₅ hs₅ => ?_)
  replace hs₅ : Heap.SameBut e h₄ h₅ := hs₅
  replace he₅ : IsEnum h₅ e it ((i : Int) + 1) x := he₅
  show wpAny _ _ (Builtin.SmallTypes.ownedTupleHandOut (.ref e) (.ref hp.objs.size) >>= _) _ _ ⟨h₅, g, d, tk + 1, os⟩
  refine wpAny_bind ?_
  unfold Builtin.SmallTypes.ownedTupleHandOut
  refine wpAny_bind (wpAny_setField_rec he₅ (by simp) fun h₆ he₆ hs₆ => ?_)
  replace hs₆ : Heap.SameBut e h₅ h₆ := hs₆
  replace he₆ : IsEnumOut h₆ e it ((i : Int) + 1) x hp.objs.size := he₆
  refine wpAny_setField_rec he₆ (by simp) fun h₇ he₇ hs₇ => ?_
  replace hs₇ : Heap.SameBut e h₆ h₇ := hs₇
  replace he₇ : IsEnumOut h₇ e it ((i : Int) + 1) x hp.objs.size := he₇
  refine wpAny_bind (wpAny_letGo (wpAny_pure ⟨_, rfl, hQ h₇ he₇ ?_ ?_ ?_ ?_⟩))
  · exact ((hit₄.extBut hs₅.extBut (Ne.symm hne)).extBut hs₆.extBut (Ne.symm hne)).extBut hs₇.extBut (Ne.symm hne)
  · exact hs₇.extBut _ _ (Nat.ne_of_gt hel) (hs₆.extBut _ _ (Nat.ne_of_gt hel) (hs₅.extBut _ _ (Nat.ne_of_gt hel) ht₄))
  · rw [hs₇.1, hs₆.1, hs₅.1, hz₄]
  · exact fun b o hbe hbi hb => hs₇.extBut b o hbe (hs₆.extBut b o hbe (hs₅.extBut b o hbe (hk₄ b o hbe hbi hb)))
theorem pyNext_enumT_item {e it l : Addr} {i : Nat} {items : Array Value} {x old : Value} {Q : Option Value → Shared → Prop} (he : IsEnum s.heap e it i old) (hit : s.heap.IsTupleIter it l i) (hl : s.heap.IsTuple l items) (hx : items[i]? = some x) (hne : e ≠ it)
    (hQ : ∀ h', IsEnumOut h' e it ((i : Int) + 1) x s.heap.objs.size → h'.IsTupleIter it l (i + 1) → h'.get? s.heap.objs.size = some { cls := .type "tuple", data := .seq #[.int i s.toks, x] } → h'.objs.size = s.heap.objs.size + 1 →
      (∀ b o, b ≠ e → b ≠ it → s.heap.get? b = some o → h'.get? b = some o) → Q (some (.ref s.heap.objs.size)) { s with heap := h', toks := s.toks + 1 }) :
    wpAny (model prog w) A (pyNext (.ref e)) Q E s := by
  have hT : s.TypeIs (.ref e) "enumerate" := ⟨_, he, rfl⟩
  unfold pyNext
  exact wpAny_bind (wpAny_attempt (wpAny_callSpecial?_slot (name := Str.ofString "__next__") hT PySem.F.slot_enumerate_next (wpAny_call_entry PySem.F.slot_enumerate_next hT PySem.F.entry_enumerate_next
    (enum_next_itemT he hit hl hx hne fun h' a b c d k => wpAny_pure (hQ h' a b c d k)) (PySem.F.args_enumerate_next_1 _))))
theorem pyNext_enumT_end {e it l : Addr} {i : Nat} {items : Array Value} {old : Value} {Q : Option Value → Shared → Prop} (hh : A.handled = none) (he : IsEnum s.heap e it i old) (hit : s.heap.IsTupleIter it l i) (hl : s.heap.IsTuple l items) (hx : items[i]? = none)
    (hQ : ∀ h', Heap.ExtBut it s.heap h' → Q none { s with heap := h' }) : wpAny (model prog w) A (pyNext (.ref e)) Q E s := by
  have hT : s.TypeIs (.ref e) "enumerate" := ⟨_, he, rfl⟩
  unfold pyNext
  refine wpAny_bind (wpAny_attempt (wpAny_callSpecial?_slot (name := Str.ofString "__next__") hT PySem.F.slot_enumerate_next (wpAny_call_entry PySem.F.slot_enumerate_next hT PySem.F.entry_enumerate_next ?_ (PySem.F.args_enumerate_next_1 _))))
  show wpAny _ _ (field (.ref e) 2 >>= _) _ _ _
  refine wpAny_bind (wpAny_field he rfl (x := .ref it) rfl ?_)
  refine wpAny_bind (nextOf_tuple_end hh hit hl hx fun h' x he' hx' => ?_)
  obtain ⟨o, ho, hc⟩ := hx'
  refine wpAny_bind (wpAny_isInstance (T := "StopIteration") (b := true) ⟨o, ho, hc⟩ isSubtype_stop ?_)
  exact wpAny_pure (hQ _ he')
end
theorem WalksT.enumT {prog : Program} {w : World} {A : Around} (hh : A.handled = none) (e it l : Addr) (hei : e ≠ it) (hle : l ≠ e) (hli : l ≠ it) (items : Array Value) :
    WalksT prog w A e [e, it, l] [e, it] items.size (fun i vals => ∃ t x, items[i]? = some x ∧ vals = #[.int i t, x])
      (fun i h => (∃ old, IsEnum h e it i old) ∧ h.IsTupleIter it l i ∧ h.IsTuple l items)
      (fun i T h => (∃ x, IsEnumOut h e it ((i : Int) + 1) x T) ∧ h.IsTupleIter it l (i + 1) ∧ h.IsTuple l items ∧ T ≠ e ∧ T ≠ it) where
  sub := fun b hb => by
    simp only [List.mem_cons, List.not_mem_nil, or_false] at hb ⊢
    rcases hb with rfl | rfl
    · exact .inl rfl
    · exact .inr (.inl rfl)
  frame := fun i h h' hst hk => by
    obtain ⟨⟨old, he⟩, hit, hl⟩ := hst
    exact ⟨⟨old, hk e (by simp) _ he⟩, hit.at fun o x => hk it (by simp) o x, hl.at fun o x => hk l (by simp) o x⟩
  item := fun i s Q E hi hst hQ => by
    obtain ⟨⟨old, he⟩, hit, hl⟩ := hst
    have hx : items[i]? = some items[i] := Array.getElem?_eq_getElem hi
    refine pyNext_enumT_item he hit hl hx hei fun h' ho hit' hT hsz hk => ?_
    have helt : e < s.heap.objs.size := Heap.lt_size he
    have hilt : it < s.heap.objs.size := by obtain ⟨_, x, _⟩ := hit; exact Heap.lt_size x
    exact hQ s.heap.objs.size #[.int i s.toks, items[i]] h' (s.toks + 1) ⟨_, _, hx, rfl⟩ (Nat.le_refl _) ⟨_, hT, rfl, _, rfl⟩
      ⟨⟨_, ho⟩, hit', hl.at fun o x => hk l o hle hli x, Nat.ne_of_gt helt, Nat.ne_of_gt hilt⟩
      fun b o hb x => hk b o (fun e' => hb (by simp [e'])) (fun e' => hb (by simp [e'])) x
  go := fun elts k pos i T s Q E hm hQ => by
    obtain ⟨⟨x, ho⟩, hit, hl, hTe, hTi⟩ := hm
    refine wpAny_letOwnedTupleGo_enum ho fun h' he' hs' => hQ h' ⟨⟨x, by simpa using he'⟩, hit.at fun o y => (hs'.2 it hei.symm).trans y, hl.at fun o y => (hs'.2 l hle).trans y⟩ fun b o hb y => ?_
    exact (hs'.2 b fun e' => hb (by simp [e'])).trans y
  apart := fun i T h hm hT => by
    obtain ⟨_, _, _, hTe, hTi⟩ := hm
    simp only [List.mem_cons, List.not_mem_nil, or_false] at hT
    exact hT.elim hTe hTi
  done := fun s Q E hst hQ => by
    obtain ⟨⟨old, he⟩, hit, hl⟩ := hst
    exact pyNext_enumT_end hh he hit hl (Array.getElem?_eq_none (Nat.le_refl _)) fun h' hx => hQ h' s.toks fun b o hb y => hx b o (fun e' => hb (by simp [e'])) y
  self := fun i s Q E hst hQ => by
    obtain ⟨⟨old, he⟩, _, _⟩ := hst
    exact wpAny_pyIter_enum he hQ
end Mine
end
section
open PySem PySem.W PyProof.Rows PySem.Calls
set_option Elab.async false
set_option maxRecDepth 100000
set_option linter.unusedVariables false
set_option linter.unusedSimpArgs false
set_option maxHeartbeats 4000000
namespace Mine
section
variable {w : World} {k : Nat} {sc : Sc} {ow : Own} {ρ : Rho}
theorem nm_enumerate {sc : Sc} (h : sc.lookup (Str.ofString "enumerate") = some .globalImplicit) : Nm w sc (Str.ofString "enumerate") (.type "enumerate") := .bi h rfl rfl (by decide +kernel) (by decide +kernel)
/-- for x, y in enumerate(e), e a written tuple of ints -/
theorem Ex.forEnum {x y : Str} {px py pt pos npos cpos : Pos} {n : Nat} {e : Expr} {body : List Stmt} {ns : List Int} (ows : Nat → Own) (ρs : Nat → Rho) (nm : Nm w sc (Str.ofString "enumerate") (.type "enumerate")) (he : Ev w k sc [] e (.tuple (ns.map .int)))
    (h0 : ows 0 = ow) (hs0 : Sub (ρs 0) ρ) (hx : stores sc x) (hy : stores sc y) (hw : ∀ i, (ows i).isSome = ow.isSome) (hnx : ∀ i, notOwn (ows i) x = true) (hny : ∀ i, notOwn (ows i) y = true)
    (hbody : ∀ i a, ns[i]? = some a → Exs w k sc (ows i) (upd (upd (ρs i) x (.int (i : Nat))) y (.int a)) body (.nxt (ows (i + 1)) (ρs (i + 1))))
    (hse : isStarred e = false := by rfl) (hs : ∀ env x, foldedSetIterable (.Call (.Name (Str.ofString "enumerate") npos) [e] [] cpos) env x = pure x := by intro _ _; rfl) :
    Ex w k sc ow ρ (.For (.Tuple [.Name x px, .Name y py] n pt) (.Call (.Name (Str.ofString "enumerate") npos) [e] [] cpos) body [] pos) (.nxt (ows ns.length) (ρs ns.length)) := fun prog A s env B h₀ M oa R g F => by
  refine wpAny_For ?_ (hs env)
  rw [eval_callName]
  refine wpAny_bind (nm.go (F.g g) F.fm.vars ?_)
  have h : Evs w k sc [] [e] [.tuple (ns.map .int)] := Evs.cons he Evs.nil hse
  have h := h prog A s env _ cpos R (F.g g) (F.fm.vars.noB Sub.nil fun _ _ h => by cases h)
  rw [star_cons hse env] at h ⊢
  refine callWith_of (P := G w) rfl (fun h gh => keepsOk.type _ h gh) (evalArgs_plain (wpAny_mono h (fun vs s₁ h₁ => ⟨(F.g g).keeps h₁.1.heap, ?_⟩) fun _ _ x => x))
  obtain ⟨kp, rs⟩ := h₁
  cases rs with
  | cons r1 r2 =>
  cases r2
  obtain ⟨l, items, nn, rfl, hoB, _, rs⟩ := r1.tuple_inv
  have ho : s₁.heap.get? l = some { cls := .type "tuple", data := .seq items nn } := hoB.get
  have hln : s.heap.get? l = none := hoB.ok.elim (fun q => q.elim) id
  have hz : items.size = ns.length := by have := rs.length; rw [List.length_map] at this; rw [← this]; simp
  have hlt : l < s₁.heap.objs.size := Heap.lt_size ho
  refine call_enum_tuple ho fun h₂ hE hI hsz hk => ?_
  refine wpAny_pyIter_enum hE ?_
  generalize hit : s₁.heap.objs.size = it at *
  have kp₂ : Kp s { s₁ with heap := h₂ } := kp.trans ⟨h₂, s₁.toks, rfl, hk⟩
  have W : WalksT prog w A (it + 1) [it + 1, it, l] [it + 1, it] items.size _ _ _ := WalksT.enumT R.hd (it + 1) it l (Nat.succ_ne_self _) (Nat.ne_of_lt (Nat.lt_succ_of_lt hlt)) (Nat.ne_of_lt hlt) items
  have new_it : s.heap.get? it = none := kp_size kp _ (by rw [hit]; exact Nat.le_refl _)
  have new_e : s.heap.get? (it + 1) = none := kp_size kp _ (by rw [hit]; exact Nat.le_succ _)
  have hfp : ∀ b ∈ ([it + 1, it, l] : List Addr), s.heap.get? b = none := fun b hb => by
    simp only [List.mem_cons, List.not_mem_nil, or_false] at hb
    rcases hb with rfl | rfl | rfl
    · exact new_e
    · exact new_it
    · exact hln
  have hwn : ∀ b ∈ ([it + 1, it] : List Addr), s.heap.get? b = none := fun b hb => hfp b (W.sub b hb)
  have F₂ := F.next kp₂
  have hfM : ∀ b ∈ ([it + 1, it, l] : List Addr), ¬ M b := fun b hb hm => by
    obtain ⟨o, q1, _⟩ := F.fm.mobj b hm
    rw [hfp b hb] at q1; cases q1
  have hfo : ow.isSome = true → ∀ b ∈ ([it + 1, it, l] : List Addr), b ≠ oa := fun e b hb q => by
    obtain ⟨⟨z, zs⟩, ez⟩ := Option.isSome_iff_exists.mp e
    obtain ⟨vs, _, ⟨n, h2⟩, _⟩ := F.own z zs ez
    rw [← q, hfp b hb] at h2; cases h2
  have hfMO : ∀ b ∈ ([it + 1, it, l] : List Addr), ¬ MO M ow oa b := fun b hb q => q.elim (hfM b hb) fun q => hfo q.1 b hb q.2
  have h0w : ∀ a ∈ ([it + 1, it] : List Addr), h₀.get? a = none := fun a ha => by
    cases e : h₀.get? a with
    | none => rfl
    | some o => have := F.fm.base a o e; rw [hwn a ha] at this; cases this
  have hBw : ∀ {i : Nat} {h : Heap}, ((∃ old, IsEnum h (it + 1) it i old) ∧ h.IsTupleIter it l i ∧ h.IsTuple l items) → ∀ a o, a ∈ ([it + 1, it] : List Addr) → h.get? a = some o → SeqObj o → ¬ B a := fun st a o ha e sq => by
    simp only [List.mem_cons, List.not_mem_nil, or_false] at ha
    rcases ha with rfl | rfl
    · obtain ⟨old, q⟩ := st.1
      unfold IsEnum at q
      rw [e] at q; cases q
      exact absurd sq (notSeq_cls rfl (by decide) (by decide))
    · obtain ⟨o', q1, q2, _⟩ := st.2.1
      rw [e] at q1; cases q1
      exact absurd sq (notSeq_cls q2 (by decide) (by decide))
  refine codeAny_forLoop_any (fun m s' => ∃ i, i ≤ items.size ∧ m = items.size + 1 - i ∧ Fs h₀ B env sc M (ows i) oa (ρs i) s' ∧ ((∃ old, IsEnum s'.heap (it + 1) it i old) ∧ s'.heap.IsTupleIter it l i ∧ s'.heap.IsTuple l items) ∧ (∃ h' tk, s' = { s with heap := h', toks := tk }) ∧ ∀ b o, b ∉ ([it + 1, it] : List Addr) → ¬ MO M ow oa b → h₂.get? b = some o → s'.heap.get? b = some o)
    (fun m s' hI' => ?_) (items.size + 1) ⟨0, Nat.zero_le _, rfl, by rw [h0]; exact F₂.weaken hs0, ⟨⟨.none, hE⟩, hI, ⟨_, hk _ _ ho, rfl, _, rfl⟩⟩, (by obtain ⟨h', tk, e, _⟩ := kp₂; exact ⟨h', tk, e⟩), fun _ _ _ _ e => e⟩
  obtain ⟨i, hi, rfl, F₃, st, ⟨H, T, rfl⟩, kept⟩ := hI'
  by_cases hlt' : i < items.size
  · refine W.item i _ _ _ hlt' st fun TT vals h' tk hv hTT hT mid hk' => ?_
    obtain ⟨t, xv, hxv, rfl⟩ := hv
    refine W.go _ _ _ i TT _ _ _ mid fun h'' st' hk'' => ?_
    have hTw := W.apart i TT h' mid
    have hT'' : h''.IsTuple TT #[.int i t, xv] := hT.at fun o e => hk'' _ o hTw e
    have hkk : ∀ b o, b ∉ ([it + 1, it] : List Addr) → H.get? b = some o → h''.get? b = some o := fun b o hb e => hk'' b o hb (hk' b o hb e)
    have F₄ := F₃.moved (tk := tk) hkk (hBw st) (fun a ha => hfM a (W.sub a ha)) h0w (fun e hm => hfo (by rw [← hw i]; exact e) oa (W.sub _ hm) rfl) fun a ha e => F.cl a (hwn a ha)
    obtain ⟨d, hd, rd⟩ := rs.get i xv (by simpa using hxv)
    have hdn : ∃ a, ns[i]? = some a ∧ d = .int a := by
      rw [List.getElem?_map] at hd
      cases e : ns[i]? with
      | none => rw [e] at hd; cases hd
      | some a => rw [e] at hd; cases hd; exact ⟨a, rfl, rfl⟩
    obtain ⟨a, ha, rfl⟩ := hdn
    cases rd with
    | int _ u =>
    refine wpAny_assign_Tuple R.hd hT'' rfl rfl fun h₃ hx₃ => ?_
    have kp₃ := kp_ext (s := { s with heap := h'', toks := tk }) hx₃
    show wpAny _ _ (assignInOrder [PySem.assign (.Name x px) env, PySem.assign (.Name y py) env] [Value.int i t, Value.int a u]) _ _ _
    refine wpAny_mono (E := NoE) ?_ (fun _ _ h => h) (fun _ _ e => e.elim)
    refine Fs.store2 (F₄.next kp₃) (fun s Q h => wpAny_assign_Name h) (fun s Q h => wpAny_assign_Name h) hx hy (hnx i) (hny i) (.int _ _) (.int _ _) fun s₃ kb F₅ => ?_
    refine wpAny_mono (hbody i a ha prog A s₃ env B h₀ M oa R g F₅) (fun fl s₄ h₄ => ?_) fun _ _ e => e.elim
    obtain ⟨rfl, kb₂, F₆⟩ := h₄
    have keep4 : ∀ b o, ¬ MO M ow oa b → h''.get? b = some o → s₄.heap.get? b = some o := fun b o hb e => kb₂.heap b o (fun q => hb ((MO.iff (hw i)).mp q)) (kb.heap b o (fun q => hb (.inl q)) (kp₃.heap b o e))
    refine ⟨items.size + 1 - (i + 1), by omega, i + 1, hlt', rfl, F₆, W.frame _ _ _ st' fun b hb o e => keep4 b o (hfMO b hb) e, ?_, fun b o hb hm e => keep4 b o hm (hkk b o hb (kept b o hb hm e))⟩
    obtain ⟨H1, t1, q1, _⟩ := kb
    obtain ⟨H2, t2, q2, _⟩ := kb₂
    have e3 : s₃ = { s with heap := H1, toks := t1 } := by rw [q1]
    subst e3
    exact ⟨H2, t2, q2⟩
  · have hin : i = items.size := by omega
    subst hin
    refine W.done _ _ _ st fun h' tk hk' => wpAny_execs_nil ?_
    rw [← hz]
    refine ⟨rfl, ⟨h', tk, rfl, fun b o hb e => ?_⟩, ?_⟩
    · have hbw : b ∉ ([it + 1, it] : List Addr) := fun hm => by rw [hwn b hm] at e; cases e
      exact hk' b o hbw (kept b o hbw hb (kp₂.heap b o e))
    · exact F₃.moved (tk := tk) hk' (hBw st) (fun a ha => hfM a (W.sub a ha)) h0w (fun e hm => hfo (by rw [← hw _]; exact e) oa (W.sub _ hm) rfl) fun a ha e => F.cl a (hwn a ha)
end
end Mine
end
section
open PySem PySem.W PyProof.Rows PySem.Calls PySem.Builtin PySem.Builtin.Int
set_option Elab.async false
set_option maxRecDepth 100000
set_option linter.unusedVariables false
set_option linter.unusedSimpArgs false
set_option maxHeartbeats 4000000
namespace Mine
/-! the names that a script tells -/
def starts : List Int := [1, 34, 35, 17, 9]
def pkI (ns : List Int) (lo hi st : Option Int) : List Int := (sliceRange (sliceBounds lo hi st ns.length).1 (sliceBounds lo hi st ns.length).2.1 (sliceBounds lo hi st ns.length).2.2).filterMap (ns[·]?)
theorem pick_ints (ns : List Int) (lo hi st : Option Int) : pick (ns.map .int) lo hi st = (pkI ns lo hi st).map .int := by
  unfold pick pkI
  rw [List.length_map, List.map_filterMap]
  congr 1
  funext i
  rw [List.getElem?_map]
def codeAt (ns : List Int) (i : Nat) (a : Int) : Cd := codeOf (a + (pkI ns (some (i : Int)) (some 60) (some 5)).sum)
def inN (cs : List Cd) (c : Cd) : Bool := (nms cs).any fun y => PyData.eqv y (nmS c)
def addN (cs : List Cd) (c : Cd) : List Cd := if inN cs c then cs else cs ++ [c]
noncomputable def csAt (ns : List Int) : Nat → List Cd
  | 0 => []
  | i + 1 => addN (csAt ns i) (codeAt ns i (starts.getD i 0))
theorem eqv_self : ∀ c ∈ codes, PyData.eqv (nmS c) (nmS c) = true := by decide +kernel
structure Nm5 (cs : List Cd) : Prop where
  mem : ∀ c ∈ cs, c ∈ codes
  nodup : cs.Nodup
theorem csAt_ok (ns : List Int) : ∀ i, Nm5 (csAt ns i) ∧ (csAt ns i).length ≤ i ∧ (0 < i → csAt ns i ≠ [])
  | 0 => ⟨⟨fun _ h => absurd h List.not_mem_nil, List.nodup_nil⟩, Nat.le_refl _, fun h => absurd h (Nat.lt_irrefl _)⟩
  | i + 1 => by
    obtain ⟨h1, h2, h3⟩ := csAt_ok ns i
    show Nm5 (addN _ _) ∧ (addN _ _).length ≤ i + 1 ∧ (0 < i + 1 → addN _ _ ≠ [])
    generalize hc : codeAt ns i (starts.getD i 0) = c
    have hm : c ∈ codes := by rw [← hc]; exact codeOf_mem _
    unfold addN
    cases hb : inN (csAt ns i) c with
    | true =>
      simp only [if_true]
      refine ⟨h1, by omega, fun _ e => ?_⟩
      rw [e] at hb
      cases hb
    | false =>
      simp only [Bool.false_eq_true, if_false]
      refine ⟨⟨fun d hd => ?_, ?_⟩, by rw [List.length_append]; show _ + 1 ≤ _; omega, fun _ e => by simp at e⟩
      · rcases List.mem_append.mp hd with hd | hd
        · exact h1.mem d hd
        · rw [List.mem_singleton.mp hd]; exact hm
      · refine List.nodup_append.mpr ⟨h1.nodup, by simp, fun a ha b hb' e => ?_⟩
        rw [List.mem_singleton.mp hb'] at e
        subst e
        have : inN (csAt ns i) a = true := List.any_eq_true.mpr ⟨nmS a, List.mem_map.mpr ⟨a, ha, rfl⟩, eqv_self a hm⟩
        rw [hb] at this; cases this
theorem code_shaped {c : Cd} (h : c ∈ codes) : SeqAt.shaped (nmS c) = true := (code_facts c h).2.2.2.2.1
theorem names_layable : ∀ cs : List Cd, (∀ c ∈ cs, c ∈ codes) → PyData.canLayAll0 (nms cs) = true
  | [], _ => rfl
  | c :: cs, h => by
    show (PyData.canLay0 (nmS c) && PyData.canLayAll0 (nms cs)) = true
    rw [SeqAt.canLay_of_shaped (code_shaped (h c List.mem_cons_self)), names_layable cs fun d hd => h d (List.mem_cons_of_mem _ hd)]
    rfl
theorem shaped_nms {cs : List Cd} (h : ∀ c ∈ cs, c ∈ codes) : SeqAt.shaped (.list (nms cs)) = true := by
  unfold SeqAt.shaped
  rw [Bool.and_eq_true]
  refine ⟨names_layable cs h, decide_eq_true ?_⟩
  have : ∀ fs : List Cd, PyData.depthAll (nms fs) ≤ 1 := fun fs => by
    induction fs with
    | nil => simp [PyData.depthAll]
    | cons a fs ih =>
      show max _ (PyData.depthAll (nms fs)) ≤ 1
      exact Nat.max_le.mpr ⟨by simp [PyData.depth], ih⟩
  have := this cs
  simp only [PyData.depth]
  omega
abbrev yN : Str := Str.ofString "names"
abbrev yS : Str := Str.ofString "script"
abbrev scL : Sc := fnScope (topSt 18)
section
variable {w : World} {k : Nat} {sc : Sc} {ρ : Rho}
theorem nm_lname {sc : Sc} (h : sc.lookup (Str.ofString "_law_name") = some .globalImplicit) : Nm w sc (Str.ofString "_law_name") (.ref 97) := .mod h rfl (by decide +kernel)
theorem nm_sum {sc : Sc} (h : sc.lookup (Str.ofString "sum") = some .globalImplicit) : Nm w sc (Str.ofString "sum") (.builtin "sum") := .bi h rfl rfl (by decide +kernel) (by decide +kernel)
theorem Ev.sliceI {value : Expr} {lo hi st : Option Expr} {p pos : Pos} {ns : List Int} {l u t : Option Int} (h : Ev w k sc ρ value (.list (ns.map .int))) (hl : Pt w k sc ρ lo l) (hu : Pt w k sc ρ hi u) (ht : Pt w k sc ρ st t) (h0 : t ≠ some 0) (hsz : ns.length ≤ 1000) :
    Ev w k sc ρ (.Subscript value (.Slice lo hi st p) pos) (.list ((pkI ns l u t).map .int)) := by
  rw [← pick_ints]
  exact Ev.slice h hl hu ht h0 (by rw [List.length_map]; have := szl; omega)
theorem names_loop {ns : List Int} (hns : ns.length ≤ 1000) : Ex w 3 scL (some (yN, [])) [(yS, .list (ns.map .int))] ((fnBody (topSt 18)).getD 1 (.Pass ⟨0, 0, 0, 0⟩)) (.nxt (some (yN, nms (csAt ns 5))) [(yS, .list (ns.map .int))]) := by
  refine Ex.forEnum (ns := starts) (fun i => some (yN, nms (csAt ns i))) (fun _ => [(yS, .list (ns.map .int))]) (nm_enumerate rfl) ?_ rfl Sub.rfl' (.inl rfl) (.inl rfl) (fun _ => rfl) (fun _ => by show (!(yN == Str.ofString "k")) = true; decide +kernel) (fun _ => by show (!(yN == Str.ofString "start")) = true; decide +kernel) fun i a ha => ?_
  · exact Ev.tuple (Evs.cons Ev.int (Evs.cons Ev.int (Evs.cons Ev.int (Evs.cons Ev.int (Evs.cons Ev.int Evs.nil))))) (show 5 ≤ 1000 by decide)
  have hgd : starts.getD i 0 = a := by rw [List.getD_eq_getElem?_getD, ha]; rfl
  refine Exs.weaken (ρ₁ := upd (upd (upd [(yS, .list (ns.map .int))] (Str.ofString "k") (.int (i : Nat))) (Str.ofString "start") (.int a)) (Str.ofString "name") (nmS (codeAt ns i a))) ?_ (Sub.cons rfl Sub.nil)
  refine Exs.cons (Ex.assign (d := nmS (codeAt ns i a)) (Ev.call (nm_lname rfl) (keepsOk.def rfl) (Evs.cons (Ev.binop (Ev.name rfl) (Ev.call (nm_sum rfl) keepsOk.builtin (Evs.cons (Ev.sliceI (Ev.name rfl) (Pt.some (Ev.name rfl)) (Pt.some Ev.int) (Pt.some Ev.int) (by decide) hns) Evs.nil) Fn.sum) Op2.addI) Evs.nil) (Fn.mono (lname_spec _) (by decide))) (.inl rfl) (by show (!(yN == Str.ofString "name")) = true; decide +kernel)) ?_
  have hst : csAt ns (i + 1) = addN (csAt ns i) (codeAt ns i a) := by rw [← hgd]; rfl
  show Exs w 3 scL (some (yN, nms (csAt ns i))) _ _ (.nxt (some (yN, nms (csAt ns (i + 1)))) _)
  rw [hst]
  generalize hcs : csAt ns i = cs
  have hcm : codeAt ns i a ∈ codes := codeOf_mem _
  have hcsm : ∀ c ∈ cs, c ∈ codes := hcs ▸ (csAt_ok ns i).1.mem
  generalize codeAt ns i a = c at *
  have tst : Ts w 3 scL (full (some (yN, nms cs)) (upd (upd (upd [(yS, .list (ns.map .int))] (Str.ofString "k") (.int (i : Nat))) (Str.ofString "start") (.int a)) (Str.ofString "name") (nmS c))) (.Compare (.Name (Str.ofString "name") ⟨119, 11, 119, 15⟩) [.NotIn] [.Name yN ⟨119, 23, 119, 28⟩] ⟨119, 11, 119, 28⟩) (!inN cs c) :=
    Ts.cmp (Ev.name rfl) (Ev.name rfl) (Cm.notInL (code_shaped hcm) (shaped_nms hcsm))
  unfold addN
  cases hb : inN cs c with
  | true =>
    rw [hb] at tst
    simp only [if_true]
    exact Exs.cons (Ex.ite tst (fun e => by cases e) fun _ => Exs.nil) Exs.nil
  | false =>
    rw [hb] at tst
    simp only [Bool.false_eq_true, if_false]
    refine Exs.cons (Ex.ite tst (fun _ => Exs.cons ?_ Exs.nil) fun e => by cases e) Exs.nil
    rw [show nms (cs ++ [c]) = nms cs ++ [nmS c] by rw [nms, List.map_append]; rfl]
    refine Ex.append (Ev.name rfl) ?_
    have := (csAt_ok ns i).2.1
    rw [hcs] at this
    have hi : i < 5 := (List.getElem?_eq_some_iff.mp ha).1
    rw [List.length_map]
    have := szl
    omega
end
end Mine
end
section
open PySem PySem.W PyProof.Rows PySem.Calls PySem.Builtin PySem.Builtin.Int
set_option Elab.async false
set_option maxRecDepth 100000
set_option linter.unusedVariables false
set_option linter.unusedSimpArgs false
set_option maxHeartbeats 4000000
namespace Mine
/-! rules, held, due -/
def rowR (cs : List Cd) (c : Cd) : List PyData := (cs.map fun o => PyData.str (dot ++ o.str)) ++ [.str (Txt.upper c.str), .str loc, .str (dot ++ tailS c)]
def rulesD (cs : List Cd) : List PyData := cs.map fun c => .list (rowR cs c)
def bRow (cs : List Cd) (c : Cd) : List Bool := cs.map (Un c) ++ [true, same c.str loc, false]
abbrev bD (bs : List Bool) : PyData := .list (bs.map .bool)
def heldD (cs : List Cd) : List PyData := cs.map fun c => bD (bRow cs c)
def dotF : PyData → PyData
  | .str x => .str (dot ++ x)
  | _ => .none
def isStr : Option PyData → Str → Bool
  | some (.str x), y => x == y
  | _, _ => false
theorem isStr_eq {o : Option PyData} {y : Str} (h : isStr o y = true) : o = some (.str y) := by
  unfold isStr at h
  split at h
  · rw [beq_iff_eq.mp h]
  · cases h
theorem tail_pick : ∀ c ∈ codes, isStr (pick (c.parts.map PyData.str) (some (-2)) none none)[0]? (tailS c) = true ∧ (tailS c).length ≤ 20 := by decide +kernel
abbrev rhoA (S : List PyData) (cs : List Cd) (mode : Int) (W : Nat) : Rho := [(yS, .list S), (yN, .list (nms cs)), (Str.ofString "mode", .int mode), (Str.ofString "width", Nn W), (Str.ofString "base", Nn (2 ^ W))]
def st18 (i : Nat) : Stmt := (fnBody (topSt 18)).getD i (.Pass ⟨0, 0, 0, 0⟩)
def decU : PyData → Cd
  | .str y => decS (.str (Txt.lower y))
  | _ => ⟨[], 0⟩
theorem decU_up : ∀ c ∈ codes, decU (.str (Txt.upper c.str)) = c := fun c hc => by
  show decS (.str (Txt.lower (Txt.upper c.str))) = c
  rw [(name_low c hc).1]
  exact decS_nm c hc
noncomputable def gF (c : Cd) : PyData → PyData
  | .str y => .bool (udm c.str (Txt.lower y) (ipN c) ((sees (Txt.lower y)).getD false))
  | _ => .none
def rowC (d : PyData) : Cd := match d with
  | .list xs => decU (xs.getD (xs.length - 3) .none)
  | _ => ⟨[], 0⟩
theorem rowR_len (cs : List Cd) (c : Cd) : (rowR cs c).length = cs.length + 3 := by unfold rowR; simp
theorem rowR_up (cs : List Cd) (c : Cd) : (rowR cs c)[cs.length]? = some (.str (Txt.upper c.str)) := by
  unfold rowR
  rw [List.getElem?_append_right (by rw [List.length_map]; exact Nat.le_refl _), List.length_map, Nat.sub_self]
  rfl
theorem rowC_row (cs : List Cd) {c : Cd} (hc : c ∈ codes) : rowC (.list (rowR cs c)) = c := by
  show decU ((rowR cs c).getD ((rowR cs c).length - 3) .none) = c
  rw [rowR_len, Nat.add_sub_cancel, List.getD_eq_getElem?_getD, rowR_up]
  exact decU_up c hc
theorem gF_dot {c o : Cd} (hc : c ∈ codes) (ho : o ∈ codes) : gF c (.str (dot ++ o.str)) = .bool (Un c o) := by
  obtain ⟨b1, b2, b3⟩ := dot_low o ho
  show PyData.bool (udm _ (Txt.lower (dot ++ o.str)) _ ((sees (Txt.lower (dot ++ o.str))).getD false)) = _
  rw [b1, b3]
  show PyData.bool (udm c.str (dot ++ o.str) (ipN c) (ipD o)) = _
  rw [pair_dot c hc o ho]
theorem gF_up {c : Cd} (hc : c ∈ codes) : gF c (.str (Txt.upper c.str)) = .bool true := by
  obtain ⟨a1, a2, _, a4⟩ := name_low c hc
  show PyData.bool (udm _ (Txt.lower (Txt.upper c.str)) _ ((sees (Txt.lower (Txt.upper c.str))).getD false)) = _
  rw [a1, a4]
  show PyData.bool (udm c.str c.str (ipN c) (ipN c)) = _
  rw [(own_up c hc).1]
theorem gF_loc {c : Cd} (hc : c ∈ codes) : gF c (.str loc) = .bool (same c.str loc) := by
  obtain ⟨b1, b2, b3⟩ := loc_low
  show PyData.bool (udm _ (Txt.lower loc) _ ((sees (Txt.lower loc)).getD false)) = _
  rw [b1, b3]
  show PyData.bool (udm c.str loc (ipN c) false) = _
  rw [(own_up c hc).2.1]
theorem gF_tail {c : Cd} (hc : c ∈ codes) : gF c (.str (dot ++ tailS c)) = .bool false := by
  obtain ⟨b1, b2, b3⟩ := tail_low c hc
  show PyData.bool (udm _ (Txt.lower (dot ++ tailS c)) _ ((sees (Txt.lower (dot ++ tailS c))).getD false)) = _
  rw [b1, b3]
  show PyData.bool (udm c.str (dot ++ tailS c) (ipN c) (ipT c)) = _
  rw [(own_up c hc).2.2]
theorem gF_row {cs : List Cd} {c : Cd} (hc : c ∈ codes) (hm : ∀ o ∈ cs, o ∈ codes) : (rowR cs c).map (gF c) = (bRow cs c).map PyData.bool := by
  unfold rowR bRow
  rw [List.map_append, List.map_append, List.map_map, List.map_map]
  congr 1
  · exact List.map_congr_left fun o ho => gF_dot hc (hm o ho)
  · show [gF c (.str (Txt.upper c.str)), gF c (.str loc), gF c (.str (dot ++ tailS c))] = [.bool true, .bool (same c.str loc), .bool false]
    rw [gF_up hc, gF_loc hc, gF_tail hc]
section
variable {w : World} {k : Nat} {S : List PyData} {cs : List Cd} {mode : Int} {W : Nat}
theorem nm_udm {sc : Sc} (h : sc.lookup (Str.ofString "user_domain_match") = some .globalImplicit) : Nm w sc (Str.ofString "user_domain_match") (.ref 50) := .mod h rfl (by decide +kernel)
theorem rule_fn {c : Cd} (hc : c ∈ codes) (hm : ∀ o ∈ cs, o ∈ codes) {d : PyData} (hd : d ∈ rowR cs c) : Fn w (k + 2) (.ref 50) [.str (Txt.upper c.str), d] (gF c d) := by
  rcases List.mem_append.mp hd with hd | hd
  · obtain ⟨o, ho, rfl⟩ := List.mem_map.mp hd
    rw [gF_dot hc (hm o ho)]
    exact udm_dot hc (hm o ho)
  · simp only [List.mem_cons, List.not_mem_nil, or_false] at hd
    rcases hd with rfl | rfl | rfl
    · rw [gF_up hc]; exact udm_up hc
    · rw [gF_loc hc]; exact udm_loc hc
    · rw [gF_tail hc]; exact udm_tail hc
theorem rules_st (h5 : cs.length ≤ 5) (hm : ∀ c ∈ cs, c ∈ codes) : Ex w 10 scL none (rhoA S cs mode W) (st18 5) (.nxt none (upd (rhoA S cs mode W) (Str.ofString "rules") (.list (rulesD cs)))) := by
  have hz : cs.length ≤ sizeLine := by have := szl; omega
  have e : rulesD cs = ((nms cs).filter fun _ => true).map fun d => .list (rowR cs (decS d)) := by
    rw [filter_tt, List.map_map]
    exact List.map_congr_left fun c hc => by show _ = PyData.list (rowR cs (decS (nmS c))); rw [decS_nm c (hm c hc)]
  rw [e]
  refine Ex.assignComp [(yN, .list (nms cs))] (fun _ => true) (fun d => .list (rowR cs (decS d))) rfl rfl rfl (It.name rfl) (by rw [List.length_map]; exact hz) rfl (by decide +kernel) (free_of rfl) (Cap.cons rfl (by decide +kernel) Cap.nil) (.inl rfl) rfl (fun d hd => TsL.nil) fun d hd _ => ?_
  obtain ⟨c, hc, rfl⟩ := List.mem_map.mp hd
  have hcc := hm c hc
  rw [decS_nm c hcc]
  obtain ⟨c1, c2, c3, c4, c5, c6⟩ := code_facts c hcc
  obtain ⟨n1, n2, n3, n4⟩ := name_low c hcc
  obtain ⟨t1, t2⟩ := tail_pick c hcc
  refine Ev.binop (a := .list (cs.map fun o => PyData.str (dot ++ o.str))) (b := .list [.str (Txt.upper c.str), .str loc, .str (dot ++ tailS c)]) ?_ (Ev.list (Evs.cons ?_ (Evs.cons Ev.str (Evs.cons ?_ Evs.nil))) (show 3 ≤ 1000 by decide)) (Op2.addL (by rw [List.length_map]; have := szl; show _ + 3 ≤ _; omega))
  · have e2 : (cs.map fun o => PyData.str (dot ++ o.str)) = ((nms cs).filter fun _ => true).map dotF := by
      rw [filter_tt, List.map_map]; rfl
    rw [e2]
    refine Ev.comp [] (fun _ => true) dotF (It.name rfl) (by rw [List.length_map]; exact hz) rfl (by decide +kernel) (free_of rfl) Cap.nil (.inl rfl) rfl (fun d hd => TsL.nil) fun d hd _ => ?_
    obtain ⟨o, ho, rfl⟩ := List.mem_map.mp hd
    have := (code_facts o (hm o ho)).2.1
    exact Ev.binop Ev.str (Ev.name rfl) (Op2.addS (by decide +kernel) (by omega))
  · exact Ev.meth0 (Ev.name rfl) Ty.str PySem.F.plainAttrs_str PySem.F.slot_str_upper PySem.F.type_str_upper (Me.upper (good_len n3))
  · refine Ev.binop Ev.str (Ev.sub (a := .list (pick (c.parts.map PyData.str) (some (-2)) none none)) (Ev.slice (Ev.meth1 (Ev.name rfl) (Evs.cons Ev.str Evs.nil) Ty.str PySem.F.plainAttrs_str PySem.F.slot_str_split PySem.F.type_str_split ?_) (Pt.some (Ev.neg Ev.int)) Pt.none Pt.none (by intro h; cases h) (by rw [List.length_map]; have := szl; omega)) Ev.int (Ix.list (d := .str (tailS c)) (by decide) (by decide) (isStr_eq t1))) (Op2.addS (by decide +kernel) (by omega))
    rw [← c1]
    exact Me.split rfl (by omega) (Nat.le_trans c3 (by decide))
theorem held_st (h5 : cs.length ≤ 5) (hm : ∀ c ∈ cs, c ∈ codes) : Ex w 10 scL none (upd (rhoA S cs mode W) (Str.ofString "rules") (.list (rulesD cs))) (st18 6) (.nxt none (upd (upd (rhoA S cs mode W) (Str.ofString "rules") (.list (rulesD cs))) (Str.ofString "held") (.list (heldD cs)))) := by
  have hz : cs.length ≤ sizeLine := by have := szl; omega
  have e : heldD cs = ((rulesD cs).filter fun _ => true).map fun d => bD (bRow cs (rowC d)) := by
    rw [filter_tt]
    unfold heldD rulesD
    rw [List.map_map]
    exact List.map_congr_left fun c hc => by show _ = bD (bRow cs (rowC (.list (rowR cs c)))); rw [rowC_row cs (hm c hc)]
  rw [e]
  refine Ex.assignComp [] (fun _ => true) (fun d => bD (bRow cs (rowC d))) rfl rfl rfl (It.name rfl) (by unfold rulesD; rw [List.length_map]; exact hz) rfl (by decide +kernel) (free_of rfl) Cap.nil (.inr rfl) rfl (fun d hd => TsL.nil) fun d hd _ => ?_
  obtain ⟨c, hc, rfl⟩ := List.mem_map.mp hd
  have hcc := hm c hc
  rw [rowC_row cs hcc]
  have e2 : bD (bRow cs c) = .list (((rowR cs c).filter fun _ => true).map (gF c)) := by rw [filter_tt, gF_row hcc hm]
  rw [e2]
  refine Ev.comp [(Str.ofString "row", .list (rowR cs c))] (fun _ => true) (gF c) (It.name rfl) (by rw [rowR_len]; have := szl; omega) rfl (by decide +kernel) (free_of rfl) (Cap.cons rfl (by decide +kernel) Cap.nil) (.inl rfl) rfl (fun d hd => TsL.nil) fun d hd _ => ?_
  refine Ev.call (nm_udm rfl) (keepsOk.def rfl) (Evs.cons (Ev.sub (Ev.name rfl) (Ev.neg Ev.int) (Ix.listNeg (d := .str (Txt.upper c.str)) (by decide) (by rw [rowR_len]; omega) (by decide) ?_)) (Evs.cons (Ev.name rfl) Evs.nil)) (rule_fn (k := 8) hcc hm hd)
  rw [rowR_len, show ((-3 : Int) + ((cs.length + 3 : Nat) : Int)).toNat = cs.length by omega]
  exact rowR_up cs c
theorem due_st (h5 : cs.length ≤ 5) (hm : ∀ c ∈ cs, c ∈ codes) {ρ : Rho} (hρ : ρ = upd (upd (rhoA S cs mode W) (Str.ofString "rules") (.list (rulesD cs))) (Str.ofString "held") (.list (heldD cs))) : Ex w 10 scL none ρ (st18 7) (.nxt none (upd ρ (Str.ofString "due") (.list (heldD cs)))) := by
  subst hρ
  have hz : cs.length ≤ sizeLine := by have := szl; omega
  have e : heldD cs = ((nms cs).filter fun _ => true).map fun d => bD (bRow cs (decS d)) := by
    rw [filter_tt, List.map_map]
    exact List.map_congr_left fun c hc => by show _ = bD (bRow cs (decS (nmS c))); rw [decS_nm c (hm c hc)]
  have key : Ex w 10 scL none (upd (upd (rhoA S cs mode W) (Str.ofString "rules") (.list (rulesD cs))) (Str.ofString "held") (.list (heldD cs))) (st18 7) (.nxt none (upd (upd (upd (rhoA S cs mode W) (Str.ofString "rules") (.list (rulesD cs))) (Str.ofString "held") (.list (heldD cs))) (Str.ofString "due") (.list (((nms cs).filter fun _ => true).map fun d => bD (bRow cs (decS d)))))) := by
    refine Ex.assignComp [(yN, .list (nms cs))] (fun _ => true) (fun d => bD (bRow cs (decS d))) rfl rfl rfl (It.name rfl) (by rw [List.length_map]; exact hz) rfl (by decide +kernel) (free_of rfl) (Cap.cons rfl (by decide +kernel) Cap.nil) (.inr rfl) rfl (fun d hd => TsL.nil) fun d hd _ => ?_
    obtain ⟨c, hc, rfl⟩ := List.mem_map.mp hd
    have hcc := hm c hc
    rw [decS_nm c hcc]
    have e2 : bD (bRow cs c) = .list ((cs.map fun o => PyData.bool (Un c o)) ++ [.bool true, .bool (same c.str loc), .bool false]) := by
      unfold bRow
      rw [bD, List.map_append, List.map_map]; rfl
    rw [e2]
    refine Ev.binop (a := .list (cs.map fun o => PyData.bool (Un c o))) ?_ (Ev.list (Evs.cons Ev.bool (Evs.cons (Ev.cmp (Ev.name rfl) Ev.str (Cm.eqD (code_shaped hcc) (by decide +kernel))) (Evs.cons Ev.bool Evs.nil))) (show 3 ≤ 1000 by decide)) (Op2.addL (by rw [List.length_map]; have := szl; show _ + 3 ≤ _; omega))
    have e3 : (cs.map fun o => PyData.bool (Un c o)) = ((nms cs).filter fun _ => true).map fun d => .bool (Un c (decS d)) := by
      rw [filter_tt, List.map_map]
      exact List.map_congr_left fun o ho => by show _ = PyData.bool (Un c (decS (nmS o))); rw [decS_nm o (hm o ho)]
    rw [e3]
    refine Ev.comp [(Str.ofString "name", nmS c)] (fun _ => true) (fun d => .bool (Un c (decS d))) (It.name rfl) (by rw [List.length_map]; exact hz) rfl (by decide +kernel) (free_of rfl) (Cap.cons rfl (by decide +kernel) Cap.nil) (.inl rfl) rfl (fun d hd => TsL.nil) fun d hd _ => ?_
    obtain ⟨o, ho, rfl⟩ := List.mem_map.mp hd
    rw [decS_nm o (hm o ho)]
    exact Ev.call (nm_under rfl) (keepsOk.def rfl) (Evs.cons (Ev.name rfl) (Evs.cons (Ev.name rfl) Evs.nil)) (Fn.mono (under_spec hcc (hm o ho)) (by decide))
  rw [← e] at key
  exact key
end
end Mine
end
section
open PySem PySem.W PyProof.Rows PySem.Calls PySem.Builtin PySem.Builtin.Int
set_option Elab.async false
set_option maxRecDepth 100000
set_option linter.unusedVariables false
set_option linter.unusedSimpArgs false
set_option maxHeartbeats 4000000
namespace Mine
theorem bools_layable : ∀ bs : List Bool, PyData.canLayAll0 (bs.map PyData.bool) = true
  | [] => rfl
  | _ :: bs => bools_layable bs
theorem bools_depth : ∀ bs : List Bool, PyData.depthAll (bs.map PyData.bool) ≤ 1
  | [] => by simp [PyData.depthAll]
  | a :: bs => by
    show max _ (PyData.depthAll (bs.map PyData.bool)) ≤ 1
    exact Nat.max_le.mpr ⟨by simp [PyData.depth], bools_depth bs⟩
theorem held_layable (cs : List Cd) : ∀ l : List Cd, PyData.canLayAll0 (l.map fun c => bD (bRow cs c)) = true ∧ PyData.depthAll (l.map fun c => bD (bRow cs c)) ≤ 2
  | [] => ⟨rfl, by simp [PyData.depthAll]⟩
  | c :: l => by
    obtain ⟨h1, h2⟩ := held_layable cs l
    refine ⟨?_, ?_⟩
    · show (PyData.canLay0 (bD (bRow cs c)) && PyData.canLayAll0 (l.map fun c => bD (bRow cs c))) = true
      rw [h1, show PyData.canLay0 (bD (bRow cs c)) = true from bools_layable _]; rfl
    · show max (PyData.depth (bD (bRow cs c))) (PyData.depthAll (l.map fun c => bD (bRow cs c))) ≤ 2
      refine Nat.max_le.mpr ⟨?_, h2⟩
      have := bools_depth (bRow cs c)
      simp only [PyData.depth]
      omega
theorem shaped_held (cs : List Cd) : SeqAt.shaped (.list (heldD cs)) = true := by
  obtain ⟨h1, h2⟩ := held_layable cs cs
  unfold SeqAt.shaped
  rw [Bool.and_eq_true]
  refine ⟨h1, decide_eq_true ?_⟩
  have : PyData.depthAll (heldD cs) ≤ 2 := h2
  simp only [PyData.depth]
  omega
theorem held_same (cs : List Cd) : PyData.eqv (.list (heldD cs)) (.list (heldD cs)) = true := SeqAt.eqv_refl _ (SeqAt.canLay_of_shaped (shaped_held cs))
theorem pick_upto (xs : List PyData) (n : Nat) (h : n ≤ xs.length) : pick xs none (some (n : Int)) none = xs.take n := by
  have key : ∀ (m : Nat) (ys : List PyData), (List.range m).filterMap (fun i => ys[i]?) = ys.take m := fun m => by
    induction m with
    | zero => intro ys; simp
    | succ m ih =>
      intro ys
      rw [List.range_succ, List.filterMap_append, ih, List.take_add_one]
      cases e : ys[m]? <;> simp [e]
  unfold pick sliceBounds sliceRange
  have e1 : (if ((n : Int)) < 0 then ((n : Int)) + (xs.length : Int) else (n : Int)) = n := if_neg (by omega)
  simp only [Option.getD_none, e1]
  simp only [show ((1 : Int) > 0) = True by simp, if_true]
  have e2 : max (0 : Int) (min (n : Int) (xs.length : Int)) = n := by omega
  rw [e2]
  have e3 : (if (0 : Int) < (n : Int) then ((n : Int) - 0 + 1 - 1) / 1 else 0).toNat = n := by
    split
    · rw [Int.ediv_one]; omega
    · omega
  rw [e3, List.filterMap_map]
  have e4 : (fun i => xs[i]?) ∘ (fun k : Nat => ((0 : Int) + 1 * (k : Int)).toNat) = fun i => xs[i]? := by
    funext i
    simp only [Function.comp]
    congr 1
    omega
  rw [e4, key]
/-! the two products -/
noncomputable def abP (b : Nat) (cs : List Cd) : Nat → Nat
  | 0 => 1
  | i + 1 => abP b cs i * (b + ov cs (nth cs i))
noncomputable def beP (b : Nat) (cs : List Cd) : Nat → Nat
  | 0 => 1
  | i + 1 => beP b cs i * (b - ov cs (nth cs i))
theorem abP_le {W : Nat} (hW : 7 ≤ W) {cs : List Cd} (h5 : cs.length ≤ 5) : ∀ i, abP (2 ^ W) cs i ≤ 2 ^ ((W + 1) * i)
  | 0 => by simp [abP]
  | i + 1 => by
    have ih := abP_le hW h5 i
    have h1 := ov_le cs (nth cs i)
    have h2 : 2 ^ 7 ≤ 2 ^ W := Nat.pow_le_pow_right (by decide) hW
    show abP (2 ^ W) cs i * (2 ^ W + ov cs (nth cs i)) ≤ _
    rw [Nat.mul_succ, Nat.pow_add]
    refine Nat.mul_le_mul ih ?_
    rw [Nat.pow_succ]
    omega
theorem beP_le {W : Nat} {cs : List Cd} : ∀ i, beP (2 ^ W) cs i ≤ 2 ^ (W * i)
  | 0 => by simp [beP]
  | i + 1 => by
    have ih := beP_le (W := W) (cs := cs) i
    show beP (2 ^ W) cs i * (2 ^ W - ov cs (nth cs i)) ≤ _
    rw [Nat.mul_succ, Nat.pow_add]
    exact Nat.mul_le_mul ih (Nat.sub_le _ _)
theorem count_true (c : Cd) : ∀ cs : List Cd, ((cs.map (Un c)).map PyData.bool).countP (fun y => PyData.eqv y (.bool true)) = ov cs c
  | [] => rfl
  | o :: cs => by
    have ih := count_true c cs
    unfold ov at ih ⊢
    rw [List.map_cons, List.map_cons, List.countP_cons, ih, List.filter_cons]
    have : PyData.eqv (.bool (Un c o)) (.bool true) = Un c o := by show (Un c o == true) = Un c o; cases Un c o <;> rfl
    rw [this]
    cases Un c o <;> simp
theorem bits_lt' {a m : Nat} (h : a ≤ 2 ^ m) : a < 2 ^ (m + 1) := by
  have := Nat.two_pow_pos m
  rw [Nat.pow_succ]; omega
section
variable {w : World} {k : Nat} {S : List PyData} {cs : List Cd} {mode : Int} {W : Nat}
abbrev rhoB (cs : List Cd) (mode : Int) (W : Nat) (above beneath : Nat) : Rho := [(yN, .list (nms cs)), (Str.ofString "mode", .int mode), (Str.ofString "width", Nn W), (Str.ofString "base", Nn (2 ^ W)), (Str.ofString "above", Nn above), (Str.ofString "beneath", Nn beneath)]
theorem len_names {sc : Sc} {ρ : Rho} {npos p1 pos : Pos} (h5 : cs.length ≤ 5) (hl : ρ.lookup yN = some (.list (nms cs))) (hs : sc.lookup (Str.ofString "len") = some .globalImplicit) : Ev w k sc ρ (.Call (.Name (Str.ofString "len") npos) [.Name yN p1] [] pos) (Nn cs.length) := by
  rw [show Nn cs.length = .int ((nms cs).length : Int) by rw [List.length_map]]
  exact Ev.call (nm_len hs) keepsOk.builtin (Evs.cons (Ev.name hl) Evs.nil) (Fn.lenL (by rw [List.length_map]; have := szl; omega))
/-- from held to the two products -/
theorem prods_sts (h5 : cs.length ≤ 5) (hm : ∀ c ∈ cs, c ∈ codes) (hW : 7 ≤ W) (hW2 : W ≤ 4300) {ρ : Rho} (hρ : ρ = upd (upd (upd (rhoA S cs mode W) (Str.ofString "rules") (.list (rulesD cs))) (Str.ofString "held") (.list (heldD cs))) (Str.ofString "due") (.list (heldD cs))) :
    Exs w 10 scL none ρ [st18 8, st18 9, st18 10] (.nxt none (rhoB cs mode W (abP (2 ^ W) cs cs.length) (beP (2 ^ W) cs cs.length))) := by
  subst hρ
  have h27 : 2 ^ 7 ≤ 2 ^ W := Nat.pow_le_pow_right (by decide) hW
  refine Exs.cons (Ex.ite (b := !PyData.eqv (.list (heldD cs)) (.list (heldD cs))) (Ts.cmp (Ev.name rfl) (Ev.name rfl) (Cm.neD (shaped_held cs) (shaped_held cs))) (fun e => by rw [held_same] at e; cases e) fun _ => Exs.nil) ?_
  refine Exs.cons (Ex.consts Ev.int Ev.int (.inl rfl) (.inl rfl)) ?_
  have body := Ex.for (w := w) (k := 10) (sc := scL) (ow := none) (x := Str.ofString "row") (items := heldD cs) (iter := .Name (Str.ofString "held") ⟨130, 15, 130, 19⟩)
    (ρ := upd (upd (upd (upd (upd (rhoA S cs mode W) (Str.ofString "rules") (.list (rulesD cs))) (Str.ofString "held") (.list (heldD cs))) (Str.ofString "due") (.list (heldD cs))) (Str.ofString "above") (.int 1)) (Str.ofString "beneath") (.int 1))
    (fun _ => none) (fun i => rhoB cs mode W (abP (2 ^ W) cs i) (beP (2 ^ W) cs i)) (It.name rfl) rfl (Sub.cons rfl (Sub.cons rfl (Sub.cons rfl (Sub.cons rfl (Sub.cons rfl (Sub.cons rfl Sub.nil)))))) (.inl rfl) (fun _ => rfl) (fun _ => rfl)
    (body := match st18 10 with | .For _ _ b _ _ => b | _ => []) (pos := match st18 10 with | .For _ _ _ _ p => p | _ => ⟨0, 0, 0, 0⟩) (px := ⟨130, 8, 130, 11⟩) (fun i d hd => ?_)
  · rw [show (heldD cs).length = cs.length by unfold heldD; rw [List.length_map]] at body
    exact Exs.cons body Exs.nil
  · have hi : i < cs.length := by
      have := (List.getElem?_eq_some_iff.mp hd).1
      unfold heldD at this
      rw [List.length_map] at this
      exact this
    have hdd : d = bD (bRow cs (nth cs i)) := by
      unfold heldD at hd
      rw [List.getElem?_map, List.getElem?_eq_getElem hi] at hd
      cases hd
      unfold nth
      rw [List.getD_eq_getElem?_getD, List.getElem?_eq_getElem hi]; rfl
    subst hdd
    have cnt : ∀ {ρ : Rho} {p1 p2 p3 p4 p5 p6 p7 p8 p9 : Pos} {n1 : Nat}, ρ.lookup yN = some (.list (nms cs)) → ρ.lookup (Str.ofString "row") = some (bD (bRow cs (nth cs i))) → (p8.endLine == p9.line) = true →
        Ev w 10 scL ρ (.Call (.Attribute (.Subscript (.Name (Str.ofString "row") p1) (.Slice none (some (.Call (.Name (Str.ofString "len") p2) [.Name yN p3] [] p4)) none p5) p6) (Str.ofString "count") p8) [.Constant (.bool true) n1 p7] [] p9) (Nn (ov cs (nth cs i))) := by
      intro ρ p1 p2 p3 p4 p5 p6 p7 p8 p9 n1 e1 e2 hp
      have e3 : pick ((bRow cs (nth cs i)).map PyData.bool) none (some (cs.length : Int)) none = (cs.map (Un (nth cs i))).map PyData.bool := by
        rw [pick_upto _ _ (by unfold bRow; simp)]
        unfold bRow
        rw [List.map_append, List.take_append_of_le_length (by simp), List.take_of_length_le (by simp)]
      rw [← count_true, ← e3]
      refine Ev.meth1 (Ev.slice (Ev.name e2) Pt.none (Pt.some (len_names h5 e1 rfl)) Pt.none (by intro h; cases h) (by unfold bRow; simp; have := szl; omega)) (Evs.cons Ev.bool Evs.nil) Ty.list PySem.F.plainAttrs_list PySem.F.slot_list_count PySem.F.type_list_count (Me.count ?_ rfl (by simp [PyData.depth])) (hline := hp)
      rw [e3]
      exact bools_layable _
    have hov := ov_le cs (nth cs i)
    refine Exs.weaken (ρ₁ := upd (upd (upd (rhoB cs mode W (abP (2 ^ W) cs i) (beP (2 ^ W) cs i)) (Str.ofString "row") (bD (bRow cs (nth cs i)))) (Str.ofString "above") (Nn (abP (2 ^ W) cs (i + 1)))) (Str.ofString "beneath") (Nn (beP (2 ^ W) cs (i + 1)))) ?_ (Sub.cons rfl (Sub.cons rfl (Sub.cons rfl (Sub.cons rfl (Sub.cons rfl (Sub.cons rfl Sub.nil))))))
    refine Exs.cons (Ex.aug (a := (abP (2 ^ W) cs i : Nat)) (b := ((2 ^ W : Nat) : Int) + ((ov cs (nth cs i) : Nat) : Int)) (r := (abP (2 ^ W) cs (i + 1) : Nat)) rfl (Ev.binop (Ev.name rfl) (cnt rfl rfl rfl) Op2.addI) ?_ (.inl rfl)) (Exs.cons (Ex.aug (a := (beP (2 ^ W) cs i : Nat)) (b := ((2 ^ W : Nat) : Int) - ((ov cs (nth cs i) : Nat) : Int)) (r := (beP (2 ^ W) cs (i + 1) : Nat)) rfl (Ev.binop (Ev.name rfl) (cnt rfl rfl rfl) Op2.subI) ?_ (.inl rfl)) Exs.nil)
    · have o := Ip.mul (a := (abP (2 ^ W) cs i : Nat)) (b := ((2 ^ W + ov cs (nth cs i) : Nat) : Int)) (IntMulOk.of_le (bits_le (bits_lt' (abP_le hW h5 i))) (bits_le (m := W + 1) (by rw [Nat.pow_succ]; omega)) (by
        have : (W + 1) * i ≤ 4301 * 5 := Nat.mul_le_mul (by omega) (by omega)
        omega))
      rw [show ((abP (2 ^ W) cs i : Nat) : Int) * ((2 ^ W + ov cs (nth cs i) : Nat) : Int) = ((abP (2 ^ W) cs (i + 1) : Nat) : Int) by show _ = ((abP (2 ^ W) cs i * (2 ^ W + ov cs (nth cs i)) : Nat) : Int); rw [Int.natCast_mul]] at o
      rw [← Int.natCast_add]
      exact o
    · have o := Ip.mul (a := (beP (2 ^ W) cs i : Nat)) (b := ((2 ^ W - ov cs (nth cs i) : Nat) : Int)) (IntMulOk.of_le (bits_le (bits_lt' (beP_le i))) (bits_le (m := W + 1) (by rw [Nat.pow_succ]; omega)) (by
        have : W * i ≤ 4301 * 5 := Nat.mul_le_mul (by omega) (by omega)
        omega))
      rw [show ((beP (2 ^ W) cs i : Nat) : Int) * ((2 ^ W - ov cs (nth cs i) : Nat) : Int) = ((beP (2 ^ W) cs (i + 1) : Nat) : Int) by show _ = ((beP (2 ^ W) cs i * (2 ^ W - ov cs (nth cs i)) : Nat) : Int); rw [Int.natCast_mul]] at o
      rw [show ((2 ^ W : Nat) : Int) - ((ov cs (nth cs i) : Nat) : Int) = ((2 ^ W - ov cs (nth cs i) : Nat) : Int) by omega]
      exact o
end
end Mine
end
section
open PySem PySem.W PyProof.Rows PySem.Calls PySem.Builtin PySem.Builtin.Int
set_option Elab.async false
set_option maxRecDepth 100000
set_option linter.unusedVariables false
set_option linter.unusedSimpArgs false
set_option maxHeartbeats 4000000
namespace Mine
/-! the second product, divided on -/
noncomputable def quo (b : Nat) (B₀ : Nat) : Nat → Nat
  | 0 => B₀
  | k + 1 => quo b B₀ k / (b - k)
noncomputable def rem (b : Nat) (B₀ : Nat) (k : Nat) : Nat := quo b B₀ k % (b - k)
theorem quo_le (b B₀ : Nat) : ∀ k, quo b B₀ k ≤ B₀
  | 0 => Nat.le_refl _
  | k + 1 => Nat.le_trans (Nat.div_le_self _ _) (quo_le b B₀ k)
theorem undo {t m : Int} {B d : Nat} (ht : t = 1 ∨ t = -1) (hd : 0 < d) : (t * ((B : Int) - m * d)).fdiv (t * d) + m = ((B / d : Nat) : Int) ∧ t * (t * ((B : Int) - m * d)).fmod (t * d) = ((B % d : Nat) : Int) := by
  have hd' : (0 : Int) < d := by omega
  have e1 : ((B : Int) - m * d).fdiv d = ((B / d : Nat) : Int) - m := by
    rw [Int.fdiv_eq_ediv_of_nonneg _ (by omega), Int.sub_eq_add_neg, ← Int.neg_mul, Int.add_mul_ediv_right _ _ (by omega)]
    have := Int.natCast_ediv B d
    omega
  have e2 : ((B : Int) - m * d).fmod d = ((B % d : Nat) : Int) := by
    rw [Int.fmod_eq_emod_of_nonneg _ (by omega), Int.sub_eq_add_neg, ← Int.neg_mul, Int.add_mul_emod_self_right]
    exact (Int.natCast_emod B d).symm
  rcases ht with rfl | rfl
  · rw [Int.one_mul, Int.one_mul, Int.one_mul, e1, e2]
    exact ⟨by omega, rfl⟩
  · rw [Int.neg_one_mul, Int.neg_one_mul, Int.neg_fdiv_neg, Int.neg_fmod_neg, e1, e2]
    exact ⟨by omega, by omega⟩
theorem bit_cases (x : Int) : x.fmod 2 = 0 ∨ x.fmod 2 = 1 := by
  have h1 := Int.fmod_nonneg_of_pos x (show (0 : Int) < 2 by decide)
  have h2 := Int.fmod_lt_of_pos x (show (0 : Int) < 2 by decide)
  omega
abbrev turnOf (mode : Int) (k : Nat) : Int := 1 - 2 * (mode.fdiv (4 ^ k)).fmod 2
abbrev moreOf (mode : Int) (W k : Nat) : Int := ((2 ^ W : Nat) : Int) ^ 5 * ((mode.fdiv (4 ^ k)).fdiv 2).fmod 2
theorem turn_cases (mode : Int) (k : Nat) : turnOf mode k = 1 ∨ turnOf mode k = -1 := by
  rcases bit_cases (mode.fdiv (4 ^ k)) with h | h <;> unfold turnOf <;> rw [h] <;> decide
theorem more_cases (mode : Int) (W k : Nat) : moreOf mode W k = 0 ∨ moreOf mode W k = ((2 ^ (5 * W) : Nat) : Int) := by
  have e : ((2 ^ W : Nat) : Int) ^ 5 = ((2 ^ (5 * W) : Nat) : Int) := by
    rw [show 5 * W = W * 5 by omega, Nat.pow_mul]
    push_cast
    rfl
  rcases bit_cases ((mode.fdiv (4 ^ k)).fdiv 2) with h | h <;> unfold moreOf <;> rw [h, e]
  · exact .inl (Int.mul_zero _)
  · exact .inr (Int.mul_one _)
theorem natAbs_turn {t x : Int} (ht : t = 1 ∨ t = -1) : (t * x).natAbs = x.natAbs := by
  rcases ht with rfl | rfl
  · rw [Int.one_mul]
  · rw [Int.neg_one_mul, Int.natAbs_neg]
theorem bits_small {t : Int} (ht : t = 1 ∨ t = -1) : intBits t ≤ 64 := by
  rcases ht with rfl | rfl <;> exact PySem.intBits_le_64 (by decide) (by decide)
structure Small (W k B : Nat) : Prop where
  w7 : 7 ≤ W
  w : W ≤ 4206
  k : k ≤ 5
  b : B ≤ 2 ^ (5 * W)
theorem small_d {W k B : Nat} (h : Small W k B) : 2 ^ (W - 1) ≤ 2 ^ W - k ∧ 2 ^ W - k ≤ 2 ^ W ∧ k < 2 ^ W := by
  have h1 : 2 ^ 6 ≤ 2 ^ (W - 1) := Nat.pow_le_pow_right (by decide) (by have := h.w7; omega)
  have h2 : 2 ^ W = 2 ^ (W - 1) * 2 := by rw [← Nat.pow_succ]; congr 1; have := h.w7; omega
  have := h.k
  omega
theorem small_sz {W k B : Nat} {t m : Int} (h : Small W k B) (ht : t = 1 ∨ t = -1) (hm : m = 0 ∨ m = ((2 ^ (5 * W) : Nat) : Int)) : Sz (t * ((B : Int) - m * ((2 ^ W - k : Nat) : Int))) (t * ((2 ^ W - k : Nat) : Int)) := by
  obtain ⟨d1, d2, d3⟩ := small_d h
  have hw := h.w
  have hw7 := h.w7
  have e : (t * ((2 ^ W - k : Nat) : Int)).natAbs = 2 ^ W - k := by rw [natAbs_turn ht]; exact Int.natAbs_natCast _
  have hpos : 0 < 2 ^ (W - 1) := Nat.two_pow_pos _
  have hbits : W ≤ intBits ((2 ^ W - k : Nat) : Int) := by
    rcases Nat.lt_or_ge (intBits ((2 ^ W - k : Nat) : Int)) W with q | q
    · have h1 := bits_lt (2 ^ W - k)
      have h2 : 2 ^ intBits ((2 ^ W - k : Nat) : Int) ≤ 2 ^ (W - 1) := Nat.pow_le_pow_right (by decide) (by omega)
      omega
    · exact q
  refine ⟨fun q => ?_, ?_, ?_⟩
  · rw [q] at e
    have : (0 : Int).natAbs = 0 := rfl
    omega
  · rw [e]
    have := bits_le (bits_lt' d2)
    omega
  · rw [e, natAbs_turn ht]
    have h7 : 2 ^ (7 * W) ≤ 2 ^ (intBits ((2 ^ W - k : Nat) : Int) * 16) := Nat.pow_le_pow_right (by decide) (by omega)
    have h6 : 2 ^ (5 * W) * 2 ^ W = 2 ^ (6 * W) := by rw [← Nat.pow_add]; congr 1; omega
    have h65 : 2 ^ (5 * W) ≤ 2 ^ (6 * W) := Nat.pow_le_pow_right (by decide) (by omega)
    have h67 : 2 ^ (6 * W) * 2 ^ 7 ≤ 2 ^ (7 * W) := by rw [← Nat.pow_add]; exact Nat.pow_le_pow_right (by decide) (by omega)
    have hp6 := Nat.two_pow_pos (6 * W)
    have hB := h.b
    have : ((B : Int) - m * ((2 ^ W - k : Nat) : Int)).natAbs ≤ 2 ^ (6 * W) + 2 ^ (5 * W) := by
      rcases hm with rfl | rfl
      · rw [Int.zero_mul]; omega
      · rw [← Int.natCast_mul]
        have : 2 ^ (5 * W) * (2 ^ W - k) ≤ 2 ^ (6 * W) := by rw [← h6]; exact Nat.mul_le_mul_left _ d2
        omega
    omega
abbrev yP : Str := Str.ofString "parted"
section
variable {w : World} {cs : List Cd} {mode : Int} {W : Nat} {above B₀ : Nat}
theorem pow4 {k' k : Nat} (hk : k ≤ 5) : Op2 w k' .Pow (.int 4) (Nn k) (.int (4 ^ k)) := by
  have := Op2.powI (w := w) (k := k') (a := 4) (n := (k : Int)) (by omega) (by
    have : intBits 4 ≤ 64 := PySem.intBits_le_64 (by decide) (by decide)
    have h2 : (intBits 4 : Int) * (k : Int) ≤ 64 * 5 := Int.mul_le_mul (by omega) (by omega) (by omega) (by omega)
    omega)
  rw [Int.toNat_natCast] at this
  exact this
theorem log4 {k : Nat} (hk : k ≤ 5) : (4 : Int) ^ k ≠ 0 ∧ ((4 : Int) ^ k).natAbs.log2 < 9000 := by
  match k, hk with
  | 0, _ | 1, _ | 2, _ | 3, _ | 4, _ | 5, _ => decide
/-- one turn of the last loop -/
theorem turn_sts (h5 : cs.length ≤ 5) {k B : Nat} (h : Small W k B) (qs : List PyData) (hq : qs.length ≤ 1000) :
    ExsT w 10 scL (some (yP, qs)) (upd (rhoB cs mode W above B) (Str.ofString "k") (Nn k)) (match st18 12 with | .For _ _ b _ _ => b | _ => []) (.nxt (some (yP, qs ++ [Nn (B % (2 ^ W - k))])) (rhoB cs mode W above (B / (2 ^ W - k)))) := by
  obtain ⟨d1, d2, d3⟩ := small_d h
  have hw := h.w
  have hd0 : 0 < 2 ^ W - k := Nat.lt_of_lt_of_le (Nat.two_pow_pos _) d1
  have ht := turn_cases mode k
  have hmo := more_cases mode W k
  obtain ⟨u1, u2⟩ := undo (m := moreOf mode W k) (B := B) ht hd0
  have hmb : intBits (moreOf mode W k) ≤ 5 * W + 1 := by
    rcases hmo with e | e <;> rw [e]
    · exact bits_le (a := 0) (Nat.two_pow_pos _)
    · exact bits_le (bits_lt' (Nat.le_refl _))
  have hdb : intBits ((2 ^ W - k : Nat) : Int) ≤ W + 1 := bits_le (bits_lt' d2)
  refine ExsT.weaken (ρ₁ := upd (upd (upd (upd (upd (upd (rhoB cs mode W above B) (Str.ofString "k") (Nn k)) (Str.ofString "more") (.int (moreOf mode W k))) (Str.ofString "turn") (.int (turnOf mode k))) (Str.ofString "quotient") (.int ((turnOf mode k * ((B : Int) - moreOf mode W k * ((2 ^ W - k : Nat) : Int))).fdiv (turnOf mode k * ((2 ^ W - k : Nat) : Int))))) (Str.ofString "rest") (.int ((turnOf mode k * ((B : Int) - moreOf mode W k * ((2 ^ W - k : Nat) : Int))).fmod (turnOf mode k * ((2 ^ W - k : Nat) : Int))))) (Str.ofString "beneath") (Nn (B / (2 ^ W - k)))) ?_ (Sub.cons rfl (Sub.cons rfl (Sub.cons rfl (Sub.cons rfl (Sub.cons rfl (Sub.cons rfl Sub.nil))))))
  obtain ⟨l1, l2⟩ := log4 h.k
  have hbk : ((2 ^ W : Nat) : Int) - (k : Int) = ((2 ^ W - k : Nat) : Int) := by omega
  refine ExsT.cons (ExT.of (Ex.swap (a := .int (turnOf mode k)) (b := .int (moreOf mode W k)) ?_ ?_ rfl rfl)) ?_
  · exact Ev.binop Ev.int (Ev.binop Ev.int (Ev.binop (Ev.binop (Ev.name rfl) (Ev.binop Ev.int (Ev.name rfl) (pow4 h.k)) (Op2.divI l1 l2)) Ev.int (Op2.modI (by decide))) (Op2.mulI (IntMulOk.of_left (PySem.intBits_le_64 (by decide) (by decide))))) Op2.subI
  · refine Ev.binop (Ev.binop (Ev.name rfl) Ev.int (Op2.powI (a := ((2 ^ W : Nat) : Int)) (n := 5) (by decide) ?_)) (Ev.binop (Ev.binop (Ev.binop (Ev.name rfl) (Ev.binop Ev.int (Ev.name rfl) (pow4 h.k)) (Op2.divI l1 l2)) Ev.int (Op2.divI (by decide) (by decide))) Ev.int (Op2.modI (by decide))) (Op2.mulI (IntMulOk.of_right ?_))
    · have := bits_le (bits_lt' (Nat.le_refl (2 ^ W)))
      omega
    · rcases bit_cases ((mode.fdiv (4 ^ k)).fdiv 2) with e | e <;> rw [e] <;> exact PySem.intBits_le_64 (by decide) (by decide)
  refine ExsT.cons (ExT.tuple2 (EvT.call (ds := [.int (turnOf mode k * ((B : Int) - moreOf mode W k * ((2 ^ W - k : Nat) : Int))), .int (turnOf mode k * ((2 ^ W - k : Nat) : Int))]) (nm_idm rfl) (keepsOk.def rfl) (Evs.cons ?_ (Evs.cons ?_ Evs.nil)) (idm_spec (small_sz h ht hmo))) (.inl rfl) (.inl rfl)) ?_
  · refine Ev.binop (Ev.name rfl) (Ev.binop (b := .int (moreOf mode W k * ((2 ^ W - k : Nat) : Int))) (Ev.name rfl) (Ev.binop (b := .int ((2 ^ W - k : Nat) : Int)) (Ev.name rfl) ?_ (Op2.mulI (IntMulOk.of_le hmb hdb (by omega)))) Op2.subI) (Op2.mulI (IntMulOk.of_left (bits_small ht)))
    rw [← hbk]
    exact Ev.binop (Ev.name rfl) (Ev.name rfl) Op2.subI
  · refine Ev.binop (b := .int ((2 ^ W - k : Nat) : Int)) (Ev.name rfl) ?_ (Op2.mulI (IntMulOk.of_left (bits_small ht)))
    rw [← hbk]
    exact Ev.binop (Ev.name rfl) (Ev.name rfl) Op2.subI
  refine ExsT.cons (ExT.of (Ex.assign (d := Nn (B / (2 ^ W - k))) ?_ (.inl rfl))) ?_
  · rw [show Nn (B / (2 ^ W - k)) = .int _ from rfl, ← u1]
    exact Ev.binop (Ev.name rfl) (Ev.name rfl) Op2.addI
  refine ExsT.cons (ExT.of (Ex.append (d := Nn (B % (2 ^ W - k))) ?_ (by have := szl; omega))) (ExsT.of Exs.nil)
  rw [show Nn (B % (2 ^ W - k)) = .int _ from rfl, ← u2]
  exact Ev.binop (Ev.name rfl) (Ev.name rfl) (Op2.mulI (IntMulOk.of_left (bits_small ht)))
theorem parted_loop (h5 : cs.length ≤ 5) (hW : 7 ≤ W) (hW2 : W ≤ 4206) (hB : B₀ ≤ 2 ^ (5 * W)) :
    ExT w 10 scL (some (yP, [])) (rhoB cs mode W above B₀) (st18 12) (.nxt (some (yP, iNs ((List.range (cs.length + 1)).map (rem (2 ^ W) B₀)))) (rhoB cs mode W above (quo (2 ^ W) B₀ (cs.length + 1)))) := by
  refine ExT.forN (items := upto (cs.length + 1)) (cs.length + 1) (upto_length _) (fun i => some (yP, iNs ((List.range i).map (rem (2 ^ W) B₀)))) (fun i => rhoB cs mode W above (quo (2 ^ W) B₀ i)) (It.rangeN (n := cs.length + 1) (nm_range rfl) (Ev.binop (len_names h5 rfl rfl) Ev.int Op2.addI) (by omega)) rfl Sub.rfl' (.inl rfl) (fun _ => rfl) (fun _ => by show (!(yP == Str.ofString "k")) = true; decide +kernel) fun i d hd => ?_
  obtain ⟨hi, rfl⟩ := get_upto hd
  have := turn_sts (w := w) (mode := mode) (W := W) (above := above) h5 (k := i) (B := quo (2 ^ W) B₀ i) ⟨hW, hW2, by omega, Nat.le_trans (quo_le _ _ _) hB⟩ (iNs ((List.range i).map (rem (2 ^ W) B₀))) (by rw [List.length_map, List.length_map, List.length_range]; omega)
  have e : iNs ((List.range (i + 1)).map (rem (2 ^ W) B₀)) = iNs ((List.range i).map (rem (2 ^ W) B₀)) ++ [Nn (quo (2 ^ W) B₀ i % (2 ^ W - i))] := by
    rw [List.range_succ, List.map_append, iNs, List.map_append]; rfl
  show ExsT w 10 scL (some (yP, iNs ((List.range i).map (rem (2 ^ W) B₀)))) _ _ (.nxt (some (yP, iNs ((List.range (i + 1)).map (rem (2 ^ W) B₀)))) _)
  rw [e]
  exact this
end
end Mine
end
section
open PySem PySem.W PyProof.Rows PySem.Calls PySem.Builtin PySem.Builtin.Int
set_option Elab.async false
set_option maxRecDepth 100000
set_option linter.unusedVariables false
set_option linter.unusedSimpArgs false
set_option maxHeartbeats 4000000
namespace Mine
/-- what plain arithmetic owes -/
structure Plain (W : Nat) (cs : List Cd) : Prop where
  hung : ∃ D : List Nat, iNs D = hungD cs ∧ val W D = abP (2 ^ W) cs cs.length ∧ (∀ d ∈ D, d < 2 ^ W) ∧ D.length ≤ 16 ∧ ∀ h : D ≠ [], D.getLast h ≠ 0
  parted : iNs ((List.range (cs.length + 1)).map (rem (2 ^ W) (beP (2 ^ W) cs cs.length))) = partedD cs
  zero : quo (2 ^ W) (beP (2 ^ W) cs cs.length) (cs.length + 1) = 0
def modeOf (ns : List Int) : Int := 104932 + (pkI ns none (some 60) none).sum
def widthOf (ns : List Int) : Nat := (7 + (modeOf ns).fmod 4200).toNat
theorem width_le (ns : List Int) : 7 ≤ widthOf ns ∧ widthOf ns ≤ 4206 ∧ ((widthOf ns : Nat) : Int) = 7 + (modeOf ns).fmod 4200 := by
  have h1 := Int.fmod_nonneg_of_pos (modeOf ns) (show (0 : Int) < 4200 by decide)
  have h2 := Int.fmod_lt_of_pos (modeOf ns) (show (0 : Int) < 4200 by decide)
  unfold widthOf
  omega
theorem shaped_iNs (l : List Nat) : SeqAt.shaped (.list (iNs l)) = true := by
  have : iNs l = (l.map fun (n : Nat) => (n : Int)).map PyData.int := by rw [List.map_map]; rfl
  rw [this]
  exact shaped_ints _
section
variable {w : World} {k : Nat} {sc : Sc} {ow : Own} {ρ : Rho}
theorem ExsT.append {a b : List Stmt} {ow' : Own} {ρ' : Rho} {o : Out} (h : ExsT w k sc ow ρ a (.nxt ow' ρ')) (hs : ExsT w k sc ow' ρ' b o) (hw : ow.isSome = ow'.isSome := by rfl) : ExsT w k sc ow ρ (a ++ b) o := fun prog A s env B h₀ M oa R g F T => by
  rw [execs_append]
  refine wpAny_bind (wpAny_mono (h prog A s env B h₀ M oa R g F T) (fun fl s₁ h₁ => ?_) fun _ _ x => x)
  obtain ⟨rfl, kb, F₁, T₁, gr, al⟩ := h₁
  exact wpAny_mono (hs prog A s₁ env B h₀ M oa R g F₁ T₁) (fun _ _ h₂ => .pre kb gr al (.chg hw.symm h₂)) fun _ _ x => x
/-- return f(..) == e and rest -/
theorem ExT.returnAnd {l r e' : Expr} {es : List Expr} {p pos rp : Pos} {a b : PyData} {c : Bool} (hl : EvT w k sc ρ l a) (hr : Ev w k sc ρ r b) (ho : Cm w k .Eq a b true) (hrest : Bop w k sc ρ pos (e' :: es) (.bool c))
    (hm : behindInMarks .Eq r = false := by with_unfolding_all rfl) :
    ExT w k sc ow ρ (.Return (some (.BoolOp .And (.Compare l [.Eq] [r] p :: e' :: es) pos)) rp) (.ret (.bool c)) := fun prog A s env B h₀ M oa R g F T => by
  refine wpAny_Return_some ?_
  show wpAny (model prog w) A (do
    let v ← PySem.eval (.Compare l [.Eq] [r] p) env
    standAt pos
    let t ← holding [v] (truthy v)
    match BoolOp.And, t with
    | .And, false | .Or, true => pure v
    | _, _ => boolOp pos .And (evalEach (e' :: es) env)) _ _ s
  refine wpAny_bind (wpAny_Compare1 (F.evT T R g hl fun va s₁ kb F₁ T₁ gr al ra => ?_) hm)
  refine F₁.ev R g hr fun vb s₂ kp F₂ rb => ?_
  refine wpAny_mono (ho prog A s₂ va vb B R (F₂.g g) (kp_rd F₁ kp ra) rb) (fun v s₃ h₃ => ?_) fun _ _ x => x
  obtain ⟨kp₃, r₃⟩ := h₃
  cases r₃
  refine wpAny_bind (wpAny_standAt (wpAny_bind (wpAny_holding (wpAny_truthy_bool ?_))))
  have F₃ := F₂.next kp₃
  refine wpAny_mono (hrest prog A s₃ env B R (F₃.g g) F₃.fm.vars) (fun v s₄ h₄ => ?_) fun _ _ x => x
  exact SPT.pre (o := .ret (.bool c)) (kb.mono fun _ h => .inr h) gr al (SPT.of (o := .ret (.bool c)) F₁ T₁ (fun _ _ e => by cases e) ⟨v, rfl, .of ((kp.trans kp₃).trans h₄.1), F₃.rd h₄.2⟩)
end
section
variable {w : World}
theorem nm_hung {sc : Sc} (h : sc.lookup (Str.ofString "_law_hung") = some .globalImplicit) : Nm w sc (Str.ofString "_law_hung") (.ref 109) := .mod h rfl (by decide +kernel)
theorem nm_parted {sc : Sc} (h : sc.lookup (Str.ofString "_law_parted") = some .globalImplicit) : Nm w sc (Str.ofString "_law_parted") (.ref 114) := .mod h rfl (by decide +kernel)
theorem law_body {ns : List Int} (hns : ns.length ≤ 1000) (P : Plain (widthOf ns) (csAt ns 5)) : ExsT w 10 scL none [(yS, .list (ns.map .int))] (fnBody (topSt 18)) (.ret (.bool true)) := by
  obtain ⟨ok, h5, hne⟩ := csAt_ok ns 5
  have hne := hne (by decide)
  generalize hcs : csAt ns 5 = cs at *
  obtain ⟨w1, w2, w3⟩ := width_le ns
  generalize hWW : widthOf ns = W at *
  have OK : Ok cs := ⟨ok.mem, h5⟩
  obtain ⟨D, p1, p2, p3, p4, p5⟩ := P.hung
  refine ExsT.ownBlock (x := yN) (blk := [st18 1]) (rest := (fnBody (topSt 18)).drop 2) (xs := nms cs) (ρ₁ := [(yS, .list (ns.map .int))]) (.inr rfl) rfl rfl (ExsT.of (Exs.cons ?_ Exs.nil)) ?_
  · rw [← hcs]
    have h := names_loop (w := w) hns
    exact fun prog A s env B h₀ M oa R g F => h prog A s env B h₀ M oa (R.mono (by decide)) g F
  refine ExsT.cons (ExT.of (Ex.assign (d := .int (modeOf ns)) (Ev.binop Ev.int (Ev.call (nm_sum rfl) keepsOk.builtin (Evs.cons (Ev.sliceI (Ev.name rfl) Pt.none (Pt.some Ev.int) Pt.none (by intro h; cases h) hns) Evs.nil) Fn.sum) Op2.addI) (.inl rfl))) ?_
  refine ExsT.cons (ExT.of (Ex.assign (d := Nn W) ?_ (.inl rfl))) ?_
  · rw [show Nn W = .int (7 + (modeOf ns).fmod 4200) by show PyData.int _ = _; rw [w3]]
    exact Ev.binop Ev.int (Ev.binop (Ev.name rfl) Ev.int (Op2.modI (by decide))) Op2.addI
  refine ExsT.cons (ExT.of (Ex.assign (d := Nn (2 ^ W)) ?_ (.inl rfl))) ?_
  · have o := Op2.powI (w := w) (k := 10) (a := 2) (n := (W : Int)) (by omega) (by
      have : intBits 2 ≤ 64 := PySem.intBits_le_64 (by decide) (by decide)
      have h2 : (intBits 2 : Int) * (W : Int) ≤ 64 * 4206 := Int.mul_le_mul (by omega) (by omega) (by omega) (by omega)
      omega)
    rw [Int.toNat_natCast, show ((2 : Int) ^ W) = ((2 ^ W : Nat) : Int) by simp] at o
    exact Ev.binop Ev.int (Ev.name rfl) o
  show ExsT w 10 scL none (rhoA (ns.map .int) cs (modeOf ns) W) (st18 5 :: st18 6 :: st18 7 :: ([st18 8, st18 9, st18 10] ++ (fnBody (topSt 18)).drop 11)) _
  refine ExsT.cons (ExT.of (rules_st h5 ok.mem)) ?_
  refine ExsT.cons (ExT.of (held_st h5 ok.mem)) ?_
  refine ExsT.cons (ExT.of (due_st h5 ok.mem rfl)) ?_
  refine ExsT.append (ExsT.of (prods_sts h5 ok.mem w1 (by omega) rfl)) ?_
  refine ExsT.ownBlock (x := yP) (blk := [st18 12]) (rest := [st18 13]) (.inl rfl) rfl rfl (ExsT.cons (parted_loop h5 w1 w2 ?_) (ExsT.of Exs.nil)) ?_
  · refine Nat.le_trans (beP_le _) (Nat.pow_le_pow_right (by decide) ?_)
    rw [Nat.mul_comm]
    exact Nat.mul_le_mul_right _ h5
  rw [P.zero, P.parted]
  refine ExsT.ret (ExT.returnAnd (EvT.call (nm_i2d rfl) (keepsOk.def rfl) (Evs.cons (Ev.name rfl) (Evs.cons (Ev.name rfl) Evs.nil)) (d := .list (iNs D)) ?_) (Ev.call (nm_hung rfl) (keepsOk.def rfl) (Evs.cons (Ev.name rfl) Evs.nil) (Fn.mono (hung_spec OK) (by decide))) ?_ ?_)
  · have := i2d_spec (w := w) p3 (by omega) (by omega) p4 p5
    rw [p2] at this
    exact this.mono (by decide)
  · rw [← p1]
    have o := Cm.eqD (w := w) (k := 10) (shaped_iNs D) (shaped_iNs D)
    rw [SeqAt.eqv_refl _ (SeqAt.canLay_of_shaped (shaped_iNs D))] at o
    exact o
  · have sh : SeqAt.shaped (.list (partedD cs)) = true := by rw [← P.parted]; exact shaped_iNs _
    refine Bop.and (a := true) (b := true) (Ev.cmp (Ev.name rfl) (Ev.call (nm_parted rfl) (keepsOk.def rfl) (Evs.cons (Ev.name rfl) Evs.nil) (Fn.mono (parted_spec OK hne) (by decide))) ?_) fun _ => Bop.one ?_
    · have o := Cm.eqD (w := w) (k := 10) sh sh
      rw [SeqAt.eqv_refl _ (SeqAt.canLay_of_shaped sh)] at o
      exact o
    · rw [show true = (((0 : Nat) : Int) == 0) from rfl]
      exact Ev.cmp (Ev.name rfl) Ev.int Cm.eqI
theorem law_spec {ns : List Int} (hns : ns.length ≤ 1000) (P : Plain (widthOf ns) (csAt ns 5)) : FnT w 11 (.ref 119) [.list (ns.map .int)] (.bool true) :=
  FnT.def (def_law w) rfl (law_body hns P)
end
end Mine
end
section
set_option Elab.async false
set_option maxRecDepth 100000
set_option linter.unusedVariables false
set_option maxHeartbeats 4000000
namespace Mine
/-! a search over all relations of at most five points -/
def tri (a b c : Nat) : Bool := Nat.testBit 126183023 (9 * a + 3 * b + c)
def okAt (C : List (List Nat)) (r : List Nat) (h x : Nat) : Bool := (List.range h).all fun g => tri (r.getD g 0) x ((C.getD h []).getD g 0)
noncomputable def genRow (C : List (List Nat)) : Nat → List (List Nat)
  | 0 => [[]]
  | h + 1 => (genRow C h).flatMap fun r => ([0, 1, 2].filter fun x => okAt C r h x).map fun x => r ++ [x]
def metOf (r : List Nat) : List Nat := (List.range r.length).filter fun g => r.getD g 0 != 0
def freeN (met row : List Nat) (p : Nat) : Bool := met.all fun g => row.getD g 0 != p
def stepN (met : List Nat) (rows : List (Nat × List Nat)) : List (Nat × List Nat) := rows.flatMap fun x => (((List.range x.1).filter fun p => freeN met x.2 p).map fun p => (x.1, x.2 ++ [p])) ++ [(x.1 + 1, x.2 ++ [x.1])]
/-- how many lie over each -/
def cvStep (r cv : List Nat) : List Nat := List.zipWith (fun c x => if x == 2 then c + 1 else c) cv r ++ [(r.filter (· == 1)).length]
noncomputable def mulN (c : Nat) : Nat → Int → List Int → List Int
  | _, carry, [] => [carry]
  | k, carry, q :: qs => (carry + ((k : Int) - c) * q) :: mulN c (k + 1) q qs
noncomputable def newton (cv : List Nat) : List Int := cv.foldl (fun Q c => mulN c 0 0 Q) [1]
def cntN (rows : List (Nat × List Nat)) (n : Nat) : List Nat := (List.range (n + 1)).map fun j => (rows.filter fun x => x.1 == j).length
noncomputable def leafOk (cv : List Nat) (rows : List (Nat × List Nat)) : Bool :=
  (newton cv == (cntN rows cv.length).map fun (n : Nat) => (n : Int)) && (Nat.ble (cv.foldl (fun a c => a * (1 + c)) 1) 127 && Nat.ble rows.length 60)
noncomputable def chk : Nat → List (List Nat) → List Nat → List (Nat × List Nat) → Bool
  | 0, C, cv, rows => leafOk cv rows
  | m + 1, C, cv, rows => leafOk cv rows && (genRow C C.length).all fun r => chk m (C ++ [r]) (cvStep r cv) (stepN (metOf r) rows)
/-- the first three points -/
noncomputable def chk3 (a b c : Nat) : Bool := chk 2 [[], [a], [b, c]] (cvStep [b, c] (cvStep [a] (cvStep [] []))) (stepN (metOf [b, c]) (stepN (metOf [a]) (stepN (metOf []) [(0, [])])))
theorem chk0 : chk 2 [] [] [(0, [])] = true := by decide +kernel
theorem chk3k000 : chk3 0 0 0 = true := by decide +kernel
theorem chk3k001 : chk3 0 0 1 = true := by decide +kernel
theorem chk3k002 : chk3 0 0 2 = true := by decide +kernel
theorem chk3k010 : chk3 0 1 0 = true := by decide +kernel
theorem chk3k020 : chk3 0 2 0 = true := by decide +kernel
theorem chk3k022 : chk3 0 2 2 = true := by decide +kernel
theorem chk3k100 : chk3 1 0 0 = true := by decide +kernel
theorem chk3k110 : chk3 1 1 0 = true := by decide +kernel
theorem chk3k111 : chk3 1 1 1 = true := by decide +kernel
theorem chk3k112 : chk3 1 1 2 = true := by decide +kernel
theorem chk3k122 : chk3 1 2 2 = true := by decide +kernel
theorem chk3k200 : chk3 2 0 0 = true := by decide +kernel
theorem chk3k201 : chk3 2 0 1 = true := by decide +kernel
theorem chk3k211 : chk3 2 1 1 = true := by decide +kernel
theorem chk3k221 : chk3 2 2 1 = true := by decide +kernel
theorem chk3k222 : chk3 2 2 2 = true := by decide +kernel
theorem chk3_all {a b c : Nat} (ha : a ∈ [0, 1, 2]) (hb : b ∈ [0, 1, 2]) (hc : c ∈ [0, 1, 2]) (ht : tri b c a = true) : chk3 a b c = true := by
  simp only [List.mem_cons, List.not_mem_nil, or_false] at ha hb hc
  rcases ha with rfl | rfl | rfl <;> rcases hb with rfl | rfl | rfl <;> rcases hc with rfl | rfl | rfl
  · exact chk3k000
  · exact chk3k001
  · exact chk3k002
  · exact chk3k010
  · exact absurd ht (by decide)
  · exact absurd ht (by decide)
  · exact chk3k020
  · exact absurd ht (by decide)
  · exact chk3k022
  · exact chk3k100
  · exact absurd ht (by decide)
  · exact absurd ht (by decide)
  · exact chk3k110
  · exact chk3k111
  · exact chk3k112
  · exact absurd ht (by decide)
  · exact absurd ht (by decide)
  · exact chk3k122
  · exact chk3k200
  · exact chk3k201
  · exact absurd ht (by decide)
  · exact absurd ht (by decide)
  · exact chk3k211
  · exact absurd ht (by decide)
  · exact absurd ht (by decide)
  · exact chk3k221
  · exact chk3k222
end Mine
end
section
set_option Elab.async false
set_option maxRecDepth 100000
set_option linter.unusedVariables false
set_option maxHeartbeats 4000000
open PySem
namespace Mine
/-! the order of the names -/
theorem Un_iff {c d : Cd} : Un c d = true ↔ d.ls.length < c.ls.length ∧ c.t = d.t ∧ c.t ≠ 2 ∧ c.ls.drop (c.ls.length - d.ls.length) = d.ls := by
  unfold Un
  simp
theorem Un_trans {c d e : Cd} (h1 : Un c d = true) (h2 : Un d e = true) : Un c e = true := by
  obtain ⟨a1, a2, a3, a4⟩ := Un_iff.mp h1
  obtain ⟨b1, b2, b3, b4⟩ := Un_iff.mp h2
  refine Un_iff.mpr ⟨by omega, a2.trans b2, a3, ?_⟩
  have b5 : (c.ls.drop (c.ls.length - d.ls.length)).drop (d.ls.length - e.ls.length) = e.ls := by rw [a4]; exact b4
  rw [List.drop_drop] at b5
  refine Eq.trans ?_ b5
  congr 1
  omega
theorem Un_asym {c d : Cd} (h1 : Un c d = true) : Un d c = false := by
  cases h : Un d c with
  | false => rfl
  | true => have := Un_trans h1 h; rw [Un_irr] at this; cases this
theorem Un_forest {c d e : Cd} (h1 : Un c d = true) (h2 : Un c e = true) : d = e ∨ Un d e = true ∨ Un e d = true := by
  obtain ⟨a1, a2, a3, a4⟩ := Un_iff.mp h1
  obtain ⟨b1, b2, b3, b4⟩ := Un_iff.mp h2
  have key : ∀ x y : Cd, x.ls.length < c.ls.length → y.ls.length < x.ls.length → c.ls.drop (c.ls.length - x.ls.length) = x.ls → c.ls.drop (c.ls.length - y.ls.length) = y.ls → x.ls.drop (x.ls.length - y.ls.length) = y.ls := fun x y h1 h2 h3 h4 => by
    have h5 : (c.ls.drop (c.ls.length - x.ls.length)).drop (x.ls.length - y.ls.length) = x.ls.drop (x.ls.length - y.ls.length) := by rw [h3]
    rw [List.drop_drop] at h5
    refine h5.symm.trans (Eq.trans ?_ h4)
    congr 1
    omega
  rcases Nat.lt_trichotomy d.ls.length e.ls.length with q | q | q
  · exact .inr (.inr (Un_iff.mpr ⟨q, by rw [← b2, a2], by rw [← b2]; exact a3, key e d b1 q b4 a4⟩))
  · refine .inl ?_
    rw [q, b4] at a4
    cases d; cases e
    simp_all
  · exact .inr (.inl (Un_iff.mpr ⟨q, by rw [← a2, b2], by rw [← a2]; exact a3, key d e a1 q a4 b4⟩))
/-! the search meets every list of names -/
def cdB (x y : Bool) : Nat := if x then 1 else if y then 2 else 0
theorem tri_ok : ∀ kg gk kh hk hg gh : Bool, ((!(kg && gk) && !(kh && hk) && !(hg && gh)) && ((!(kg && gh) || kh) && (!(kh && hg) || kg) && (!(gk && kh) || gh) && (!(gh && hk) || gk) && (!(hk && kg) || hg) && (!(hg && gk) || hk)) && ((!(kg && kh) || (gh || hg)) && (!(gk && gh) || (kh || hk)) && (!(hk && hg) || (kg || gk)))) = true → tri (cdB kg gk) (cdB kh hk) (cdB hg gh) = true := by decide +kernel
section
variable {cs : List Cd}
def cdAt (cs : List Cd) (h g : Nat) : Nat := cdB (Un (nth cs h) (nth cs g)) (Un (nth cs g) (nth cs h))
def rowTo (cs : List Cd) (k h : Nat) : List Nat := (List.range h).map (cdAt cs k)
def mat (cs : List Cd) (k : Nat) : List (List Nat) := (List.range k).map fun i => rowTo cs i i
theorem rowTo_get {k h g : Nat} (hg : g < h) : (rowTo cs k h).getD g 0 = cdAt cs k g := by
  unfold rowTo
  rw [List.getD_eq_getElem?_getD, List.getElem?_map, List.getElem?_range hg]; rfl
theorem mat_get {k h : Nat} (hh : h < k) : (mat cs k).getD h [] = rowTo cs h h := by
  unfold mat
  rw [List.getD_eq_getElem?_getD, List.getElem?_map, List.getElem?_range hh]; rfl
theorem nth_inj (hn : cs.Nodup) {i j : Nat} (hi : i < cs.length) (hj : j < cs.length) (h : nth cs i = nth cs j) : i = j := by
  unfold nth at h
  rw [List.getD_eq_getElem?_getD, List.getD_eq_getElem?_getD, List.getElem?_eq_getElem hi, List.getElem?_eq_getElem hj] at h
  exact (List.getElem_inj hn).mp h
theorem imp_b {a b : Bool} (h : a = true → b = true) : (!a || b) = true := by cases a <;> simp_all
theorem tri_cs (hn : cs.Nodup) {k h g : Nat} (hk : k < cs.length) (hh : h < cs.length) (hg : g < cs.length) (n1 : k ≠ h) (n2 : k ≠ g) (n3 : h ≠ g) : tri (cdAt cs k g) (cdAt cs k h) (cdAt cs h g) = true := by
  have m1 : nth cs k ≠ nth cs h := fun e => n1 (nth_inj hn hk hh e)
  have m2 : nth cs k ≠ nth cs g := fun e => n2 (nth_inj hn hk hg e)
  have m3 : nth cs h ≠ nth cs g := fun e => n3 (nth_inj hn hh hg e)
  refine tri_ok _ _ _ _ _ _ ?_
  generalize nth cs k = x at *
  generalize nth cs h = y at *
  generalize nth cs g = z at *
  have asym : ∀ a b : Cd, (!(Un a b && Un b a)) = true := fun a b => by
    cases e : Un a b with
    | false => rfl
    | true => rw [Un_asym e]; rfl
  have tr : ∀ a b c : Cd, (!(Un a b && Un b c) || Un a c) = true := fun a b c => imp_b fun e => by
    rw [Bool.and_eq_true] at e
    exact Un_trans e.1 e.2
  have fo : ∀ a b c : Cd, b ≠ c → (!(Un a b && Un a c) || (Un b c || Un c b)) = true := fun a b c hne => imp_b fun e => by
    rw [Bool.and_eq_true] at e
    rcases Un_forest e.1 e.2 with q | q | q
    · exact absurd q hne
    · rw [q]; rfl
    · rw [q, Bool.or_true]
  simp only [Bool.and_eq_true]
  exact ⟨⟨⟨⟨asym _ _, asym _ _⟩, asym _ _⟩, ⟨⟨⟨⟨⟨tr _ _ _, tr _ _ _⟩, tr _ _ _⟩, tr _ _ _⟩, tr _ _ _⟩, tr _ _ _⟩⟩, ⟨fo _ _ _ (Ne.symm m3), fo _ _ _ m1⟩, fo _ _ _ m2⟩
end
end Mine
end
section
set_option Elab.async false
set_option maxRecDepth 100000
set_option linter.unusedVariables false
set_option linter.unusedSimpArgs false
set_option maxHeartbeats 4000000
open PySem
namespace Mine
section
variable {cs : List Cd}
theorem cdB_mem (x y : Bool) : cdB x y ∈ [0, 1, 2] := by cases x <;> cases y <;> decide
theorem rowTo_succ (cs : List Cd) (k h : Nat) : rowTo cs k (h + 1) = rowTo cs k h ++ [cdAt cs k h] := by
  unfold rowTo
  rw [List.range_succ, List.map_append]; rfl
theorem mat_succ (cs : List Cd) (k : Nat) : mat cs (k + 1) = mat cs k ++ [rowTo cs k k] := by
  unfold mat
  rw [List.range_succ, List.map_append]; rfl
theorem mat_len (cs : List Cd) (k : Nat) : (mat cs k).length = k := by unfold mat; simp
theorem rowTo_len (cs : List Cd) (k h : Nat) : (rowTo cs k h).length = h := by unfold rowTo; simp
theorem genRow_mem (hn : cs.Nodup) {k : Nat} (hk : k < cs.length) : ∀ h, h ≤ k → rowTo cs k h ∈ genRow (mat cs k) h
  | 0, _ => List.mem_singleton.mpr rfl
  | h + 1, hh => by
    refine List.mem_flatMap.mpr ⟨rowTo cs k h, genRow_mem hn hk h (by omega), List.mem_map.mpr ⟨cdAt cs k h, List.mem_filter.mpr ⟨cdB_mem _ _, ?_⟩, (rowTo_succ cs k h).symm⟩⟩
    refine List.all_eq_true.mpr fun g hg => ?_
    have hg' := List.mem_range.mp hg
    rw [rowTo_get hg', mat_get (by omega), rowTo_get hg']
    exact tri_cs hn hk (by omega) (by omega) (by omega) (by omega) (by omega)
noncomputable def rwsN (cs : List Cd) : Nat → List (Nat × List Nat)
  | 0 => [(0, [])]
  | k + 1 => stepN (metOf (rowTo cs k k)) (rwsN cs k)
abbrev up (row : List Nat) : List Int := row.map fun (n : Nat) => (n : Int)
structure RowN (k : Nat) (x : Nat × List Nat) : Prop where
  len : x.2.length = k
  mx : mx (up x.2) + 1 = x.1
  lt : ∀ q ∈ x.2, q < x.1
theorem metOf_eq (cs : List Cd) (k : Nat) : metOf (rowTo cs k k) = metI cs k := by
  unfold metOf metI
  rw [rowTo_len]
  refine List.filter_congr fun g hg => ?_
  rw [rowTo_get (List.mem_range.mp hg)]
  unfold cdAt cdB
  cases Un (nth cs k) (nth cs g) <;> cases Un (nth cs g) (nth cs k) <;> rfl
theorem up_get (row : List Nat) (g : Nat) : (up row).getD g 0 = ((row.getD g 0 : Nat) : Int) := by
  rw [List.getD_eq_getElem?_getD, List.getD_eq_getElem?_getD, List.getElem?_map]
  cases row[g]? <;> rfl
theorem free_eq (row : List Nat) (p : Nat) : ∀ met : List Nat, freeOf met (up row) p = freeN met row p
  | [] => rfl
  | g :: met => by
    have ih := free_eq row p met
    unfold freeOf freeN at ih ⊢
    rw [List.filter_cons, List.all_cons, ← ih, up_get]
    by_cases h : row.getD g 0 = p
    · rw [h, if_pos (beq_self_eq_true _)]; simp
    · rw [if_neg (by rw [beq_iff_eq]; omega), bne_iff_ne.mpr h, Bool.true_and]
theorem flat_congr {α β : Type} {f g : α → List β} : ∀ {l : List α}, (∀ x ∈ l, f x = g x) → l.flatMap f = l.flatMap g
  | [], _ => rfl
  | a :: l, h => by rw [List.flatMap_cons, List.flatMap_cons, h a List.mem_cons_self, flat_congr fun x hx => h x (List.mem_cons_of_mem _ hx)]
theorem mx_snoc (row : List Int) (a : Int) : mx (row ++ [a]) = max (mx row) a := by
  unfold mx
  rw [List.foldl_append]; rfl
theorem rws_link (cs : List Cd) : ∀ k, rws cs k = (rwsN cs k).map (fun x => up x.2) ∧ ∀ x ∈ rwsN cs k, RowN k x
  | 0 => ⟨rfl, fun x hx => by
      rw [List.mem_singleton.mp hx]
      exact ⟨rfl, by decide, fun q hq => absurd hq List.not_mem_nil⟩⟩
  | k + 1 => by
    obtain ⟨h1, h2⟩ := rws_link cs k
    have top : ∀ x ∈ rwsN cs k, freeN (metI cs k) x.2 x.1 = true := fun x hx => by
      refine List.all_eq_true.mpr fun g hg => ?_
      have hg' := List.mem_range.mp (List.mem_filter.mp hg).1
      have hl := (h2 x hx).len
      rw [bne_iff_ne, List.getD_eq_getElem?_getD, List.getElem?_eq_getElem (by omega)]
      exact Nat.ne_of_lt ((h2 x hx).lt _ (List.getElem_mem _))
    constructor
    · show (rws cs k).flatMap _ = (stepN (metOf (rowTo cs k k)) (rwsN cs k)).map _
      unfold stepN
      rw [h1, metOf_eq, List.map_flatMap, List.flatMap_map]
      refine flat_congr fun x hx => ?_
      have hm := (h2 x hx).mx
      rw [show (mx (up x.2) + 2).toNat = x.1 + 1 by omega, List.range_succ, List.filter_append, List.map_append, List.map_append, List.map_map]
      congr 1
      · rw [show (List.range x.1).filter (freeOf (metI cs k) (up x.2)) = (List.range x.1).filter fun p => freeN (metI cs k) x.2 p from List.filter_congr fun p _ => free_eq _ _ _]
        refine List.map_congr_left fun p _ => ?_
        show up x.2 ++ [(p : Int)] = up (x.2 ++ [p])
        rw [up, up, List.map_append]; rfl
      · rw [List.filter_cons, free_eq, if_pos (top x hx)]
        show [up x.2 ++ [(x.1 : Int)]] = [up (x.2 ++ [x.1])]
        rw [up, up, List.map_append]; rfl
    · intro y hy
      obtain ⟨x, hx, hy⟩ := List.mem_flatMap.mp hy
      obtain ⟨l1, l2, l3⟩ := h2 x hx
      have upa : ∀ p : Nat, up (x.2 ++ [p]) = up x.2 ++ [(p : Int)] := fun p => by rw [up, up, List.map_append]; rfl
      rcases List.mem_append.mp hy with hy | hy
      · obtain ⟨p, hp, rfl⟩ := List.mem_map.mp hy
        have hp' := List.mem_range.mp (List.mem_filter.mp hp).1
        refine ⟨by rw [List.length_append, l1]; rfl, ?_, fun q hq => ?_⟩
        · show mx (up (x.2 ++ [p])) + 1 = x.1
          rw [upa, mx_snoc]; omega
        · rcases List.mem_append.mp hq with hq | hq
          · exact l3 q hq
          · rw [List.mem_singleton.mp hq]; exact hp'
      · rw [List.mem_singleton.mp hy]
        refine ⟨by rw [List.length_append, l1]; rfl, ?_, fun q hq => ?_⟩
        · show mx (up (x.2 ++ [x.1])) + 1 = ((x.1 + 1 : Nat) : Int)
          rw [upa, mx_snoc]; omega
        · show q < x.1 + 1
          rcases List.mem_append.mp hq with hq | hq
          · have := l3 q hq; omega
          · rw [List.mem_singleton.mp hq]; omega
noncomputable def cvN (cs : List Cd) : Nat → List Nat
  | 0 => []
  | k + 1 => cvStep (rowTo cs k k) (cvN cs k)
theorem chk_sound (hn : cs.Nodup) : ∀ m k, chk m (mat cs k) (cvN cs k) (rwsN cs k) = true → k ≤ cs.length → cs.length ≤ k + m → leafOk (cvN cs cs.length) (rwsN cs cs.length) = true
  | 0, k, h, h1, h2 => by
    have : k = cs.length := by omega
    subst this
    exact h
  | m + 1, k, h, h1, h2 => by
    unfold chk at h
    rw [Bool.and_eq_true] at h
    by_cases hk : k = cs.length
    · subst hk; exact h.1
    · have hk' : k < cs.length := by omega
      have := List.all_eq_true.mp h.2 (rowTo cs k k) (by rw [mat_len]; exact genRow_mem hn hk' k (Nat.le_refl _))
      rw [← mat_succ] at this
      exact chk_sound hn m (k + 1) this hk' (by omega)
theorem leaf_all (hn : cs.Nodup) (h5 : cs.length ≤ 5) : leafOk (cvN cs cs.length) (rwsN cs cs.length) = true := by
  by_cases h1 : cs.length ≤ 2
  · exact chk_sound hn 2 0 chk0 (Nat.zero_le _) (by omega)
  · refine chk_sound hn 2 3 ?_ (by omega) (by omega)
    show chk3 (cdAt cs 1 0) (cdAt cs 2 0) (cdAt cs 2 1) = true
    exact chk3_all (cdB_mem _ _) (cdB_mem _ _) (cdB_mem _ _) (tri_cs hn (by omega) (by omega) (by omega) (by decide) (by decide) (by decide))
/-! what the search says -/
theorem cs_eq (cs : List Cd) : cs = (List.range cs.length).map (nth cs) := by
  refine List.ext_getElem (by simp) fun i h1 h2 => ?_
  rw [List.getElem_map, List.getElem_range]
  unfold nth
  rw [List.getD_eq_getElem?_getD, List.getElem?_eq_getElem h1]; rfl
def ovTo (cs : List Cd) (k i : Nat) : Nat := ((List.range k).filter fun j => Un (nth cs i) (nth cs j)).length
theorem ovTo_all (cs : List Cd) (i : Nat) : ovTo cs cs.length i = ov cs (nth cs i) := by
  unfold ovTo ov
  conv => rhs; arg 1; arg 2; rw [cs_eq cs]
  rw [List.filter_map, List.length_map]
  rfl
theorem zip_map {α β : Type} (f : α → α → β) (g h : Nat → α) : ∀ l : List Nat, List.zipWith f (l.map g) (l.map h) = l.map fun i => f (g i) (h i)
  | [] => rfl
  | _ :: l => congrArg _ (zip_map f g h l)
theorem cv_to (cs : List Cd) : ∀ k, cvN cs k = (List.range k).map (ovTo cs k)
  | 0 => rfl
  | k + 1 => by
    show cvStep (rowTo cs k k) (cvN cs k) = _
    rw [cv_to cs k]
    unfold cvStep rowTo
    rw [zip_map, List.range_succ, List.map_append, List.filter_map, List.length_map]
    have succ : ∀ i, ovTo cs (k + 1) i = ovTo cs k i + if Un (nth cs i) (nth cs k) then 1 else 0 := fun i => by
      unfold ovTo
      rw [List.range_succ, List.filter_append, List.length_append, List.filter_cons]
      cases Un (nth cs i) (nth cs k) <;> rfl
    congr 1
    · refine List.map_congr_left fun i _ => ?_
      rw [succ]
      unfold cdAt cdB
      cases e : Un (nth cs k) (nth cs i) with
      | true => rw [Un_asym e]; rfl
      | false => cases Un (nth cs i) (nth cs k) <;> rfl
    · show [((List.range k).filter ((· == 1) ∘ cdAt cs k)).length] = [ovTo cs (k + 1) k]
      rw [succ, Un_irr, show (List.range k).filter ((· == 1) ∘ cdAt cs k) = (List.range k).filter fun j => Un (nth cs k) (nth cs j) from List.filter_congr fun j _ => ?_]
      · rfl
      · show (cdAt cs k j == 1) = _
        unfold cdAt cdB
        cases Un (nth cs k) (nth cs j) <;> cases Un (nth cs j) (nth cs k) <;> rfl
theorem cv_eq (cs : List Cd) : cvN cs cs.length = (List.range cs.length).map fun i => ov cs (nth cs i) := by
  rw [cv_to]
  exact List.map_congr_left fun i _ => ovTo_all cs i
theorem ab_fold (b : Nat) (cs : List Cd) : ∀ n, ((List.range n).map fun i => ov cs (nth cs i)).foldl (fun a c => a * (b + c)) 1 = abP b cs n
  | 0 => rfl
  | n + 1 => by
    rw [List.range_succ, List.map_append, List.foldl_append, ab_fold b cs n]; rfl
theorem be_fold {b : Nat} (cs : List Cd) (hb : cs.length ≤ b) : ∀ n, ((List.range n).map fun i => ov cs (nth cs i)).foldl (fun (a : Int) c => a * ((b : Int) - (c : Nat))) 1 = ((beP b cs n : Nat) : Int)
  | 0 => rfl
  | n + 1 => by
    rw [List.range_succ, List.map_append, List.foldl_append, be_fold cs hb n]
    show ((beP b cs n : Nat) : Int) * ((b : Int) - ((ov cs (nth cs n) : Nat) : Int)) = ((beP b cs n * (b - ov cs (nth cs n)) : Nat) : Int)
    have := ov_le cs (nth cs n)
    rw [Int.natCast_mul, show ((b - ov cs (nth cs n) : Nat) : Int) = (b : Int) - ((ov cs (nth cs n) : Nat) : Int) by omega]
end
/-! Newton's form -/
noncomputable def evN (x : Int) : Nat → List Int → Int
  | _, [] => 0
  | k, q :: qs => q + (x - k) * evN x (k + 1) qs
theorem ev_mul (x : Int) (c : Nat) : ∀ (Q : List Int) (k : Nat) (carry : Int), evN x k (mulN c k carry Q) = carry + (x - c) * evN x k Q
  | [], k, carry => by simp [mulN, evN]
  | q :: qs, k, carry => by
    show carry + ((k : Int) - c) * q + (x - k) * evN x (k + 1) (mulN c (k + 1) q qs) = carry + (x - c) * (q + (x - k) * evN x (k + 1) qs)
    rw [ev_mul x c qs (k + 1) q]
    generalize evN x (k + 1) qs = E
    have e1 : (x - k) * (q + (x - c) * E) = (x - k) * q + (x - c) * ((x - k) * E) := by rw [Int.mul_add, Int.mul_left_comm]
    rw [e1, Int.mul_add, show ((k : Int) - c) * q = (x - c) * q - (x - k) * q by rw [← Int.sub_mul]; congr 1; omega]
    omega
theorem ev_newton (x : Int) : ∀ (cv : List Nat) (Q : List Int), evN x 0 (cv.foldl (fun Q c => mulN c 0 0 Q) Q) = cv.foldl (fun (a : Int) c => a * (x - (c : Nat))) (evN x 0 Q)
  | [], Q => rfl
  | c :: cv, Q => by
    rw [List.foldl_cons, List.foldl_cons, ev_newton x cv, ev_mul, Int.zero_add, Int.mul_comm]
theorem peel1 {b B₀ k q : Nat} {P : List Nat} (h : ((quo b B₀ k : Nat) : Int) = evN b k (up (P.drop k))) (hq : P[k]? = some q) (hlt : q < b - k) : rem b B₀ k = q ∧ ((quo b B₀ (k + 1) : Nat) : Int) = evN b (k + 1) (up (P.drop (k + 1))) := by
  obtain ⟨hk, e⟩ := List.getElem?_eq_some_iff.mp hq
  rw [List.drop_eq_getElem_cons hk, e] at h
  have hb : (b : Int) - k = ((b - k : Nat) : Int) := by omega
  have h' : ((quo b B₀ k : Nat) : Int) = (q : Int) + ((b - k : Nat) : Int) * evN b (k + 1) (up (P.drop (k + 1))) := by rw [← hb]; exact h
  obtain ⟨d1, d2⟩ := (Int.ediv_emod_unique (show (0 : Int) < ((b - k : Nat) : Int) by omega)).mpr ⟨h'.symm, by omega, by omega⟩
  refine ⟨?_, ?_⟩
  · have : ((quo b B₀ k % (b - k) : Nat) : Int) = (q : Int) := by rw [Int.natCast_emod]; exact d2
    exact Int.ofNat.inj this
  · show ((quo b B₀ k / (b - k) : Nat) : Int) = _
    rw [Int.natCast_ediv]; exact d1
theorem peel {b B₀ : Nat} {P : List Nat} (h0 : (B₀ : Int) = evN b 0 (up P)) (hP : ∀ k q, P[k]? = some q → q < b - k) : ∀ k, ((quo b B₀ k : Nat) : Int) = evN b k (up (P.drop k))
  | 0 => h0
  | k + 1 => by
    have ih := peel h0 hP k
    cases e : P[k]? with
    | some q => exact (peel1 ih e (hP k q e)).2
    | none =>
      have hl := List.getElem?_eq_none_iff.mp e
      rw [List.drop_of_length_le hl] at ih
      rw [List.drop_of_length_le (by omega)]
      have h1 : quo b B₀ k = 0 := Int.ofNat.inj ih
      show ((quo b B₀ k / (b - k) : Nat) : Int) = 0
      rw [h1, Nat.zero_div]; rfl
section
variable {cs : List Cd}
theorem parted_plain {b : Nat} (hn : cs.Nodup) (h5 : cs.length ≤ 5) (h0 : cs ≠ []) (hb : 128 ≤ b) :
    iNs ((List.range (cs.length + 1)).map (rem b (beP b cs cs.length))) = partedD cs ∧ quo b (beP b cs cs.length) (cs.length + 1) = 0 ∧ abP 1 cs cs.length ≤ 127 := by
  have hL := leaf_all hn h5
  unfold leafOk at hL
  rw [Bool.and_eq_true, Bool.and_eq_true] at hL
  obtain ⟨l1, l2, l3⟩ := hL
  have l1 := eq_of_beq l1
  have l2 := Nat.le_of_ble_eq_true l2
  have l3 := Nat.le_of_ble_eq_true l3
  rw [cv_eq] at l1 l2
  rw [List.length_map, List.length_range] at l1
  rw [ab_fold 1] at l2
  generalize hP : cntN (rwsN cs cs.length) cs.length = P at l1
  have hB : ((beP b cs cs.length : Nat) : Int) = evN b 0 (up P) := by
    rw [← be_fold cs (by omega), up, ← l1]
    unfold newton
    rw [ev_newton]
    congr 1
  have hPl : P.length = cs.length + 1 := by rw [← hP]; unfold cntN; simp
  have hPg : ∀ k, k ≤ cs.length → P[k]? = some ((rwsN cs cs.length).filter fun x => x.1 == k).length := fun k hk => by
    rw [← hP]
    unfold cntN
    rw [List.getElem?_map, List.getElem?_range (by omega)]; rfl
  have hlt : ∀ k q, P[k]? = some q → q < b - k := fun k q hq => by
    have hk : k < P.length := (List.getElem?_eq_some_iff.mp hq).1
    rw [hPg k (by omega)] at hq
    cases hq
    have := List.length_filter_le (fun x => x.1 == k) (rwsN cs cs.length)
    omega
  have pl := peel hB hlt
  refine ⟨?_, ?_, l2⟩
  · unfold partedD upto iNs
    rw [List.map_map, List.map_map]
    refine List.map_congr_left fun k hk => ?_
    have hk' : k ≤ cs.length := by have := List.mem_range.mp hk; omega
    show Nn (rem b (beP b cs cs.length) k) = PyData.int (cntR cs (k : Int))
    rw [(peel1 (pl k) (hPg k hk') (hlt k _ (hPg k hk'))).1]
    obtain ⟨r1, r2⟩ := rws_link cs cs.length
    unfold cntR
    rw [r1, List.filter_map, List.length_map]
    show PyData.int _ = PyData.int _
    congr 2
    congr 1
    refine List.filter_congr fun x hx => ?_
    have := (r2 x hx).mx
    show (x.1 == k) = (mx (up x.2) + 1 == (k : Int))
    rw [this]
    by_cases e : x.1 = k
    · rw [e, beq_self_eq_true, beq_self_eq_true]
    · rw [beq_eq_false_iff_ne.mpr e, beq_eq_false_iff_ne.mpr (by omega)]
  · have := pl (cs.length + 1)
    rw [List.drop_of_length_le (by omega)] at this
    exact Int.ofNat.inj this
end
end Mine
end
section
set_option Elab.async false
set_option maxRecDepth 100000
set_option linter.unusedVariables false
set_option linter.unusedSimpArgs false
set_option maxHeartbeats 4000000
open PySem
namespace Mine
section
variable {cs : List Cd}
theorem hfr_bd (cs : List Cd) : ∀ i, (∀ f ∈ hfr cs i, 0 ≤ f ∧ f ≤ (i : Nat)) ∧ ((i : Nat) : Int) ∈ hfr cs i
  | 0 => ⟨fun f hf => by rw [List.mem_singleton.mp hf]; decide, List.mem_singleton.mpr rfl⟩
  | i + 1 => by
    obtain ⟨h1, h2⟩ := hfr_bd cs i
    refine ⟨fun f hf => ?_, ?_⟩
    · rcases List.mem_append.mp hf with hf | hf
      · obtain ⟨a, ha, rfl⟩ := List.mem_map.mp hf
        have := h1 a ha
        omega
      · obtain ⟨l, hl, hf⟩ := List.mem_flatten.mp hf
        rw [List.eq_of_mem_replicate hl] at hf
        have := h1 f hf
        omega
    · exact List.mem_append.mpr (.inl (List.mem_map.mpr ⟨_, h2, by omega⟩))
/-- the sum of b to the power of each -/
noncomputable def pw (b : Nat) : List Int → Nat
  | [] => 0
  | f :: fs => b ^ f.toNat + pw b fs
theorem pw_append (b : Nat) : ∀ xs ys : List Int, pw b (xs ++ ys) = pw b xs + pw b ys
  | [], ys => by simp [pw]
  | x :: xs, ys => by
    show b ^ x.toNat + pw b (xs ++ ys) = b ^ x.toNat + pw b xs + pw b ys
    rw [pw_append b xs ys]; omega
theorem pw_inc (b : Nat) : ∀ xs : List Int, (∀ f ∈ xs, 0 ≤ f) → pw b (xs.map (· + 1)) = b * pw b xs
  | [], _ => by simp [pw]
  | x :: xs, h => by
    have h0 := h x List.mem_cons_self
    show b ^ (x + 1).toNat + pw b (xs.map (· + 1)) = b * (b ^ x.toNat + pw b xs)
    rw [pw_inc b xs fun f hf => h f (List.mem_cons_of_mem _ hf), show (x + 1).toNat = x.toNat + 1 by omega, Nat.pow_succ, Nat.mul_add, Nat.mul_comm b (b ^ x.toNat)]
theorem pw_rep (b : Nat) (xs : List Int) : ∀ n, pw b (List.replicate n xs).flatten = n * pw b xs
  | 0 => by simp [pw]
  | n + 1 => by rw [List.replicate_succ, List.flatten_cons, pw_append, pw_rep b xs n, Nat.succ_mul]; omega
theorem pw_hfr (b : Nat) (cs : List Cd) : ∀ i, pw b (hfr cs i) = abP b cs i
  | 0 => by simp [hfr, pw, abP]
  | i + 1 => by
    show pw b ((hfr cs i).map (· + 1) ++ (List.replicate (ov cs (cs.getD i ⟨[], 0⟩)) (hfr cs i)).flatten) = abP b cs i * (b + ov cs (nth cs i))
    rw [pw_append, pw_inc b _ (fun f hf => ((hfr_bd cs i).1 f hf).1), pw_rep, pw_hfr b cs i, Nat.mul_add, Nat.mul_comm b, Nat.mul_comm (ov _ _)]
    rfl
theorem pw_one : ∀ xs : List Int, pw 1 xs = xs.length
  | [] => rfl
  | x :: xs => by
    show 1 ^ x.toNat + pw 1 xs = xs.length + 1
    rw [pw_one xs, Nat.one_pow]; omega
abbrev cntL (fs : List Int) (m : Nat) : List Nat := (List.range m).map fun (j : Nat) => fs.countP (· == (j : Int))
theorem val_snoc (n m : Nat) (g : Nat → Nat) : val n ((List.range (m + 1)).map g) = val n ((List.range m).map g) + 2 ^ (n * m) * g m := by
  rw [List.range_succ, List.map_append, val_append, List.length_map, List.length_range]
  simp [val]
theorem val_cnt (n : Nat) : ∀ (fs : List Int) (m : Nat), (∀ f ∈ fs, 0 ≤ f ∧ f < (m : Nat)) → val n (cntL fs m) = pw (2 ^ n) fs
  | [], m, _ => by
    show val n ((List.range m).map fun j => 0) = 0
    induction m with
    | zero => rfl
    | succ m ih => rw [val_snoc, ih (by simp)]; simp
  | f :: fs, m, h => by
    have ih := val_cnt n fs m fun g hg => h g (List.mem_cons_of_mem _ hg)
    obtain ⟨f0, f1⟩ := h f List.mem_cons_self
    show _ = (2 ^ n) ^ f.toNat + pw (2 ^ n) fs
    rw [← ih]
    have key : ∀ k : Nat, val n ((List.range k).map fun (j : Nat) => (f :: fs).countP (· == (j : Int))) = (if f.toNat < k then (2 ^ n) ^ f.toNat else 0) + val n ((List.range k).map fun (j : Nat) => fs.countP (· == (j : Int))) := fun k => by
      induction k with
      | zero => rfl
      | succ k ihk =>
        by_cases hk : f = (k : Int)
        · have c1 : (f :: fs).countP (· == (k : Int)) = fs.countP (· == (k : Int)) + 1 := by rw [List.countP_cons, hk]; simp
          have c2 : ¬ f.toNat < k := by omega
          have c3 : f.toNat < k + 1 := by omega
          have c4 : f.toNat = k := by omega
          rw [val_snoc, val_snoc, ihk, c1, if_neg c2, if_pos c3, c4, Nat.mul_add, Nat.mul_one, Nat.pow_mul]
          omega
        · have c1 : (f :: fs).countP (· == (k : Int)) = fs.countP (· == (k : Int)) := by
            rw [List.countP_cons, if_neg (by rw [beq_iff_eq]; exact hk), Nat.add_zero]
          rw [val_snoc, val_snoc, ihk, c1]
          by_cases h2 : f.toNat < k
          · have c3 : f.toNat < k + 1 := by omega
            rw [if_pos h2, if_pos c3]; omega
          · have c3 : ¬ f.toNat < k + 1 := by omega
            rw [if_neg h2, if_neg c3]; omega
    rw [key m, if_pos (by omega)]
theorem hung_plain {W : Nat} (hn : cs.Nodup) (h5 : cs.length ≤ 5) (h0 : cs ≠ []) (hW : 7 ≤ W) :
    ∃ D : List Nat, iNs D = hungD cs ∧ val W D = abP (2 ^ W) cs cs.length ∧ (∀ d ∈ D, d < 2 ^ W) ∧ D.length ≤ 16 ∧ ∀ h : D ≠ [], D.getLast h ≠ 0 := by
  obtain ⟨_, _, h127⟩ := parted_plain (b := 128) hn h5 h0 (Nat.le_refl _)
  obtain ⟨b1, b2⟩ := hfr_bd cs cs.length
  have hlen : (hfr cs cs.length).length ≤ 127 := by rw [← pw_one, pw_hfr]; exact h127
  have h27 : 2 ^ 7 ≤ 2 ^ W := Nat.pow_le_pow_right (by decide) hW
  refine ⟨cntL (hfr cs cs.length) (cs.length + 1), ?_, ?_, fun d hd => ?_, ?_, fun h => ?_⟩
  · unfold hungD upto iNs
    rw [List.map_map, List.map_map]
    rfl
  · rw [val_cnt W _ _ fun f hf => ?_, pw_hfr]
    have := b1 f hf
    omega
  · obtain ⟨j, _, rfl⟩ := List.mem_map.mp hd
    have : (hfr cs cs.length).countP (· == (j : Int)) ≤ (hfr cs cs.length).length := List.countP_le_length
    show (hfr cs cs.length).countP (· == (j : Int)) < 2 ^ W
    omega
  · rw [List.length_map, List.length_range]; omega
  · have hpos : 0 < (hfr cs cs.length).countP (· == ((cs.length : Nat) : Int)) := List.countP_pos_iff.mpr ⟨_, b2, beq_self_eq_true _⟩
    have e : cntL (hfr cs cs.length) (cs.length + 1) = (List.range cs.length).map (fun (j : Nat) => (hfr cs cs.length).countP (· == (j : Int))) ++ [(hfr cs cs.length).countP (· == ((cs.length : Nat) : Int))] := by
      unfold cntL
      rw [List.range_succ, List.map_append]; rfl
    simp only [e, List.getLast_append, List.getLast_singleton]
    simp
    omega
end
theorem plain_all (ns : List Int) : Plain (widthOf ns) (csAt ns 5) := by
  obtain ⟨ok, h5, hne⟩ := csAt_ok ns 5
  obtain ⟨w1, w2, _⟩ := width_le ns
  have h27 : 2 ^ 7 ≤ 2 ^ widthOf ns := Nat.pow_le_pow_right (by decide) w1
  obtain ⟨p1, p2, _⟩ := parted_plain (b := 2 ^ widthOf ns) ok.nodup h5 (hne (by decide)) h27
  exact ⟨hung_plain ok.nodup h5 (hne (by decide)) w1, p1, p2⟩
end Mine
end
section
open PySem PySem.W PyProof.Rows
set_option Elab.async false
set_option maxRecDepth 100000
set_option maxHeartbeats 8000000
namespace Mine
theorem post_true (args : List WData) : PySem.Challenge.rw_pw0016_01.row.claim.post args (.bool true) args = true := by
  have h1 : WShape.has [] (.bool true) .bool = true := by decide +kernel
  have h2 : PySem.W.same (.bool true) (.bool true) = true := by decide +kernel
  show (WShape.has [] (.bool true) .bool && (WTm.eq .res (.lit (.bool true))).holds [] { args := args, res := some (.bool true), after := args }) = true
  rw [h1, Bool.true_and]
  unfold WTm.holds
  simp [WTm.value, h2]
theorem ints_all {B : Addr → Obj → Prop} : ∀ {vs : List Value} {ns : List Int}, IntsAre vs ns → Rds B vs (ns.map .int)
  | _, _, .nil => .nil
  | _, _, .cons n t r => .cons (.int n t) (ints_all r)
theorem ints_rds {P : Params} {h : Heap} {l : Addr} {vs : List Value} {ns : List Int} (x : Well P h (.ref l) (ofPy (.list (ns.map .int)))) (hL : h.IsList l vs.toArray) (hI : IntsAre vs ns) : Rds (HasB (fun _ => True) h) [.ref l] [.list (ns.map .int)] := by
  have e : ∃ us : List Value, h.get? l = some { cls := .type "list", data := .seq us.toArray } := by
    generalize hd : ofPy (.list (ns.map .int)) = d at x
    cases x with
    | list e _ => exact ⟨_, e⟩
    | _ => first | (unfold ofPy at hd; cases hd) | cases hd
  obtain ⟨us, e⟩ := e
  obtain ⟨o', h1, h2, n, h3⟩ := hL
  rw [e] at h1
  cases h1
  cases h3
  exact .cons (.list ⟨e, trivial⟩ (ints_all hI)) .nil
theorem fin_good {cl : Str → Option Addr} {mean : ExcName → Option Value} {ns : List Int} {s₁ s' : Shared} {v : Value} (hT : TabsAt [(77, 73), (70, 66)] s₁.heap) (hg : s₁.gens = #[]) (h : PostT (fun _ => True) s₁ (.bool true) v s') :
    GoodWG PySem.Challenge.rw_pw0016_01.row.claim cl mean [ofPy (PyData.list (List.map PyData.int ns))] s₁ (.ok (.ret v)) s' := by
  obtain ⟨⟨h', tk, rfl, hk⟩, tb, gr, rd⟩ := h
  cases rd with
  | bool =>
  have grown : ∀ b, TT b → isCodeTable s₁.heap b ∧ s₁.heap.get? b = some (tabObj #[]) ∧ ∃ ps, h'.get? b = some (tabObj ps) := fun b hb => by
    rcases hb with rfl | rfl
    · have q := hT (70, 66) (by simp)
      exact ⟨(q.1.tab q.2).isCodeTable, q.2, tb.obj (.inl rfl)⟩
    · have q := hT (77, 73) (by simp)
      exact ⟨(q.1.tab q.2).isCodeTable, q.2, tb.obj (.inr rfl)⟩
  refine ⟨.inl ⟨.bool true, .bool true, [], rfl, fun _ => rfl, .bool _, post_true _, fun _ => ⟨List.nodup_nil, fun a h => absurd h List.not_mem_nil⟩⟩, ⟨fun b o e => ?_, fun b o e => ?_⟩, rfl, .of_eq hg⟩
  · by_cases hb : TT b
    · obtain ⟨ht, e0, ps, hP⟩ := grown b hb
      rw [e] at e0; cases e0
      exact .inr (.inl ⟨ht, rfl, #[], ps, rfl, by rw [Array.empty_append]; exact hP⟩)
    · exact .inl (hk b o hb e)
  · by_cases hb : TT b
    · obtain ⟨_, _, ps, hP⟩ := grown b hb
      exact ⟨_, hP⟩
    · exact ⟨o, hk b o hb e⟩
theorem join (hP : ∀ ns : List Int, Plain (widthOf ns) (csAt ns 5)) : PySem.Challenge.rw_pw0016_01.Holds := Mine.hd (by
  k_fill
  intro w s₀ s₁ mg mb GG Y fa o pm cd doc dV kV ho hdt hcd hD hmg hg args vals as hpre hlay hrd hwl hlo
  have KX := km_in_of Y
  km_tabs Y
  refine Ground.open GG ?_
  intro T B D TE TW
  have hfa : fa = 119 := by
    have q := mg_of (n := Str.ofString "law") (v := .ref 119) KX T.g rfl
    have q2 : some (Value.ref fa) = some (Value.ref 119) := hmg.symm.trans q
    cases q2; rfl
  subst hfa
  have hO : ∃ ob, s₁.heap.get? 4 = some ob ∧ ob.cls = .type "module" ∧ ob.dict = some builtinsNs ∧ ob.data = .plain := by
    obtain ⟨bm, ob, M⟩ := bmod_of_top T
    have q := mg_of (n := Str.ofString "__builtins__") (v := .ref 4) KX T.g rfl
    have q2 : some (Value.ref bm) = some (Value.ref 4) := M.name.symm.trans q
    cases q2
    exact ⟨ob, M.obj, M.cls, M.dict, M.data⟩
  km_lay T hmg ho hdt cd
  clear hmg
  wrow_args hpre hlay hrd hwl hlo
  rename_i ns hs hlay0 hLay hr1 hl2 as4 as3 l vs as5 hL ra w1 r0 hI hr hcond hcond2
  have hns : ns.length ≤ 1000 := by omega
  have hlaw := law_spec (w := w) (ns := ns) hns (hP ns)
  have hG : Mine.G w s₁.heap := ⟨KX, ⟨mg, mb, topRead_of T⟩, hO⟩
  have hTb : Tb s₁.heap := ⟨⟨#[], hT8 66 (by simp), .inl rfl⟩, ⟨#[], hT8 73 (by simp), .inl rfl⟩⟩
  have hR : Rm 11 callerA := ⟨rfl, by decide, by decide⟩
  have hrd' : Rds (HasB (fun _ => True) s₁.heap) [.ref l] [.list (ns.map .int)] := by
    exact ints_rds w1 hL hI
  exact wpAny_mono (hlaw _ callerA s₁ [.ref l] (fun _ => True) hR hG hTb hrd') (fun v s' h => fin_good hT9 hg h) (fun _ _ e => e.elim))
end Mine
end
theorem PySem.Challenge.cw_pw0016_01_holds : PySem.Challenge.rw_pw0016_01.Holds :=
  Mine.join Mine.plain_all
