import PyProof.Rows.All
import Wide.All
import OpenK.KCall
import OpenK.KWalk
import Open.FastT9
import Wide.FinOn
import Lean
import PySem.Challenge.RW_rt0038_01
set_option Elab.async false
set_option maxRecDepth 100000
set_option linter.unusedVariables false

noncomputable section PartKF
namespace VS
open PySem PySem.W
/-- the text's statement at a place -/
def stAt (n : Nat) : Stmt := PySem.Challenge.pw_rt0038_01.main.body.getD n (.Pass ⟨0, 0, 0, 0⟩)
/-- the function object that a def leaves -/
def fnOf (st : Stmt) (m : Value) (c : Addr) : Obj := match st with
  | .FunctionDef name args body _ _ _ scope _ _ _ => { cls := .type "function", data := .func { name := name, qualname := name, params := args, body := .stmts body, scope := scope, globals := 3, closure := [], defaults := .none, kwdefaults := .none, pyModule := m, code := .ref c } }
  | _ => default
def cdOf (l : List Value) : Obj := { cls := .type "code", data := .fields l.toArray }
def gEnt (P : Params) (x : Str) (t : Tok) (v : Value) : DictEntry := ⟨PyData.keyHash P x, .str x t, v⟩

def globs (P : Params) : Array DictEntry := #[
  gEnt P "__name__" 165 (.str "law_rt0038_01" 367),
  gEnt P "__doc__" 166 .none,
  gEnt P "__package__" 167 .none,
  gEnt P "__loader__" 168 (.builtin "__main__.__loader__#opaque"),
  gEnt P "__spec__" 169 .none,
  gEnt P "__annotations__" 170 (.ref 6),
  gEnt P "__builtins__" 171 (.ref 4),
  gEnt P "__file__" 173 (.str "/claim/cut.py" 172),
  gEnt P "__cached__" 174 .none,
  gEnt P "_wall" 193 (.ref 21),
  gEnt P "_plain_name" 204 (.ref 28),
  gEnt P "ABCMeta" 230 (.ref 45),
  gEnt P "_ABCLike" 273 (.ref 78),
  gEnt P "_abc_plain_meta" 280 (.ref 87),
  gEnt P "fspath" 292 (.ref 94),
  gEnt P "_check_arg_types" 305 (.ref 101),
  gEnt P "_get_sep" 314 (.ref 108),
  gEnt P "join" 325 (.ref 115),
  gEnt P "basename" 334 (.ref 122),
  gEnt P "dirname" 344 (.ref 129),
  gEnt P "commonpath" 350 (.ref 134),
  gEnt P "sorted_list_difference" 366 (.ref 141),
  gEnt P "_law_drawn" 380 (.ref 148),
  gEnt P "_law_joined" 386 (.ref 153),
  gEnt P "_law_run" 392 (.ref 158),
  gEnt P "_law_heard" 398 (.ref 163),
  gEnt P "law" 404 (.ref 168)]
def KF (P : Params) : Frag := [
  (3, { cls := .type "dict", data := .dict (globs P) 27 }),
  (93, cdOf [.str "fspath" 283, .str "fspath" 284, .str "/claim/cut.py" 285, .int 35 0, .int 1 0, .int 0 0, .int 0 0, .int 3 0, .ref 88, .bool true, .int 181 0, .ref 89, .none, .ref 90, .ref 91, .ref 92, .int 290 0, .int 35 0, .str "/claim/cut.py" 291]),
  (94, fnOf (stAt 9) (.str "os" 281) 93),
  (107, cdOf [.str "_get_sep" 308, .str "_get_sep" 309, .str "/claim/cut.py" 310, .int 64 0, .int 1 0, .int 0 0, .int 0 0, .int 3 0, .ref 102, .bool true, .int 181 0, .ref 103, .none, .ref 104, .ref 105, .ref 106, .int 312 0, .int 64 0, .str "/claim/cut.py" 313]),
  (108, fnOf (stAt 13) (.str "cpy313.posixpath" 306) 107),
  (114, cdOf [.str "join" 315, .str "join" 316, .str "/claim/cut.py" 317, .int 69 0, .int 1 0, .int 0 0, .int 0 0, .int 7 0, .ref 109, .bool true, .int 181 0, .ref 110, .none, .ref 111, .ref 112, .ref 113, .int 323 0, .int 69 0, .str "/claim/cut.py" 324]),
  (115, fnOf (stAt 14) (.str "cpy313.posixpath" 306) 114),
  (121, cdOf [.str "basename" 326, .str "basename" 327, .str "/claim/cut.py" 328, .int 86 0, .int 1 0, .int 0 0, .int 0 0, .int 3 0, .ref 116, .bool true, .int 181 0, .ref 117, .none, .ref 118, .ref 119, .ref 120, .int 332 0, .int 86 0, .str "/claim/cut.py" 333]),
  (122, fnOf (stAt 15) (.str "cpy313.posixpath" 306) 121),
  (128, cdOf [.str "dirname" 335, .str "dirname" 336, .str "/claim/cut.py" 337, .int 91 0, .int 1 0, .int 0 0, .int 0 0, .int 3 0, .ref 123, .bool true, .int 181 0, .ref 124, .none, .ref 125, .ref 126, .ref 127, .int 342 0, .int 91 0, .str "/claim/cut.py" 343]),
  (129, fnOf (stAt 16) (.str "cpy313.posixpath" 306) 128),
  (133, cdOf [.str "commonpath" 345, .str "commonpath" 346, .str "/claim/cut.py" 347, .int 99 0, .int 1 0, .int 0 0, .int 0 0, .int 3 0, .ref 130, .bool true, .int 181 0, .ref 131, .none, .none, .none, .ref 132, .int 348 0, .int 99 0, .str "/claim/cut.py" 349]),
  (134, fnOf (stAt 17) (.str "cpy313.posixpath" 306) 133),
  (140, cdOf [.str "sorted_list_difference" 353, .str "sorted_list_difference" 354, .str "/claim/cut.py" 355, .int 129 0, .int 2 0, .int 0 0, .int 0 0, .int 3 0, .ref 135, .bool true, .int 181 0, .ref 136, .none, .ref 137, .ref 138, .ref 139, .int 364 0, .int 129 0, .str "/claim/cut.py" 365]),
  (141, fnOf (stAt 19) (.str "cpy313.unittest.util" 351) 140),
  (147, cdOf [.str "_law_drawn" 369, .str "_law_drawn" 370, .str "/claim/cut.py" 371, .int 162 0, .int 1 0, .int 0 0, .int 0 0, .int 3 0, .ref 142, .bool true, .int 181 0, .ref 143, .none, .ref 144, .ref 145, .ref 146, .int 378 0, .int 162 0, .str "/claim/cut.py" 379]),
  (148, fnOf (stAt 21) (.str "law_rt0038_01" 367) 147),
  (152, cdOf [.str "_law_joined" 381, .str "_law_joined" 382, .str "/claim/cut.py" 383, .int 169 0, .int 4 0, .int 0 0, .int 0 0, .int 3 0, .ref 149, .bool true, .int 181 0, .ref 150, .none, .none, .none, .ref 151, .int 384 0, .int 169 0, .str "/claim/cut.py" 385]),
  (153, fnOf (stAt 22) (.str "law_rt0038_01" 367) 152),
  (157, cdOf [.str "_law_run" 387, .str "_law_run" 388, .str "/claim/cut.py" 389, .int 178 0, .int 3 0, .int 0 0, .int 0 0, .int 3 0, .ref 154, .bool true, .int 181 0, .ref 155, .none, .none, .none, .ref 156, .int 390 0, .int 178 0, .str "/claim/cut.py" 391]),
  (158, fnOf (stAt 23) (.str "law_rt0038_01" 367) 157),
  (162, cdOf [.str "_law_heard" 393, .str "_law_heard" 394, .str "/claim/cut.py" 395, .int 191 0, .int 1 0, .int 0 0, .int 0 0, .int 3 0, .ref 159, .bool true, .int 181 0, .ref 160, .none, .none, .none, .ref 161, .int 396 0, .int 191 0, .str "/claim/cut.py" 397]),
  (163, fnOf (stAt 24) (.str "law_rt0038_01" 367) 162),
  (167, cdOf [.str "law" 399, .str "law" 400, .str "/claim/cut.py" 401, .int 202 0, .int 1 0, .int 0 0, .int 0 0, .int 3 0, .ref 164, .bool true, .int 181 0, .ref 165, .none, .none, .none, .ref 166, .int 402 0, .int 202 0, .str "/claim/cut.py" 403]),
  (168, fnOf (stAt 25) (.str "law_rt0038_01" 367) 167)]
def KAs : List Addr := [3, 93, 94, 107, 108, 114, 115, 121, 122, 128, 129, 133, 134, 140, 141, 147, 148, 152, 153, 157, 158, 162, 163, 167, 168]
end VS

end PartKF

noncomputable section PartV0
namespace VS
open PySem PySem.Calls PySem.W PyProof.Rows

/-! worlds: a state and the map of its frozen objects -/
abbrev PM := Addr → Option Obj
def PM.le (P P' : PM) : Prop := ∀ b o, P b = some o → P' b = some o
theorem PM.le.refl (P : PM) : PM.le P P := fun _ _ e => e
theorem PM.le.trans {P P' P'' : PM} (h : PM.le P P') (k : PM.le P' P'') : PM.le P P'' := fun b o e => k b o (h b o e)
def Sub (P : PM) (s : Shared) : Prop := ∀ b o, P b = some o → s.heap.get? b = some o

structure Ext (s : Shared) (P : PM) (s' : Shared) (P' : PM) : Prop where
  keep : ∀ b o, s.heap.get? b = some o → s'.heap.get? b = some o
  le : PM.le P P'
  fresh : ∀ b o, P' b = some o → P b = some o ∨ s.heap.get? b = none
  sub : Sub P' s'
  gens : s'.gens = s.gens
  os : s'.os = s.os

theorem Ext.refl {s : Shared} {P : PM} (h : Sub P s) : Ext s P s P := ⟨fun _ _ e => e, .refl P, fun _ _ e => .inl e, h, rfl, rfl⟩
theorem Ext.trans {s s' s'' : Shared} {P P' P'' : PM} (h : Ext s P s' P') (k : Ext s' P' s'' P'') : Ext s P s'' P'' where
  keep := fun b o e => k.keep b o (h.keep b o e)
  le := h.le.trans k.le
  fresh := fun b o e => (k.fresh b o e).elim (fun e => h.fresh b o e) fun e => .inr (by
    cases q : s.heap.get? b with
    | none => rfl
    | some o' => rw [h.keep b o' q] at e; cases e)
  sub := k.sub
  gens := k.gens.trans h.gens
  os := k.os.trans h.os
/-- only the heap and the tokens moved, nothing new is frozen -/
theorem Ext.heap {s : Shared} {P : PM} {h' : Heap} {tk : Nat} (h : Sub P s) (hk : ∀ b o, s.heap.get? b = some o → h'.get? b = some o) : Ext s P { s with heap := h', toks := tk } P :=
  ⟨hk, .refl P, fun _ _ e => .inl e, fun b o e => hk b o (h b o e), rfl, rfl⟩
theorem Ext.toks {s : Shared} {P : PM} {tk : Nat} (h : Sub P s) : Ext s P { s with toks := tk } P :=
  ⟨fun _ _ e => e, .refl P, fun _ _ e => .inl e, h, rfl, rfl⟩
/-- one new object, frozen at once -/
def PM.put (P : PM) (a : Addr) (o : Obj) : PM := fun b => if b = a then some o else P b
theorem PM.put_self {P : PM} {a : Addr} {o : Obj} : P.put a o a = some o := if_pos rfl
theorem PM.put_ne {P : PM} {a b : Addr} {o : Obj} (h : b ≠ a) : P.put a o b = P b := if_neg h
theorem PM.le_put {P : PM} {a : Addr} {o : Obj} (h : P a = none) : PM.le P (P.put a o) := fun b x e => by
  by_cases hb : b = a
  · subst hb; rw [h] at e; cases e
  · rw [PM.put_ne hb]; exact e
theorem Sub.none {P : PM} {s : Shared} (h : Sub P s) {a : Addr} (e : s.heap.get? a = none) : P a = none := by
  cases q : P a with
  | none => rfl
  | some o => rw [h a o q] at e; cases e
theorem get?_size (h : Heap) : h.get? h.objs.size = none := by
  cases q : h.get? h.objs.size with
  | none => rfl
  | some o => exact absurd (Heap.lt_size q) (Nat.lt_irrefl _)
theorem Ext.put {s s' : Shared} {P : PM} {a : Addr} {o : Obj} (h : Ext s P s' P) (ha : s.heap.get? a = none) (ho : s'.heap.get? a = some o) (hp : P a = none) : Ext s P s' (P.put a o) where
  keep := h.keep
  le := PM.le_put hp
  fresh := fun b x e => by
    by_cases hb : b = a
    · subst hb; exact .inr ha
    · rw [PM.put_ne hb] at e; exact .inl e
  sub := fun b x e => by
    by_cases hb : b = a
    · subst hb; rw [PM.put_self] at e; cases e; exact ho
    · rw [PM.put_ne hb] at e; exact h.sub b x e
  gens := h.gens
  os := h.os
theorem Ext.put' {s s' : Shared} {P P' : PM} {a : Addr} {o : Obj} (h : Ext s P s' P') (ha : s.heap.get? a = none) (ho : s'.heap.get? a = some o) (hp : P' a = none) : Ext s P s' (P'.put a o) where
  keep := h.keep
  le := h.le.trans (PM.le_put hp)
  fresh := fun b x e => by
    by_cases hb : b = a
    · subst hb; exact .inr ha
    · rw [PM.put_ne hb] at e; exact h.fresh b x e
  sub := fun b x e => by
    by_cases hb : b = a
    · subst hb; rw [PM.put_self] at e; cases e; exact ho
    · rw [PM.put_ne hb] at e; exact h.sub b x e
  gens := h.gens
  os := h.os
theorem Ext.push {s : Shared} {P : PM} {o : Obj} {tk : Nat} (h : Sub P s) (hf : o.isFreed = false := by rfl) :
    Ext s P { s with heap := s.heap.push o, toks := tk } (P.put s.heap.objs.size o) :=
  Ext.put (Ext.heap h fun _ _ e => Heap.get?_push_of_some _ e) (get?_size _) (Heap.get?_push_size _ hf) (h.none (get?_size _))

/-! kinds of data -/
structure Ty (α : Type) where
  rel : PM → Value → α → Prop
  mono : ∀ {P P' : PM} {v x}, PM.le P P' → rel P v x → rel P' v x

def SeqAt (P : PM) (v : Value) (cls : String) (vs : List Value) : Prop := ∃ a n, v = .ref a ∧ P a = some { cls := .type cls, data := .seq vs.toArray n }
theorem SeqAt.mono {P P' : PM} {v : Value} {cls : String} {vs : List Value} (h : PM.le P P') (x : SeqAt P v cls vs) : SeqAt P' v cls vs :=
  let ⟨a, n, e, p⟩ := x; ⟨a, n, e, h _ _ p⟩
theorem pImp {α β : Type} {F G : α → β → Prop} (h : ∀ a b, F a b → G a b) : ∀ {l : List α} {k : List β}, Paired F l k → Paired G l k
  | _, _, .nil => .nil
  | _, _, .cons a r => .cons (h _ _ a) (pImp h r)

def Ty.str : Ty Str := ⟨fun _ v x => ∃ t, v = .str x t, fun _ h => h⟩
def Ty.int : Ty Int := ⟨fun _ v x => ∃ t, v = .int x t, fun _ h => h⟩
def Ty.bool : Ty Bool := ⟨fun _ v x => v = .bool x, fun _ h => h⟩
def Ty.raw : Ty Value := ⟨fun _ v x => v = x, fun _ h => h⟩
def Ty.seq {α : Type} (cls : String) (τ : Ty α) : Ty (List α) := ⟨fun P v xs => ∃ vs, SeqAt P v cls vs ∧ Paired (τ.rel P) vs xs, fun h ⟨vs, a, b⟩ => ⟨vs, a.mono h, pImp (fun _ _ => τ.mono h) b⟩⟩
abbrev Ty.list {α : Type} (τ : Ty α) : Ty (List α) := Ty.seq "list" τ
abbrev Ty.tuple {α : Type} (τ : Ty α) : Ty (List α) := Ty.seq "tuple" τ
def Ty.pair {α β : Type} (τ : Ty α) (σ : Ty β) : Ty (α × β) := ⟨fun P v x => ∃ v1 v2, SeqAt P v "tuple" [v1, v2] ∧ τ.rel P v1 x.1 ∧ σ.rel P v2 x.2, fun h ⟨v1, v2, a, b, c⟩ => ⟨v1, v2, a.mono h, τ.mono h b, σ.mono h c⟩⟩
def Ty.trip {α β γ : Type} (τ : Ty α) (σ : Ty β) (ρ : Ty γ) : Ty (α × β × γ) := ⟨fun P v x => ∃ v1 v2 v3, SeqAt P v "tuple" [v1, v2, v3] ∧ τ.rel P v1 x.1 ∧ σ.rel P v2 x.2.1 ∧ ρ.rel P v3 x.2.2,
  fun h ⟨v1, v2, v3, a, b, c, d⟩ => ⟨v1, v2, v3, a.mono h, τ.mono h b, σ.mono h c, ρ.mono h d⟩⟩

theorem SeqAt.isList {P : PM} {s : Shared} {a : Addr} {vs : List Value} (x : SeqAt P (.ref a) "list" vs) (h : Sub P s) : s.heap.IsList a vs.toArray := by
  obtain ⟨b, n, e, p⟩ := x
  cases e
  exact ⟨_, h _ _ p, rfl, n, rfl⟩
theorem SeqAt.isTup {P : PM} {s : Shared} {a : Addr} {vs : List Value} (x : SeqAt P (.ref a) "tuple" vs) (h : Sub P s) : IsTup s.heap a vs.toArray := by
  obtain ⟨b, n, e, p⟩ := x
  cases e
  exact ⟨_, h _ _ p, rfl, n, rfl⟩
theorem pLen {α β : Type} {F : α → β → Prop} {l : List α} {k : List β} (h : Paired F l k) : l.length = k.length := Paired.length h

/-- room left on the stacks -/
structure Room (n : Nat) (A : Around) : Prop where
  handled : A.handled = none
  depth : A.depth + n < 990
  units : A.units + 40 * n < 9800
theorem Room.le {m n : Nat} {A : Around} (h : Room n A) (k : m ≤ n) : Room m A := ⟨h.handled, by have := h.depth; omega, by have := h.units; omega⟩
theorem Room.deeper {n : Nat} {A : Around} {env : Env} (h : Room (n + 1) A) : Room n (A.deeper env) :=
  ⟨h.handled, by have := h.depth; show A.depth + 1 + n < 990; omega, by have := h.units; show A.units + 3 + 40 * n < 9800; omega⟩
theorem Room.in1 {n : Nat} {A : Around} (h : Room (n + 1) A) : Room n A.in1 :=
  ⟨h.handled, by have := h.depth; show A.depth + n < 990; omega, by have := h.units; show A.units + 1 + 40 * n < 9800; omega⟩
theorem Room.lt {n : Nat} {A : Around} (h : Room n A) : A.depth < recursionLimit := by have := h.depth; unfold recursionLimit; omega
theorem Room.c {n : Nat} {A : Around} (h : Room n A) : A.units < cLine := by have := h.units; unfold cLine; omega

/-- what every heap of the run holds: the text's own objects, and the names' facts -/
structure Wd (K : Frag) (p : Program) (lo : List Str) (mg mb : Str → Option Value) (h : Heap) : Prop where
  own : K.In h
  top : TopRead p lo mg mb h
theorem Wd.keeps {K : Frag} {p : Program} {lo : List Str} {mg mb : Str → Option Value} {h h' : Heap} (x : Wd K p lo mg mb h) (hk : ∀ b o, h.get? b = some o → h'.get? b = some o) : Wd K p lo mg mb h' :=
  ⟨x.own.keeps hk, x.top.keeps hk⟩

section
variable (prog : Program) (w : World)
def Ev {α : Type} (A : Around) (s : Shared) (P : PM) (t : Sem Value) (τ : Ty α) (x : α) : Prop :=
  ∀ s1 P1, Ext s P s1 P1 → wpAny (model prog w) A t (fun v s2 => ∃ P2, Ext s1 P1 s2 P2 ∧ τ.rel P2 v x) (fun _ _ => False) s1
def EvB (A : Around) (s : Shared) (P : PM) (t : Sem Bool) (b : Bool) : Prop :=
  ∀ s1 P1, Ext s P s1 P1 → wpAny (model prog w) A t (fun c s2 => c = b ∧ ∃ P2, Ext s1 P1 s2 P2) (fun _ _ => False) s1
/-- one operation, in one world -/
def Op {α : Type} (A : Around) (s : Shared) (P : PM) (t : Sem Value) (τ : Ty α) (x : α) : Prop :=
  wpAny (model prog w) A t (fun v s2 => ∃ P2, Ext s P s2 P2 ∧ τ.rel P2 v x) (fun _ _ => False) s
/-- a call, made in any later world -/
def Returns {α : Type} (K : Frag) (p : Program) (lo : List Str) (mg mb : Str → Option Value) (n : Nat) (f : Value) (vs : List Value) (P : PM) (τ : Ty α) (x : α) : Prop :=
  ∀ A s, Room n A → Wd K p lo mg mb s.heap → Sub P s → Op prog w A s P (call f vs []) τ x
end

section
variable {prog : Program} {w : World} {A : Around} {s s' : Shared} {P P' : PM} {α β γ : Type} {τ : Ty α} {σ : Ty β} {x : α} {y : β}
theorem Ev.mono {t : Sem Value} (h : Ev prog w A s P t τ x) (e : Ext s P s' P') : Ev prog w A s' P' t τ x := fun s1 P1 e1 => h s1 P1 (e.trans e1)
theorem EvB.mono {t : Sem Bool} {b : Bool} (h : EvB prog w A s P t b) (e : Ext s P s' P') : EvB prog w A s' P' t b := fun s1 P1 e1 => h s1 P1 (e.trans e1)
/-- to use a value: at the world itself -/
theorem Ev.use {t : Sem Value} {Q : Value → Shared → Prop} {E : Value → Shared → Prop} (h : Ev prog w A s P t τ x) (hs : Sub P s)
    (k : ∀ v s' P', Ext s P s' P' → τ.rel P' v x → Q v s') : wpAny (model prog w) A t Q E s :=
  wpAny_mono (h s P (.refl hs)) (fun v s' ⟨P', e, r⟩ => k v s' P' e r) fun _ _ f => f.elim
theorem EvB.use {t : Sem Bool} {b : Bool} {Q : Bool → Shared → Prop} {E : Value → Shared → Prop} (h : EvB prog w A s P t b) (hs : Sub P s)
    (k : ∀ s' P', Ext s P s' P' → Q b s') : wpAny (model prog w) A t Q E s :=
  wpAny_mono (h s P (.refl hs)) (fun v s' ⟨hb, P', e⟩ => hb ▸ k s' P' e) fun _ _ f => f.elim
end
end VS

end PartV0

noncomputable section PartV1
namespace VS
open PySem PySem.Calls PySem.W PyProof.Rows

section
variable {prog : Program} {w : World} {A : Around} {s s' s1 : Shared} {P P' P1 : PM} {α β γ : Type} {τ : Ty α} {σ : Ty β} {ρ : Ty γ} {x : α} {y : β} {z : γ} {env : Env}

theorem Ev.of {t : Sem Value} (h : ∀ s1 P1, Ext s P s1 P1 → Op prog w A s1 P1 t τ x) : Ev prog w A s P t τ x := h
theorem Op.val {v : Value} (h : Sub P s) (r : τ.rel P v x) : Op prog w A s P (pure v) τ x := wpAny_pure ⟨P, .refl h, r⟩

/-! names -/
/-- the name x reads v in env, from here on -/
def Var (env : Env) (h : Heap) (n : Str) (v : Value) : Prop :=
  env.scope.kind = .function ∧ ((env.kindOf n = some .local ∧ ∃ m, h.Ns env.locals m ∧ m n = some v) ∨
    ((env.kindOf n = some .cell ∨ env.kindOf n = some .free) ∧ ∃ c, env.cells.lookup n = some c ∧ h.IsCell c (some v)))
theorem Var.keeps {h h' : Heap} {n : Str} {v : Value} (x : Var env h n v) (hk : ∀ b o, h.get? b = some o → h'.get? b = some o) : Var env h' n v :=
  ⟨x.1, x.2.imp (fun ⟨a, m, b, c⟩ => ⟨a, m, b.keeps hk, c⟩) fun ⟨a, c, b, d⟩ => ⟨a, c, b, d.keeps hk⟩⟩
theorem Var.load {M : Model} {E : Value → Shared → Prop} {n : Str} {v : Value} {Q : Value → Shared → Prop} (x : Var env s.heap n v) (h : Q v s) (hn : (n == ("__classdict__" : Str)) = false) : wpAny M A (loadName env n) Q E s := by
  rcases x with ⟨hk, ⟨hl, m, hm, e⟩ | ⟨hl | hl, c, hc, hv⟩⟩
  · exact wpAny_loadName_local hk hl hm e h
  · exact wpAny_loadName_cell hk hl hc hv h
  · exact wpAny_loadName_free hk hl hc hv h hn
theorem Ev.var {n : Str} {pos : Pos} {v : Value} (x : Var env s.heap n v) (r : τ.rel P v y') (hd : (n == ("__debug__" : Str)) = false := by decide) (hn : (n == ("__classdict__" : Str)) = false := by decide) :
    Ev prog w A s P (eval (.Name n pos) env) τ y' := fun s1 P1 e =>
  wpAny_Name ((x.keeps e.keep).load ⟨P1, .refl e.sub, τ.mono e.le r⟩ hn) hd

section
variable {K : Frag} {p : Program} {lo : List Str} {mg mb : Str → Option Value}
theorem Ev.glob {n : Str} {pos : Pos} {v : Value} (W : Wd K p lo mg mb s.heap) (e : nsIn K mainGlobals n = some (some v)) (hg : env.globals = mainGlobals) (hk : env.scope.kind = .function) (hx : env.kindOf n = some .globalImplicit)
    (hd : (n == ("__debug__" : Str)) = false := by decide) : Ev prog w A s P (eval (.Name n pos) env) Ty.raw v := fun s1 P1 ex =>
  Name_function_global hk hx (loadGlobal_global (env := env) (by rw [hg]; exact W.top.g.keeps ex.keep) (mg_of W.own W.top.g e) ⟨P1, .refl ex.sub, rfl⟩) hd
theorem Ev.built {n : Str} {pos : Pos} {v : Value} (W : Wd K p lo mg mb s.heap) (e : nsIn K mainGlobals n = some none) (hv : bootBuiltins n = some v) (hg : env.globals = mainGlobals) (hb : env.builtins = builtinsNs) (hk : env.scope.kind = .function)
    (hx : env.kindOf n = some .globalImplicit) (hn : n ≠ "__name__" := by decide) (hd : (n == ("__debug__" : Str)) = false := by decide) : Ev prog w A s P (eval (.Name n pos) env) Ty.raw v := fun s1 P1 ex =>
  Name_function_global hk hx (loadGlobal_builtin (env := env) (by rw [hg]; exact W.top.g.keeps ex.keep) (mg_none_of W.own W.top.g e) (by rw [hb]; exact W.top.b.keeps ex.keep) ((W.top.builtins n hn).trans hv) ⟨P1, .refl ex.sub, rfl⟩) hd
end

/-! constants -/
theorem Ev.cStr {c : Str} {k : Nat} {pos : Pos} : Ev prog w A s P (eval (.Constant (.str c) k pos) env) Ty.str c := fun s1 P1 e =>
  wpAny_Constant_str ⟨P1, .toks e.sub, _, rfl⟩
theorem Ev.cInt {c : Int} {k : Nat} {pos : Pos} : Ev prog w A s P (eval (.Constant (.int c) k pos) env) Ty.int c := fun s1 P1 e =>
  wpAny_Constant_int ⟨P1, .toks e.sub, _, rfl⟩
theorem Ev.cBool {c : Bool} {k : Nat} {pos : Pos} : Ev prog w A s P (eval (.Constant (.bool c) k pos) env) Ty.bool c := fun s1 P1 e =>
  wpAny_Constant_bool ⟨P1, .refl e.sub, rfl⟩
/-! one after the other -/
theorem Op.from {t : Sem Value} (h : Op prog w A s1 P1 t τ x) (e : Ext s P s1 P1) : wpAny (model prog w) A t (fun v s2 => ∃ P2, Ext s P s2 P2 ∧ τ.rel P2 v x) (fun _ _ => False) s1 :=
  wpAny_mono h (fun v s2 ⟨P2, e2, r⟩ => ⟨P2, e.trans e2, r⟩) fun _ _ f => f
theorem Ev.at {t : Sem Value} (h : Ev prog w A s P t τ x) (e : Ext s P s1 P1) : Op prog w A s1 P1 t τ x := h s1 P1 e
theorem Op.use {t : Sem Value} {Q : Value → Shared → Prop} {E : Value → Shared → Prop} (h : Op prog w A s P t τ x) (k : ∀ v s1 P1, Ext s P s1 P1 → τ.rel P1 v x → Q v s1) :
    wpAny (model prog w) A t Q E s := wpAny_mono h (fun v s' ⟨P', e, r⟩ => k v s' P' e r) fun _ _ f => f.elim
end
end VS

end PartV1

noncomputable section PartV2
namespace VS
open PySem PySem.Calls PySem.W PyProof.Rows

section
variable {prog : Program} {w : World} {A : Around} {s s' s1 : Shared} {P P' P1 : PM} {α β γ δ : Type} {τ : Ty α} {σ : Ty β} {ρ : Ty γ} {υ : Ty δ} {x : α} {y : β} {z : γ} {u : δ} {env : Env}

/-- two trees in a row, and an operation on what they gave -/
theorem Ev.two {t : Sem Value} {f : Value → Value → Sem Value} {t2 : Sem Value} (h1 : Ev prog w A s P t τ x) (h2 : Ev prog w A s P t2 σ y)
    (op : ∀ s1 P1 a b, Ext s P s1 P1 → τ.rel P1 a x → σ.rel P1 b y → Op prog w A s1 P1 (f a b) ρ z) (e : Ext s P s1 P1) :
    wpAny (model prog w) A t (fun a s2 => wpAny (model prog w) A t2 (fun b s3 => wpAny (model prog w) A (f a b) (fun v s4 => ∃ P4, Ext s1 P1 s4 P4 ∧ ρ.rel P4 v z) (fun _ _ => False) s3) (fun _ _ => False) s2) (fun _ _ => False) s1 :=
  (h1.at e).use fun a s2 P2 e2 ra => (h2.at (e.trans e2)).use fun b s3 P3 e3 rb => (op s3 P3 a b ((e.trans e2).trans e3) (τ.mono e3.le ra) rb).from (e2.trans e3)

theorem Ev.binOp {l r : Expr} {op : Operator} {pos : Pos} (h1 : Ev prog w A s P (eval l env) τ x) (h2 : Ev prog w A s P (eval r env) σ y)
    (ho : ∀ s1 P1 a b, Ext s P s1 P1 → τ.rel P1 a x → σ.rel P1 b y → Op prog w A s1 P1 (binaryOp op a b) ρ z) : Ev prog w A s P (eval (.BinOp l op r pos) env) ρ z := fun s1 P1 e =>
  wpAny_BinOp (Ev.two h1 h2 ho e)
theorem Ev.cmp {l r : Expr} {op : CmpOp} {pos : Pos} (h1 : Ev prog w A s P (eval l env) τ x) (h2 : Ev prog w A s P (eval r env) σ y)
    (ho : ∀ s1 P1 a b, Ext s P s1 P1 → τ.rel P1 a x → σ.rel P1 b y → Op prog w A s1 P1 (compareOp op a b) ρ z) (hm : behindInMarks op r = false := by with_unfolding_all rfl) : Ev prog w A s P (eval (.Compare l [op] [r] pos) env) ρ z := fun s1 P1 e =>
  wpAny_Compare1 (Ev.two h1 h2 ho e) hm
/-- truth of a value -/
def Truth (prog : Program) (w : World) (A : Around) (s : Shared) (P : PM) (v : Value) (b : Bool) : Prop :=
  wpAny (model prog w) A (truthy v) (fun c s2 => c = b ∧ ∃ P2, Ext s P s2 P2) (fun _ _ => False) s
theorem Truth.bool {b : Bool} (h : Sub P s) : Truth prog w A s P (.bool b) b := wpAny_truthy_bool ⟨rfl, P, .refl h⟩
theorem EvB.cmp {l r : Expr} {op : CmpOp} {pos : Pos} {whole : Sem Value} {b : Bool} (h1 : Ev prog w A s P (eval l env) τ x) (h2 : Ev prog w A s P (eval r env) σ y)
    (ho : ∀ s1 P1 a b', Ext s P s1 P1 → τ.rel P1 a x → σ.rel P1 b' y → Op prog w A s1 P1 (compareOp op a b') Ty.bool b) (hm : behindInMarks op r = false := by with_unfolding_all rfl) :
    EvB prog w A s P (isTrue (.Compare l [op] [r] pos) env whole) b := fun s1 P1 e =>
  wpAny_isTrue_Compare1 ((h1.at e).use fun a s2 P2 e2 ra => (h2.at (e.trans e2)).use fun b' s3 P3 e3 rb => (ho s3 P3 a b' ((e.trans e2).trans e3) (τ.mono e3.le ra) rb).use fun v s4 P4 e4 rv => by
    cases rv; exact wpAny_truthy_bool ⟨rfl, P4, (e2.trans e3).trans e4⟩) hm
theorem EvB.val {e : Expr} {b : Bool} (h : Ev prog w A s P (eval e env) τ x) (ht : ∀ s1 P1 v, Ext s P s1 P1 → τ.rel P1 v x → Truth prog w A s1 P1 v b)
    (he : ∀ whole, isTrue e env whole = (do let v ← whole; standAt e.pos; holding [v] (truthy v)) := by intro _; rfl) : EvB prog w A s P (isTrue e env (eval e env)) b := fun s1 P1 e1 =>
  wpAny_isTrue_value ((h.at e1).use fun v s2 P2 e2 r => wpAny_mono (ht s2 P2 v (e1.trans e2) r) (fun c s3 ⟨hc, P3, e3⟩ => ⟨hc, P3, e2.trans e3⟩) fun _ _ f => f) (he _)
theorem EvB.not {e : Expr} {pos : Pos} {whole : Sem Value} {b : Bool} (h : EvB prog w A s P (isTrue e env (eval e env)) b) : EvB prog w A s P (isTrue (.UnaryOp .Not e pos) env whole) (!b) := fun s1 P1 e1 =>
  wpAny_isTrue_Not (wpAny_mono (h s1 P1 e1) (fun c s2 ⟨hc, r⟩ => ⟨by rw [hc], r⟩) fun _ _ f => f)
theorem EvB.and2 {e1 e2 : Expr} {pos : Pos} {whole : Sem Value} {b c : Bool} (h1 : EvB prog w A s P (isTrue e1 env (eval e1 env)) b) (h2 : b = true → EvB prog w A s P (isTrue e2 env (eval e2 env)) c) :
    EvB prog w A s P (isTrue (.BoolOp .And [e1, e2] pos) env whole) (b && c) := fun s1 P1 ex =>
  wpAny_isTrue_BoolOp (wpAny_allTrue_And_cons (wpAny_mono (h1 s1 P1 ex) (fun b' s2 ⟨hb, P2, x2⟩ => by
    subst hb
    cases b' with
    | false => exact ⟨rfl, P2, x2⟩
    | true => exact wpAny_allTrue_And_cons (wpAny_mono (h2 rfl s2 P2 (ex.trans x2)) (fun c' s3 ⟨hc, P3, x3⟩ => by
        subst hc
        cases c' with
        | false => exact ⟨rfl, P3, x2.trans x3⟩
        | true => exact wpAny_allTrue_And_nil ⟨rfl, P3, x2.trans x3⟩) fun _ _ f => f)) fun _ _ f => f))
theorem EvB.or2 {e1 e2 : Expr} {pos : Pos} {whole : Sem Value} {b c : Bool} (h1 : EvB prog w A s P (isTrue e1 env (eval e1 env)) b) (h2 : b = false → EvB prog w A s P (isTrue e2 env (eval e2 env)) c) :
    EvB prog w A s P (isTrue (.BoolOp .Or [e1, e2] pos) env whole) (b || c) := fun s1 P1 ex =>
  wpAny_isTrue_BoolOp (wpAny_allTrue_Or_cons (wpAny_mono (h1 s1 P1 ex) (fun b' s2 ⟨hb, P2, x2⟩ => by
    subst hb
    cases b' with
    | true => exact ⟨rfl, P2, x2⟩
    | false => exact wpAny_allTrue_Or_cons (wpAny_mono (h2 rfl s2 P2 (ex.trans x2)) (fun c' s3 ⟨hc, P3, x3⟩ => by
        subst hc
        cases c' with
        | true => exact ⟨rfl, P3, x2.trans x3⟩
        | false => exact wpAny_allTrue_Or_nil ⟨rfl, P3, x2.trans x3⟩) fun _ _ f => f)) fun _ _ f => f))

theorem Ev.ifExp {test b o : Expr} {pos : Pos} {c : Bool} (h : EvB prog w A s P (isTrue test env (eval test env)) c) (h1 : c = true → Ev prog w A s P (eval b env) τ x) (h2 : c = false → Ev prog w A s P (eval o env) τ x) :
    Ev prog w A s P (eval (.IfExp test b o pos) env) τ x := fun s1 P1 e =>
  wpAny_IfExp (wpAny_mono (h s1 P1 e) (fun c' s2 ⟨hc, P2, e2⟩ => by
    subst hc
    cases c' with
    | true => exact ((h1 rfl).at (e.trans e2)).from e2
    | false => exact ((h2 rfl).at (e.trans e2)).from e2) fun _ _ f => f)

/-! rows of trees: arguments, displays -/
def EvL (prog : Program) (w : World) (A : Around) (s : Shared) (P : PM) (t : Sem (List Value)) (R : PM → List Value → Prop) : Prop :=
  ∀ s1 P1, Ext s P s1 P1 → wpAny (model prog w) A t (fun vs s2 => ∃ P2, Ext s1 P1 s2 P2 ∧ R P2 vs) (fun _ _ => False) s1
def L0 : PM → List Value → Prop := fun _ vs => vs = []
def LC (τ : Ty α) (x : α) (R : PM → List Value → Prop) : PM → List Value → Prop := fun P vs => ∃ v r, vs = v :: r ∧ τ.rel P v x ∧ R P r
theorem EvL.nil {pos : Pos} : EvL prog w A s P (spliced (backTo pos (starEach [] env))) L0 := fun s1 P1 e => wpAny_items_nil ⟨P1, .refl e.sub, rfl⟩
theorem EvL.cons {pos : Pos} {e : Expr} {rest : List Expr} {R : PM → List Value → Prop} (h : Ev prog w A s P (eval e env) τ x) (hr : EvL prog w A s P (spliced (backTo pos (starEach rest env))) R)
    (he : starEach (e :: rest) env = (false, eval e env) :: starEach rest env := by rfl) : EvL prog w A s P (spliced (backTo pos (starEach (e :: rest) env))) (LC τ x R) := fun s1 P1 ex =>
  wpAny_items_cons ((h.at ex).use fun v s2 P2 e2 r => wpAny_mono (hr s2 P2 (ex.trans e2)) (fun vs s3 ⟨P3, e3, q⟩ => ⟨P3, e2.trans e3, v, vs, rfl, τ.mono e3.le r, q⟩) fun _ _ f => f) he
theorem EvL.use {t : Sem (List Value)} {R : PM → List Value → Prop} {Q : List Value → Shared → Prop} {E : Value → Shared → Prop} (h : EvL prog w A s P t R) (ex : Ext s P s1 P1)
    (k : ∀ vs s' P', Ext s1 P1 s' P' → R P' vs → Q vs s') : wpAny (model prog w) A t Q E s1 := wpAny_mono (h s1 P1 ex) (fun v s' ⟨P', e, r⟩ => k v s' P' e r) fun _ _ f => f.elim

theorem Ev.tup {elts : List Expr} {k : Nat} {pos : Pos} {R : PM → List Value → Prop} (h : EvL prog w A s P (spliced (backTo pos (starEach elts env))) R)
    (hr : ∀ P1 v vs, R P1 vs → SeqAt P1 v "tuple" vs → τ.rel P1 v x) (hR : ∀ P1 P2 vs, PM.le P1 P2 → R P1 vs → R P2 vs) (hn : ∀ P1 vs, R P1 vs → vs.length ≤ 100) : Ev prog w A s P (eval (.Tuple elts k pos) env) τ x := fun s1 P1 e =>
  wpAny_Tuple (h.use e fun vs s2 P2 e2 r => ⟨Nat.le_trans (hn _ _ r) (by decide), _, e2.trans (.push e2.sub), hr _ _ _ (hR _ _ _ (Ext.push (tk := s2.toks) e2.sub).le r) ⟨_, _, rfl, PM.put_self⟩⟩)
theorem Ev.lst {elts : List Expr} {pos : Pos} {R : PM → List Value → Prop} (h : EvL prog w A s P (spliced (backTo pos (starEach elts env))) R)
    (hr : ∀ P1 v vs, R P1 vs → SeqAt P1 v "list" vs → τ.rel P1 v x) (hR : ∀ P1 P2 vs, PM.le P1 P2 → R P1 vs → R P2 vs) (hn : ∀ P1 vs, R P1 vs → vs.length ≤ 100) : Ev prog w A s P (eval (.List elts pos) env) τ x := fun s1 P1 e =>
  wpAny_List (h.use e fun vs s2 P2 e2 r => ⟨Nat.le_trans (hn _ _ r) (by decide), _, e2.trans (.push e2.sub), hr _ _ _ (hR _ _ _ (Ext.push (tk := s2.toks) e2.sub).le r) ⟨_, _, rfl, PM.put_self⟩⟩)
end
end VS

end PartV2

noncomputable section PartV3
namespace VS
open PySem PySem.Calls PySem.W PyProof.Rows

section
variable {prog : Program} {w : World} {A : Around} {s s' s1 : Shared} {P P' P1 : PM} {α β γ δ : Type} {τ : Ty α} {σ : Ty β} {ρ : Ty γ} {υ : Ty δ} {x : α} {y : β} {z : γ} {u : δ} {env : Env}

theorem Ev.callFn {id : Str} {p pos : Pos} {e : Expr} {rest : List Expr} {f : Addr} {o : Obj} {fd : FuncData} {R : PM → List Value → Prop}
    (hf : Ev prog w A s P (eval (.Name id p) env) Ty.raw (.ref f)) (ho : s.heap.get? f = some o) (hd : o.data = .func fd)
    (ha : EvL prog w A s P (spliced (backTo pos (starEach (e :: rest) env))) R)
    (hc : ∀ s1 P1 vs, Ext s P s1 P1 → R P1 vs → Op prog w A s1 P1 (call (.ref f) vs []) τ x)
    (he : starEach (e :: rest) env = (false, eval e env) :: starEach rest env := by rfl) : Ev prog w A s P (eval (.Call (.Name id p) (e :: rest) [] pos) env) τ x := fun s1 P1 ex =>
  wpAny_Call_NameR ((hf.at ex).use fun v s2 P2 e2 r => by
    cases r
    refine callWith_function (o := o) (fd := fd) ?_
    have q : backTo pos (starEach (e :: rest) env) = (false, eval e env) :: backTo pos (starEach rest env) := by rw [he]; rfl
    rw [q]
    refine evalArgs_plain ?_
    rw [← q]
    exact ha.use (ex.trans e2) fun vs s3 P3 e3 r3 => ⟨⟨e3.keep _ _ (e2.keep _ _ (ex.keep _ _ ho)), hd⟩, (hc s3 P3 vs ((ex.trans e2).trans e3) r3).from (e2.trans e3)⟩)

theorem Ev.callB {id : Str} {p pos : Pos} {e : Expr} {rest : List Expr} {f : String} {R : PM → List Value → Prop}
    (hf : Ev prog w A s P (eval (.Name id p) env) Ty.raw (.builtin f))
    (ha : EvL prog w A s P (spliced (backTo pos (starEach (e :: rest) env))) R)
    (hc : ∀ s1 P1 vs, Ext s P s1 P1 → R P1 vs → Op prog w A s1 P1 (call (.builtin f) vs []) τ x)
    (he : starEach (e :: rest) env = (false, eval e env) :: starEach rest env := by rfl) (hp : (backTo pos (starEach (e :: rest) env)).any (·.1) = false := by rfl) : Ev prog w A s P (eval (.Call (.Name id p) (e :: rest) [] pos) env) τ x := fun s1 P1 ex =>
  wpAny_Call_NameR ((hf.at ex).use fun v s2 P2 e2 r => by
    cases r
    refine callWith_builtin hp ?_
    have q : backTo pos (starEach (e :: rest) env) = (false, eval e env) :: backTo pos (starEach rest env) := by rw [he]; rfl
    rw [q]
    refine evalArgs_plain ?_
    rw [← q]
    exact ha.use (ex.trans e2) fun vs s3 P3 e3 r3 => (hc s3 P3 vs ((ex.trans e2).trans e3) r3).from (e2.trans e3))

theorem Ev.callT {id : Str} {p pos : Pos} {e : Expr} {rest : List Expr} {f : String} {R : PM → List Value → Prop}
    (hf : Ev prog w A s P (eval (.Name id p) env) Ty.raw (.type f))
    (ha : EvL prog w A s P (spliced (backTo pos (starEach (e :: rest) env))) R)
    (hc : ∀ s1 P1 vs, Ext s P s1 P1 → R P1 vs → Op prog w A s1 P1 (call (.type f) vs []) τ x)
    (he : starEach (e :: rest) env = (false, eval e env) :: starEach rest env := by rfl) (hp : (backTo pos (starEach (e :: rest) env)).any (·.1) = false := by rfl) : Ev prog w A s P (eval (.Call (.Name id p) (e :: rest) [] pos) env) τ x := fun s1 P1 ex =>
  wpAny_Call_NameR ((hf.at ex).use fun v s2 P2 e2 r => by
    cases r
    refine PySem.callWith_type hp ?_
    have q : backTo pos (starEach (e :: rest) env) = (false, eval e env) :: backTo pos (starEach rest env) := by rw [he]; rfl
    rw [q]
    refine evalArgs_plain ?_
    rw [← q]
    exact ha.use (ex.trans e2) fun vs s3 P3 e3 r3 => (hc s3 P3 vs ((ex.trans e2).trans e3) r3).from (e2.trans e3))

/-- a method of a value that is no object of the heap -/
theorem Ev.meth {o : Expr} {name : Str} {apos pos : Pos} {e : Expr} {rest : List Expr} {T id : String} {R : PM → List Value → Prop}
    (hbase : attributeBase o name env (eval o env) = eval o env)
    (hline : (apos.endLine == pos.line) = true)
    (pa : PlainAttrs T) (slot : Slot T name id) (hty : typeOf (.builtin id) = pure (.type "method_descriptor"))
    (ho : Ev prog w A s P (eval o env) τ x)
    (hT : ∀ (s1 : Shared) P1 v, τ.rel P1 v x → s1.TypeIs v T) (hr : ∀ P1 v a, τ.rel P1 v x → v ≠ .ref a)
    (ha : EvL prog w A s P (spliced (backTo pos (starEach (e :: rest) env))) R)
    (hc : ∀ s1 P1 v vs, Ext s P s1 P1 → τ.rel P1 v x → R P1 vs → Op prog w A s1 P1 (call (.builtin id) (v :: vs) []) σ y)
    (hfew : ((backTo pos (starEach (e :: rest) env)).all (fun x => !x.1) && (backToKw pos (keywordEach [] env)).all (fun x => x.1.isSome)
      && decide ((e :: rest).length + ([] : List Keyword).length + (if ([] : List Keyword).isEmpty then 0 else 1) < 30)) = true := by rfl)
    (he : starEach (e :: rest) env = (false, eval e env) :: starEach rest env := by rfl) (hp : (backTo pos (starEach (e :: rest) env)).any (·.1) = false := by rfl) :
    Ev prog w A s P (eval (.Call (.Attribute o name apos) (e :: rest) [] pos) env) σ y := fun s1 P1 ex =>
  wpAny_Call_method hbase hfew hline pa slot hty ((ho.at ex).use fun v s2 P2 e2 r => ⟨hT s2 P2 v r, fun a ea => absurd ea (hr P2 v a r), by
    refine callWith_builtin hp ?_
    have q : backTo pos (starEach (e :: rest) env) = (false, eval e env) :: backTo pos (starEach rest env) := by rw [he]; rfl
    rw [q]
    refine evalArgs_plain ?_
    rw [← q]
    exact ha.use (ex.trans e2) fun vs s3 P3 e3 r3 => (hc s3 P3 v vs ((ex.trans e2).trans e3) (τ.mono e3.le r) r3).from (e2.trans e3)⟩)

theorem Ev.sub {value slice : Expr} {pos : Pos} (h1 : Ev prog w A s P (eval value env) τ x) (h2 : Ev prog w A s P (eval slice env) σ y)
    (ho : ∀ s1 P1 a b, Ext s P s1 P1 → τ.rel P1 a x → σ.rel P1 b y → Op prog w A s1 P1 (subscriptTail value slice a b) ρ z) : Ev prog w A s P (eval (.Subscript value slice pos) env) ρ z := fun s1 P1 e =>
  Subscript_ (Ev.two h1 h2 ho e)
end
end VS

end PartV3

noncomputable section PartV4
namespace VS
open PySem PySem.Calls PySem.W PyProof.Rows

/-- what is known of a value -/
structure Bd where
  rel : PM → Value → Prop
  mono : ∀ {P P' : PM} {v}, PM.le P P' → rel P v → rel P' v
def Ty.at {α : Type} (τ : Ty α) (x : α) : Bd := ⟨fun P v => τ.rel P v x, fun h r => τ.mono h r⟩
/-- what is known of an object of the call's own -/
structure Ob where
  rel : PM → Obj → Prop
  mono : ∀ {P P' : PM} {o}, PM.le P P' → rel P o → rel P' o
def Ob.exact (o : Obj) : Ob := ⟨fun _ o' => o' = o, fun _ h => h⟩
def Ob.list {α : Type} (τ : Ty α) (xs : List α) : Ob := ⟨fun P o => ∃ vs n, o = { cls := .type "list", data := .seq vs.toArray n } ∧ Paired (τ.rel P) vs xs,
  fun h r => by
    obtain ⟨vs, n, e, r⟩ := r
    exact ⟨vs, n, e, pImp (fun _ _ => τ.mono h) r⟩⟩

structure FS (env : Env) (ρ : List (Str × Bd)) (h : Heap) (P : PM) : Prop where
  kind : env.scope.kind = .function
  ns : ∃ m, h.Ns env.locals m ∧ ∀ n b, ρ.lookup n = some b → env.kindOf n = some .local → ∃ v, m n = some v ∧ b.rel P v
  cells : ∀ n c, (n, c) ∈ env.cells → ∃ v, h.IsCell c v
  cell : ∀ n b, ρ.lookup n = some b → (env.kindOf n = some .cell ∨ env.kindOf n = some .free) → ∃ c v, env.cells.lookup n = some c ∧ h.IsCell c (some v) ∧ b.rel P v
  apart : env.cells.Pairwise fun x y => x.2 ≠ y.2
  off : ∀ n c, (n, c) ∈ env.cells → c ≠ env.locals
  pl : P env.locals = none
  pc : ∀ n c, (n, c) ∈ env.cells → P c = none

theorem Heap.IsCell.some {h : Heap} {c : Addr} {v : Option Value} (x : h.IsCell c v) : ∃ o, h.get? c = some o := let ⟨o, e, _⟩ := x; ⟨o, e⟩
theorem Heap.Ns.some {h : Heap} {c : Addr} {m} (x : h.Ns c m) : ∃ o, h.get? c = some o := let ⟨o, _, _, e, _⟩ := x; ⟨o, e⟩

theorem FS.ext {env : Env} {ρ : List (Str × Bd)} {s s' : Shared} {P P' : PM} (F : FS env ρ s.heap P) (e : Ext s P s' P') : FS env ρ s'.heap P' where
  kind := F.kind
  ns := let ⟨m, hm, r⟩ := F.ns; ⟨m, hm.keeps e.keep, fun n b hb hk => let ⟨v, a, q⟩ := r n b hb hk; ⟨v, a, b.mono e.le q⟩⟩
  cells := fun n c hc => let ⟨v, r⟩ := F.cells n c hc; ⟨v, r.keeps e.keep⟩
  cell := fun n b hb hk => let ⟨c, v, h1, h2, h3⟩ := F.cell n b hb hk; ⟨c, v, h1, h2.keeps e.keep, b.mono e.le h3⟩
  apart := F.apart
  off := F.off
  pl := by
    cases q : P' env.locals with
    | none => rfl
    | some o => rcases e.fresh _ _ q with h | h
                · rw [F.pl] at h; cases h
                · obtain ⟨m, hm, _⟩ := F.ns
                  obtain ⟨o', ho⟩ := Heap.Ns.some hm
                  rw [ho] at h; cases h
  pc := fun n c hc => by
    cases q : P' c with
    | none => rfl
    | some o => rcases e.fresh _ _ q with h | h
                · rw [F.pc n c hc] at h; cases h
                · obtain ⟨v, hv⟩ := F.cells n c hc
                  obtain ⟨o', ho⟩ := Heap.IsCell.some hv
                  rw [ho] at h; cases h

theorem FS.var {env : Env} {ρ : List (Str × Bd)} {h : Heap} {P : PM} {n : Str} {b : Bd} {k : NameKind} (F : FS env ρ h P) (hb : ρ.lookup n = some b) (hk : env.kindOf n = some k) (hk' : k = .local ∨ k = .cell ∨ k = .free) : ∃ v, Var env h n v ∧ b.rel P v := by
  rcases hk' with rfl | hc
  · obtain ⟨m, hm, r⟩ := F.ns
    obtain ⟨v, a, q⟩ := r n b hb hk
    exact ⟨v, ⟨F.kind, .inl ⟨hk, m, hm, a⟩⟩, q⟩
  · have hk2 : env.kindOf n = some .cell ∨ env.kindOf n = some .free := hc.imp (fun e => by rw [hk, e]) fun e => by rw [hk, e]
    obtain ⟨c, v, h1, h2, h3⟩ := F.cell n b hb hk2
    exact ⟨v, ⟨F.kind, .inr ⟨hk2, c, h1, h2⟩⟩, h3⟩

theorem Ev.name {prog : Program} {w : World} {A : Around} {s : Shared} {P : PM} {env : Env} {ρ : List (Str × Bd)} {α : Type} {τ : Ty α} {x : α} {n : Str} {pos : Pos} {k : NameKind} (F : FS env ρ s.heap P) (hb : ρ.lookup n = some (τ.at x)) (hk : env.kindOf n = some k)
    (hk' : k = .local ∨ k = .cell ∨ k = .free := by decide) (hd : (n == ("__debug__" : Str)) = false := by decide) (hn : (n == ("__classdict__" : Str)) = false := by decide) : Ev prog w A s P (eval (.Name n pos) env) τ x := by
  obtain ⟨v, hv, r⟩ := F.var hb hk hk'
  exact Ev.var hv r hd hn

/-- a store into a name of the frame -/
theorem FS.store {M : Model} {A : Around} {E : Value → Shared → Prop} {env : Env} {ρ : List (Str × Bd)} {s : Shared} {P : PM} {n : Str} {v : Value} {b : Bd} {Q : Unit → Shared → Prop} (F : FS env ρ s.heap P) (r : b.rel P v)
    (hk : env.kindOf n = some .local ∨ (env.kindOf n = some .cell ∧ ∃ c, env.cells.lookup n = some c))
    (hQ : ∀ h' tk, FS env ((n, b) :: ρ) h' P → (∀ a o, a ≠ env.locals → (env.kindOf n = some .cell → ∀ c, env.cells.lookup n = some c → a ≠ c) → s.heap.get? a = some o → h'.get? a = some o) → Q () { s with heap := h', toks := tk }) :
    wpAny M A (storeName env n v) Q E s := by
  have look : ∀ n' b', ((n, b) :: ρ).lookup n' = some b' → (n' = n ∧ b' = b) ∨ (n' ≠ n ∧ ρ.lookup n' = some b') := fun n' b' h => by
    rw [List.lookup_cons] at h
    cases q : n' == n with
    | true => rw [q] at h; cases h; exact .inl ⟨beq_iff_eq.mp q, rfl⟩
    | false => rw [q] at h; exact .inr ⟨fun e => (by rw [e, beq_self_eq_true] at q; cases q), h⟩
  rcases hk with hl | ⟨hl, c, hc⟩
  · obtain ⟨m, hm, rm⟩ := F.ns
    refine wpAny_storeName_local hl hm (fun h' hn hs => hQ h' _ ?_ fun a o ha _ e => (hs.2 a ha).trans e) (by rw [F.kind]; rfl)
    exact {
      kind := F.kind
      ns := ⟨_, hn, fun n' b' hb' hk' => by
        rcases look n' b' hb' with ⟨rfl, rfl⟩ | ⟨hne, hb''⟩
        · exact ⟨v, by simp, r⟩
        · obtain ⟨v', a, q⟩ := rm n' b' hb'' hk'
          exact ⟨v', by simp only [if_neg hne]; exact a, q⟩⟩
      cells := fun n' c' hc' => let ⟨v', hv'⟩ := F.cells n' c' hc'; ⟨v', hv'.sameBut hs (F.off n' c' hc')⟩
      cell := fun n' b' hb' hk' => by
        rcases look n' b' hb' with ⟨rfl, rfl⟩ | ⟨hne, hb''⟩
        · exact absurd hk' (by rw [hl]; decide)
        · obtain ⟨c', v', h1, h2, h3⟩ := F.cell n' b' hb'' hk'
          exact ⟨c', v', h1, h2.sameBut hs (F.off n' c' (mem_of_lookup h1)), h3⟩
      apart := F.apart
      off := F.off
      pl := F.pl
      pc := F.pc }
  · obtain ⟨v₀, hv₀⟩ := F.cells n c (mem_of_lookup hc)
    refine wpAny_storeName_cell F.kind hl hc hv₀ fun h' hv' hs => hQ h' s.toks ?_ fun a o ha hac e => (hs.2 a (hac hl c hc)).trans e
    have hcl := F.off n c (mem_of_lookup hc)
    exact {
      kind := F.kind
      ns := let ⟨m, hm, rm⟩ := F.ns; ⟨m, hm.sameBut hs (Ne.symm hcl), fun n' b' hb' hk' => by
        rcases look n' b' hb' with ⟨rfl, rfl⟩ | ⟨hne, hb''⟩
        · rw [hl] at hk'; cases hk'
        · exact rm n' b' hb'' hk'⟩
      cells := fun n' c' hc' => by
        by_cases q : c' = c
        · subst q; exact ⟨_, hv'⟩
        · exact let ⟨v', hv'⟩ := F.cells n' c' hc'; ⟨v', hv'.sameBut hs q⟩
      cell := fun n' b' hb' hk' => by
        rcases look n' b' hb' with ⟨rfl, rfl⟩ | ⟨hne, hb''⟩
        · exact ⟨c, v, hc, hv', r⟩
        · obtain ⟨c', v', h1, h2, h3⟩ := F.cell n' b' hb'' hk'
          exact ⟨c', v', h1, h2.sameBut hs fun e => hne (name_of_addr F.apart (mem_of_lookup h1) (e ▸ mem_of_lookup hc)), h3⟩
      apart := F.apart
      off := F.off
      pl := F.pl
      pc := F.pc }

/-- the state of a call: its base, its frame, its own objects -/
structure St (cs : Str → Prop) (s₀ : Shared) (P₀ : PM) (env : Env) (ρ : List (Str × Bd)) (O : List (Addr × Ob)) (s : Shared) (P : PM) : Prop where
  ext : Ext s₀ P₀ s P
  fs : FS env ρ s.heap P
  newL : s₀.heap.get? env.locals = none
  newC : ∀ n c, cs n → (n, c) ∈ env.cells → s₀.heap.get? c = none
  own : ∀ p ∈ O, (∃ o, s.heap.get? p.1 = some o ∧ p.2.rel P o) ∧ P p.1 = none ∧ s₀.heap.get? p.1 = none ∧ p.1 ≠ env.locals ∧ ∀ n c, (n, c) ∈ env.cells → p.1 ≠ c
  nodup : (O.map (·.1)).Nodup

section
variable {cs : Str → Prop} {s₀ s s' : Shared} {P₀ P P' : PM} {env : Env} {ρ : List (Str × Bd)} {O : List (Addr × Ob)}
theorem St.go (S : St cs s₀ P₀ env ρ O s P) (e : Ext s P s' P') : St cs s₀ P₀ env ρ O s' P' where
  ext := S.ext.trans e
  fs := S.fs.ext e
  newL := S.newL
  newC := S.newC
  own := fun p hp => by
    obtain ⟨⟨o, ho, r⟩, h2, h3, h4, h5⟩ := S.own p hp
    refine ⟨⟨o, e.keep _ _ ho, p.2.mono e.le r⟩, ?_, h3, h4, h5⟩
    cases q : P' p.1 with
    | none => rfl
    | some o' => rcases e.fresh _ _ q with h | h
                 · rw [h2] at h; cases h
                 · rw [ho] at h; cases h
  nodup := S.nodup
theorem St.sub (S : St cs s₀ P₀ env ρ O s P) : Sub P s := S.ext.sub

theorem St.store {M : Model} {A : Around} {E : Value → Shared → Prop} {n : Str} {v : Value} {b : Bd} {Q : Unit → Shared → Prop} (S : St cs s₀ P₀ env ρ O s P) (r : b.rel P v)
    (hk : env.kindOf n = some .local ∨ (env.kindOf n = some .cell ∧ cs n ∧ ∃ c, env.cells.lookup n = some c))
    (hQ : ∀ s', St cs s₀ P₀ env ((n, b) :: ρ) O s' P → Q () s') : wpAny M A (storeName env n v) Q E s := by
  have hcs : env.kindOf n = some .cell → cs n := fun q => hk.elim (fun e => by rw [e] at q; cases q) fun e => e.2.1
  refine S.fs.store r (hk.imp id fun e => ⟨e.1, e.2.2⟩) fun h' tk F' kp => hQ _ ?_
  exact {
    ext := {
      keep := fun a o e => kp a o (fun q => by rw [q, S.newL] at e; cases e) (fun k c hc q => by rw [q, S.newC n c (hcs k) (mem_of_lookup hc)] at e; cases e) (S.ext.keep a o e)
      le := S.ext.le
      fresh := S.ext.fresh
      sub := fun a o e => kp a o (fun q => by rw [q, S.fs.pl] at e; cases e) (fun _ c hc q => by rw [q, S.fs.pc n c (mem_of_lookup hc)] at e; cases e) (S.ext.sub a o e)
      gens := S.ext.gens
      os := S.ext.os }
    fs := F'
    newL := S.newL
    newC := S.newC
    own := fun p hp => by
      obtain ⟨⟨o, ho, r⟩, h2, h3, h4, h5⟩ := S.own p hp
      exact ⟨⟨o, kp _ _ h4 (fun _ c hc => h5 n c (mem_of_lookup hc)) ho, r⟩, h2, h3, h4, h5⟩
    nodup := S.nodup }

/-- a new object of the call's own -/
theorem St.make (S : St cs s₀ P₀ env ρ O s P) {o : Obj} {b : Ob} {tk : Nat} (r : b.rel P o) (hf : o.isFreed = false := by rfl) :
    St cs s₀ P₀ env ρ ((s.heap.objs.size, b) :: O) { s with heap := s.heap.push o, toks := tk } P := by
  have S1 : St cs s₀ P₀ env ρ O { s with heap := s.heap.push o, toks := tk } P := S.go (.heap S.sub fun _ _ e => Heap.get?_push_of_some _ e)
  have lt : ∀ a o', s.heap.get? a = some o' → s.heap.objs.size ≠ a := fun a o' e q => Nat.lt_irrefl _ (q ▸ Heap.lt_size e)
  refine { S1 with own := fun p hp => ?_, nodup := List.nodup_cons.mpr ⟨fun hm => ?_, S.nodup⟩ }
  · rcases List.mem_cons.mp hp with rfl | hp
    · refine ⟨⟨o, Heap.get?_push_size _ hf, r⟩, S.sub.none (get?_size _), ?_, ?_, fun n c hc => ?_⟩
      · cases q : s₀.heap.get? s.heap.objs.size with
        | none => rfl
        | some o' => exact absurd rfl (lt _ _ (S.ext.keep _ _ q))
      · obtain ⟨m, hm, _⟩ := S.fs.ns
        obtain ⟨o', ho'⟩ := Heap.Ns.some hm
        exact lt _ _ ho'
      · obtain ⟨v, hv⟩ := S.fs.cells n c hc
        obtain ⟨o', ho'⟩ := Heap.IsCell.some hv
        exact lt _ _ ho'
    · exact S1.own p hp
  · obtain ⟨p, hp, e⟩ := List.mem_map.mp hm
    obtain ⟨⟨o', ho', _⟩, _⟩ := S.own p hp
    exact lt _ _ ho' e.symm

/-- an object of the call's own is changed -/
theorem St.change {a : Addr} {b b' : Ob} {h' : Heap} {tk : Nat} {o' : Obj} (S : St cs s₀ P₀ env ρ ((a, b) :: O) s P) (ho : h'.get? a = some o') (r : b'.rel P o') (kp : ∀ c o, c ≠ a → s.heap.get? c = some o → h'.get? c = some o) :
    St cs s₀ P₀ env ρ ((a, b') :: O) { s with heap := h', toks := tk } P := by
  obtain ⟨⟨o, hoa, ra⟩, h2, h3, h4, h5⟩ := S.own (a, b) (.head _)
  obtain ⟨nd1, nd2⟩ := List.nodup_cons.mp S.nodup
  have F := S.fs
  exact {
    ext := {
      keep := fun c o e => kp c o (fun q => by rw [q, h3] at e; cases e) (S.ext.keep c o e)
      le := S.ext.le
      fresh := S.ext.fresh
      sub := fun c o e => kp c o (fun q => by rw [q, h2] at e; cases e) (S.ext.sub c o e)
      gens := S.ext.gens
      os := S.ext.os }
    fs := {
      kind := F.kind
      ns := let ⟨m, ⟨om, es, ep, g, rest⟩, r⟩ := F.ns; ⟨m, ⟨om, es, ep, kp _ _ (Ne.symm h4) g, rest⟩, r⟩
      cells := fun n c hc => let ⟨v, o, e, d⟩ := F.cells n c hc; ⟨v, o, kp _ _ (Ne.symm (h5 n c hc)) e, d⟩
      cell := fun n b hb hk => let ⟨c, v, h1, ⟨o, e, d⟩, h3⟩ := F.cell n b hb hk; ⟨c, v, h1, ⟨o, kp _ _ (Ne.symm (h5 n c (mem_of_lookup h1))) e, d⟩, h3⟩
      apart := F.apart
      off := F.off
      pl := F.pl
      pc := F.pc }
    newL := S.newL
    newC := S.newC
    own := fun p hp => by
      rcases List.mem_cons.mp hp with rfl | hp
      · exact ⟨⟨o', ho, r⟩, h2, h3, h4, h5⟩
      · obtain ⟨⟨o₁, ho₁, r₁⟩, g2, g3, g4, g5⟩ := S.own p (.tail _ hp)
        exact ⟨⟨o₁, kp _ _ (fun q => nd1 (List.mem_map.mpr ⟨p, hp, q⟩)) ho₁, r₁⟩, g2, g3, g4, g5⟩
    nodup := List.nodup_cons.mpr ⟨nd1, nd2⟩ }
theorem St.perm {O' : List (Addr × Ob)} (S : St cs s₀ P₀ env ρ O s P) (h : O.Perm O') : St cs s₀ P₀ env ρ O' s P :=
  { S with own := fun p hp => S.own p (h.mem_iff.mpr hp), nodup := (h.map _).nodup_iff.mp S.nodup }
theorem St.swap {p q : Addr × Ob} (S : St cs s₀ P₀ env ρ (p :: q :: O) s P) : St cs s₀ P₀ env ρ (q :: p :: O) s P := S.perm (.swap _ _ _)
theorem St.drop {p : Addr × Ob} (S : St cs s₀ P₀ env ρ (p :: O) s P) : St cs s₀ P₀ env ρ O s P :=
  { S with own := fun p hp => S.own p (.tail _ hp), nodup := (List.nodup_cons.mp S.nodup).2 }
/-- forget names, or know them otherwise -/
theorem St.names {ρ' : List (Str × Bd)} (S : St cs s₀ P₀ env ρ O s P) (h : ∀ n b, ρ'.lookup n = some b → ∃ b', ρ.lookup n = some b' ∧ ∀ v, b'.rel P v → b.rel P v) : St cs s₀ P₀ env ρ' O s P :=
  { S with fs := { S.fs with
      ns := let ⟨m, hm, r⟩ := S.fs.ns; ⟨m, hm, fun n b hb hk => let ⟨b', hb', q⟩ := h n b hb; let ⟨v, a, z⟩ := r n b' hb' hk; ⟨v, a, q v z⟩⟩
      cell := fun n b hb hk => let ⟨b', hb', q⟩ := h n b hb; let ⟨c, v, h1, h2, h3⟩ := S.fs.cell n b' hb' hk; ⟨c, v, h1, h2, q v h3⟩ } }
/-- an own object is frozen -/
theorem St.freeze {a : Addr} {b : Ob} (S : St cs s₀ P₀ env ρ ((a, b) :: O) s P) : ∃ o, b.rel P o ∧ St cs s₀ P₀ env ρ O s (P.put a o) ∧ PM.le P (P.put a o) := by
  obtain ⟨⟨o, ho, r⟩, h2, h3, h4, h5⟩ := S.own (a, b) (.head _)
  obtain ⟨nd1, nd2⟩ := List.nodup_cons.mp S.nodup
  have le := PM.le_put (o := o) h2
  have F := S.fs
  have ne : ∀ c, c ≠ a → P.put a o c = P c := fun c hc => PM.put_ne hc
  refine ⟨o, r, ?_, le⟩
  exact {
    ext := S.ext.put' h3 ho h2
    fs := {
      kind := F.kind
      ns := let ⟨m, hm, r⟩ := F.ns; ⟨m, hm, fun n b hb hk => let ⟨v, x, q⟩ := r n b hb hk; ⟨v, x, b.mono le q⟩⟩
      cells := F.cells
      cell := fun n b hb hk => let ⟨c, v, h1, h2, h3⟩ := F.cell n b hb hk; ⟨c, v, h1, h2, b.mono le h3⟩
      apart := F.apart
      off := F.off
      pl := by rw [ne _ (Ne.symm h4)]; exact F.pl
      pc := fun n c hc => by rw [ne _ (Ne.symm (h5 n c hc))]; exact F.pc n c hc }
    newL := S.newL
    newC := S.newC
    own := fun p hp => by
      obtain ⟨⟨o₁, ho₁, r₁⟩, g2, g3, g4, g5⟩ := S.own p (.tail _ hp)
      exact ⟨⟨o₁, ho₁, p.2.mono le r₁⟩, by rw [ne _ fun q => nd1 (List.mem_map.mpr ⟨p, hp, q⟩)]; exact g2, g3, g4, g5⟩
    nodup := nd2 }
end
end VS

end PartV4

noncomputable section PartV5
namespace VS
open PySem PySem.Calls PySem.W PyProof.Rows

/-- the names that get a cell -/
theorem cells_have {x : Str} : ∀ (names : List (Str × NameKind)) (n : Nat) (acc : List (Str × Addr)), x ∈ acc.map (·.1) ∨ names.lookup x = some .cell → x ∈ (cellsFrom n names acc).map (·.1)
  | [], _, _, h => h.resolve_right fun e => by cases e
  | (y, k) :: r, n, acc, h => by
    unfold cellsFrom
    cases hk : k == NameKind.cell with
    | true =>
      rw [if_pos rfl]
      refine cells_have r _ _ ?_
      rcases h with h | h
      · exact .inl (List.mem_cons_of_mem _ h)
      · by_cases e : x = y
        · subst e; exact .inl (.head _)
        · exact .inr (by rwa [List.lookup_cons, beq_false_of_ne e] at h)
    | false =>
      rw [if_neg (by decide)]
      refine cells_have r _ _ (h.imp id fun h => ?_)
      by_cases e : x = y
      · subst e
        rw [List.lookup_cons, beq_self_eq_true] at h
        cases h; cases hk
      · rwa [List.lookup_cons, beq_false_of_ne e] at h
theorem look_of_mem {α : Type} {x : Str} : ∀ {l : List (Str × α)}, x ∈ l.map (·.1) → (l.lookup x).isSome = true
  | (y, v) :: r, h => by
    rw [List.lookup_cons]
    cases q : x == y with
    | true => rfl
    | false =>
      rcases List.mem_cons.mp h with e | h
      · rw [e, beq_self_eq_true] at q; cases q
      · exact look_of_mem h
theorem cell_there {x : Str} {names : List (Str × NameKind)} (n : Nat) (h : names.lookup x = some .cell) : ((cellsFrom n names []).lookup x).isSome = true := look_of_mem (cells_have names n [] (.inr h))
theorem kinds_of {scope : Scope} {bs : List (Str × Value)} (e : (bs.all fun y => scope.names.lookup y.1 == some .local || scope.names.lookup y.1 == some .cell) = true) (n : Nat) :
    ∀ x ∈ bs, scope.names.lookup x.1 = some .local ∨ (scope.names.lookup x.1 = some .cell ∧ ((cellsFrom n scope.names []).lookup x.1).isSome = true) := fun x hx =>
  (Bool.or_eq_true_iff.mp (List.all_eq_true.mp e x hx)).imp beq_iff_eq.mp fun q => ⟨beq_iff_eq.mp q, cell_there n (beq_iff_eq.mp q)⟩

inductive BindsAre (P : PM) : List (Str × Value) → List (Str × Bd) → Prop
  | nil : BindsAre P [] []
  | cons {n : Str} {v : Value} {b : Bd} {r : List (Str × Value)} {ρ : List (Str × Bd)} : b.rel P v → BindsAre P r ρ → BindsAre P ((n, v) :: r) ((n, b) :: ρ)
theorem BindsAre.names {P : PM} {bs : List (Str × Value)} {ρ : List (Str × Bd)} (h : BindsAre P bs ρ) : bs.map (·.1) = ρ.map (·.1) := by
  induction h with
  | nil => rfl
  | cons _ _ ih => simp [ih]
theorem BindsAre.lookup {P : PM} {bs : List (Str × Value)} {ρ : List (Str × Bd)} (h : BindsAre P bs ρ) {n : Str} {b : Bd} (hb : ρ.lookup n = some b) : ∃ v, bs.lookup n = some v ∧ b.rel P v := by
  induction h with
  | nil => cases hb
  | @cons n' v b' r ρ r1 h ih =>
    rw [List.lookup_cons] at hb ⊢
    cases q : n == n' with
    | true => rw [q] at hb; cases hb; exact ⟨v, rfl, r1⟩
    | false => rw [q] at hb; exact ih hb

theorem lookup_none_of {α : Type} : ∀ {l : List (Str × α)} {n : Str}, n ∉ l.map (·.1) → l.lookup n = none
  | [], _, _ => rfl
  | (k, v) :: r, n, h => by
    rw [List.lookup_cons]
    cases q : n == k with
    | true => exact absurd (by rw [beq_iff_eq.mp q]; exact .head _) h
    | false => exact lookup_none_of fun hm => h (.tail _ hm)
theorem bindL_eq (k : Str → Option NameKind) : ∀ (bs : List (Str × Value)) (m : Str → Option Value), (bs.map (·.1)).Nodup → ∀ n v, bs.lookup n = some v → k n = some .local → bindL k bs m n = some v
  | [], _, _, _, _, h, _ => by cases h
  | (x, u) :: r, m, nd, n, v, h, hk => by
    obtain ⟨nd1, nd2⟩ := List.nodup_cons.mp nd
    rw [List.lookup_cons] at h
    unfold bindL
    cases q : n == x with
    | true =>
      rw [q] at h; cases h
      have e := beq_iff_eq.mp q; subst e
      have : ∀ (bs : List (Str × Value)) (m : Str → Option Value), n ∉ bs.map (·.1) → bindL k bs m n = m n := by
        intro bs
        induction bs with
        | nil => intros; rfl
        | cons p r ih =>
          intro m hn
          obtain ⟨y, w⟩ := p
          unfold bindL
          rw [ih _ fun hm => hn (.tail _ hm)]
          have hne : n ≠ y := fun e => hn (e ▸ .head _)
          split
          · exact if_neg hne
          · rfl
      rw [this _ _ nd1, if_pos hk]; simp
    | false => rw [q] at h; exact bindL_eq k r _ nd2 n v h hk
theorem bindC_eq (k : Str → Option NameKind) : ∀ (bs : List (Str × Value)) (m : Str → Option Value), (bs.map (·.1)).Nodup → ∀ n v, bs.lookup n = some v → k n ≠ some .local → bindC k bs m n = some v
  | [], _, _, _, _, h, _ => by cases h
  | (x, u) :: r, m, nd, n, v, h, hk => by
    obtain ⟨nd1, nd2⟩ := List.nodup_cons.mp nd
    rw [List.lookup_cons] at h
    unfold bindC
    cases q : n == x with
    | true =>
      rw [q] at h; cases h
      have e := beq_iff_eq.mp q; subst e
      have : ∀ (bs : List (Str × Value)) (m : Str → Option Value), n ∉ bs.map (·.1) → bindC k bs m n = m n := by
        intro bs
        induction bs with
        | nil => intros; rfl
        | cons p r ih =>
          intro m hn
          obtain ⟨y, w⟩ := p
          unfold bindC
          rw [ih _ fun hm => hn (.tail _ hm)]
          have hne : n ≠ y := fun e => hn (e ▸ .head _)
          split
          · rfl
          · exact if_neg hne
      rw [this _ _ nd1, if_neg hk]; simp
    | false => rw [q] at h; exact bindC_eq k r _ nd2 n v h hk

/-- from a call's start -/
theorem St.start {s : Shared} {P : PM} {env : Env} {bs : List (Str × Value)} {ρ : List (Str × Bd)} {s' : Shared} (hk : env.scope.kind = .function)
    (x : InCallC s env.locals (bindL env.kindOf bs fun _ => none) env.cells (bindC env.kindOf bs fun _ => none) s') (hs : Sub P s) (hb : BindsAre P bs ρ) (nd : (ρ.map (·.1)).Nodup) (ndc : (env.cells.map (·.1)).Nodup)
    (kd : ∀ y ∈ ρ, env.kindOf y.1 = some .local ∨ (env.kindOf y.1 = some .cell ∧ (env.cells.lookup y.1).isSome = true)) : St (fun _ => True) s P env ρ [] s' P := by
  obtain ⟨h, tk, rfl⟩ := x.toInCall.same
  have kp := x.toInCall.keep
  have nd' : (bs.map (·.1)).Nodup := by rw [hb.names]; exact nd
  have newL : s.heap.get? env.locals = none := by
    cases q : s.heap.get? env.locals with
    | none => rfl
    | some o => exact absurd (Nat.lt_of_lt_of_le (Heap.lt_size q) x.toInCall.fresh) (Nat.lt_irrefl _)
  have newC : ∀ n c, (n, c) ∈ env.cells → s.heap.get? c = none := fun n c hc => by
    cases q : s.heap.get? c with
    | none => rfl
    | some o => exact absurd (Nat.lt_trans (Nat.lt_of_lt_of_le (Heap.lt_size q) x.toInCall.fresh) (x.above n c hc)) (Nat.lt_irrefl _)
  have mem : ∀ n b, ρ.lookup n = some b → (n, b) ∈ ρ := fun n b h => mem_of_lookup h
  exact {
    ext := .heap hs kp
    fs := {
      kind := hk
      ns := ⟨_, x.toInCall.ns, fun n b hb' hl => let ⟨v, h1, h2⟩ := hb.lookup hb'; ⟨v, bindL_eq _ _ _ nd' n v h1 hl, h2⟩⟩
      cells := fun n c hc => ⟨_, x.cell n c (lookup_of_mem_nodup ndc hc)⟩
      cell := fun n b hb' hl => by
        obtain ⟨v, h1, h2⟩ := hb.lookup hb'
        rcases kd _ (mem n b hb') with q | ⟨q, hc⟩
        · exact absurd hl (by rw [q]; decide)
        · obtain ⟨c, hc⟩ := Option.isSome_iff_exists.mp hc
          refine ⟨c, v, hc, ?_, h2⟩
          have := x.cell n c hc
          rwa [bindC_eq _ _ _ nd' n v h1 (by rw [q]; decide)] at this
      apart := x.apart
      off := fun n c hc => Nat.ne_of_gt (x.above n c hc)
      pl := hs.none newL
      pc := fun n c hc => hs.none (newC n c hc) }
    newL := newL
    newC := fun n c _ => newC n c
    own := fun _ hp => nomatch hp
    nodup := .nil }

def nodupB : List Str → Bool
  | [] => true
  | a :: r => !r.contains a && nodupB r
theorem nodup_of : ∀ {l : List Str}, nodupB l = true → l.Nodup
  | [], _ => .nil
  | a :: r, h => by
    unfold nodupB at h
    obtain ⟨h1, h2⟩ := Bool.and_eq_true_iff.mp h
    exact List.nodup_cons.mpr ⟨fun hm => (by rw [List.contains_iff_mem.mpr hm] at h1; cases h1), nodup_of h2⟩
section
variable {prog : Program} {w : World} {α : Type} {τ : Ty α} {x : α} {K : Frag} {p : Program} {lo : List Str} {mg mb : Str → Option Value} {n : Nat} {P : PM}
/-- what a body's end hands on -/
def Back (s₀ : Shared) (P₀ : PM) (τ : Ty α) (x : α) : Flow → Shared → Prop := fun fl s' => ∃ P', Ext s₀ P₀ s' P' ∧ τ.rel P' (match fl with | .ret v => v | _ => .none) x
theorem Returns.def {f : Addr} {oc : Value} {od : Option Addr} {sl : Array (Option Value)} {fd : FuncData} {body : List Stmt} {vs : List Value} {ρ : List (Str × Bd)}
    (hf : K.lookup f = some ⟨oc, od, .func fd, sl⟩) (hb : fd.body = .stmts body) (hclo : fd.closure = []) (hcd : codeIn K fd.code fd.qualname = true)
    (hbind : ∀ A s, Sub P s → ∀ (Q : List (Str × Value) → Shared → Prop) (E : Value → Shared → Prop), (∀ bs s' P', Ext s P s' P' → BindsAre P' bs ρ → Q bs s') → wpAny (model prog w) A (bindArgs fd ⟨vs, []⟩) Q E s)
    (nd : nodupB (ρ.map (·.1)) = true) (kd : (ρ.all fun y => fd.scope.names.lookup y.1 == some .local || fd.scope.names.lookup y.1 == some .cell) = true) (ndc : nodupB ((cellsFrom 0 fd.scope.names []).map (·.1)) = true)
    (h : ∀ A s₀ P₀ s L, Room n A → Wd K p lo mg mb s₀.heap → St (fun _ => True) s₀ P₀ (callEnvC fd L f) ρ [] s P₀ →
      wpAny (model prog w) A (execs body (callEnvC fd L f)) (Back s₀ P₀ τ x) (fun _ _ => False) s)
    (hco : fd.scope.isCoroutine = false := by rfl) (hgen : fd.scope.isGenerator = false := by rfl) (hk : fd.scope.kind = .function := by rfl) :
    Returns prog w K p lo mg mb (n + 1) (.ref f) vs P τ x := by
  intro A s R W hs
  refine wpAny_call (codeAny_call_function R.lt (W.own _ _ hf) rfl hco hgen hb (codeRec_of W.own hcd) (hbind _ s hs _ _ fun bs s' P' e hbs => ?_))
  rw [hclo]
  have nm : ∀ y ∈ bs, ∃ b, (y.1, b) ∈ ρ := fun y hy => by
    have : y.1 ∈ bs.map (·.1) := List.mem_map.mpr ⟨y, hy, rfl⟩
    rw [hbs.names] at this
    obtain ⟨z, hz, ez⟩ := List.mem_map.mp this
    exact ⟨z.2, ez ▸ hz⟩
  have kd' : (bs.all fun y => fd.scope.names.lookup y.1 == some .local || fd.scope.names.lookup y.1 == some .cell) = true := List.all_eq_true.mpr fun y hy => by
    obtain ⟨b, hb⟩ := nm y hy
    exact List.all_eq_true.mp kd _ hb
  refine wpAny_newFunctionEnv_cells hk (kinds_of kd' _) fun env he s'' y => ?_
  subst he
  have W' := W.keeps e.keep
  refine ⟨(W'.top.nolimit).keeps y.toInCall.keep, codeAny_func ?_⟩
  have ndc' : ((cellsFrom (s'.heap.objs.size + 1) fd.scope.names []).map (·.1)).Nodup := cellsFrom_names fd.scope.names 0 (s'.heap.objs.size + 1) [] [] rfl ▸ nodup_of ndc
  have S : St (fun _ => True) s' P' (callEnvC fd s'.heap.objs.size f) ρ [] s'' P' := St.start (env := callEnvC fd s'.heap.objs.size f) hk y e.sub hbs (nodup_of nd) ndc' fun z hz => by
    have := List.all_eq_true.mp kd z hz
    rcases Bool.or_eq_true_iff.mp this with q | q
    · have q' : fd.scope.names.lookup z.1 = some .local := by simpa using q
      exact .inl q'
    · have q' : fd.scope.names.lookup z.1 = some .cell := by simpa using q
      exact .inr ⟨q', cell_there _ q'⟩
  refine wpAny_mono (h _ s' P' s'' s'.heap.objs.size (Room.deeper R) W' S) (fun fl s3 ⟨P3, e3, r3⟩ => ?_) fun _ _ q => q.elim
  exact ⟨P3, e.trans e3, r3⟩
theorem bind_pure {fd : FuncData} {vs : List Value} {bs : List (Str × Value)} {ρ : List (Str × Bd)} (h : bindArgs fd ⟨vs, []⟩ = pure bs) (hb : BindsAre P bs ρ) :
    ∀ A s, Sub P s → ∀ (Q : List (Str × Value) → Shared → Prop) (E : Value → Shared → Prop), (∀ bs s' P', Ext s P s' P' → BindsAre P' bs ρ → Q bs s') → wpAny (model prog w) A (bindArgs fd ⟨vs, []⟩) Q E s :=
  fun A s hs Q E hQ => by rw [h]; exact wpAny_pure (hQ _ _ _ (.refl hs) hb)
end
end VS

end PartV5

noncomputable section PartV6
namespace VS
open PySem PySem.Calls PySem.W PyProof.Rows

theorem b_type : bootBuiltins "type" = some (.type "type") := by decide +kernel
theorem b_str : bootBuiltins "str" = some (.type "str") := by decide +kernel
theorem b_bytes : bootBuiltins "bytes" = some (.type "bytes") := by decide +kernel
theorem b_list : bootBuiltins "list" = some (.type "list") := by decide +kernel
theorem b_tuple : bootBuiltins "tuple" = some (.type "tuple") := by decide +kernel
theorem b_set : bootBuiltins "set" = some (.type "set") := by decide +kernel
theorem b_map : bootBuiltins "map" = some (.type "map") := by decide +kernel
theorem b_enumerate : bootBuiltins "enumerate" = some (.type "enumerate") := by decide +kernel
theorem b_range : bootBuiltins "range" = some (.type "range") := by decide +kernel
theorem b_issubclass : bootBuiltins "issubclass" = some (.builtin "issubclass") := by decide +kernel
theorem b_isinstance : bootBuiltins "isinstance" = some (.builtin "isinstance") := by decide +kernel
theorem b_len : bootBuiltins "len" = some (.builtin "len") := by decide +kernel
theorem b_sorted : bootBuiltins "sorted" = some (.builtin "sorted") := by decide +kernel
theorem b_sum : bootBuiltins "sum" = some (.builtin "sum") := by decide +kernel
theorem b_min : bootBuiltins "min" = some (.builtin "min") := by decide +kernel
theorem b_max : bootBuiltins "max" = some (.builtin "max") := by decide +kernel
theorem b_IndexError : bootBuiltins "IndexError" = some (.type "IndexError") := by decide +kernel

section
variable {prog : Program} {w : World} {A : Around} {s : Shared} {P : PM} {E : Value → Shared → Prop}

theorem sub_str_str : isSubtype (.type "str") (.type "str") = pure true := by rw [isSubtype_type]; kernel_rfl
theorem sub_tup_tup : isSubtype (.type "tuple") (.type "tuple") = pure true := by rw [isSubtype_type]; kernel_rfl
theorem meta_str : typeOf (.type "str") = pure (.type "type") := by
  show (pure (Value.type ((Manifest.find? "str").elim "type" (·.metatype))) : Sem Value) = _
  rw [find?_eq_fast]; kernel_rfl

theorem issub_nested_str {k : Value} {dep : Int} {tk : Tok} {Q : Fin → Shared → Prop} (hk : k = .int dep tk) (hq : Q (.done (.ret (.bool true))) s) :
    wpAny (model prog w) A (Builtin.«issubclass.nested» ⟨[.type "str", .type "str", k], []⟩) Q E s := by
  subst hk
  have hm := meta_str
  have hself := sub_str_str
  repeat (any_goals (first | assumption | (rw [if_pos hm]) | (rw [hself]) | wp_step))
theorem issub_call_str {Q : Value → Shared → Prop} (hq : Q (.bool true) s) : wpAny (model prog w) A (call (.builtin "issubclass.nested") [.type "str", .type "str", rawInt 1]) Q E s := by
  refine wpAny_call (codeAny_call_builtin (by decide +kernel) F.entry_issubclass_nested ?_)
  refine wpAny_of_eq (a := ()) (by unfold checkBuiltinCall; kernel_rfl) ?_
  exact issub_nested_str rfl hq

theorem op_issub {v : Value} (h : Sub P s) (r : SeqAt P v "tuple" [.type "str", .type "bytes"]) : Op prog w A s P (call (.builtin "issubclass") [.type "str", v] []) Ty.bool true := by
  obtain ⟨a, n, rfl, hp⟩ := r
  have ho := h _ _ hp
  refine call_issubclass (S := fun A' R s' => s' = s ∧ R (.ok (.ret (.bool true))) s) (fun prog w A R s' hs => ?_) ⟨rfl, P, .refl h, rfl⟩
  obtain ⟨rfl, hs⟩ := hs
  refine issubclass_outer ?_
  have hT : s'.TypeIs (.ref a) "tuple" := ⟨_, ho, rfl⟩
  have hsub := sub_tup_tup
  show wpAny _ _ (typeOf (.ref a) >>= _) _ _ s'
  refine wpAny_bind (wpAny_typeOf hT ?_)
  rw [if_neg (by decide)]
  refine wpAny_bind ?_
  unfold Builtin.Builtins.unionMembers
  refine wpAny_bind (wpAny_typeOf hT ?_)
  rw [if_neg (by decide)]
  refine wpAny_pure ?_
  refine wpAny_bind (wpAny_isInstance hT hsub ?_)
  rw [if_pos rfl]
  rw [if_neg (by decide)]
  refine wpAny_bind (wpAny_seqItems ho rfl ?_)
  refine wpAny_bind ?_
  rw [show ((some #[Value.type "str", Value.type "bytes"]).getD #[] : Array Value) = [Value.type "str", Value.type "bytes"].toArray from rfl, List.forIn_toArray, List.forIn_cons]
  refine wpAny_bind (wpAny_bind (issub_call_str (wpAny_bind (wpAny_truthy_bool ?_))))
  rw [if_pos rfl]
  exact wpAny_bind (wpAny_pure (wpAny_pure (wpAny_pure (wpAny_pure hs))))

theorem op_type_str {x : Str} {t : Tok} (h : Sub P s) : Op prog w A s P (call (.type "type") [.str x t] []) Ty.raw (.type "str") :=
  call_type_of (x := .str x t) (Tx := "str") rfl (by decide) ⟨P, .refl h, rfl⟩
theorem op_isi_bytes {x : Str} {t : Tok} (h : Sub P s) : Op prog w A s P (call (.builtin "isinstance") [.str x t, .type "bytes"] []) Ty.bool false :=
  IsiPair.str_bytes ⟨P, .toks h, rfl⟩
end
end VS

end PartV6

noncomputable section PartV7
namespace VS
open PySem PySem.Calls PySem.W PyProof.Rows

section
variable {cs : Str → Prop} {prog : Program} {w : World} {A : Around} {s₀ s : Shared} {P₀ P : PM} {env : Env} {ρ : List (Str × Bd)} {O : List (Addr × Ob)} {E : Value → Shared → Prop} {α β : Type} {τ : Ty α} {x : α} {σ : Ty β} {y : β}

theorem St.wd {K : Frag} {p : Program} {lo : List Str} {mg mb : Str → Option Value} (S : St cs s₀ P₀ env ρ O s P) (W : Wd K p lo mg mb s₀.heap) : Wd K p lo mg mb s.heap := W.keeps S.ext.keep
def Ty.tupV : Ty (List Value) := ⟨fun P v vs => SeqAt P v "tuple" vs, fun h r => r.mono h⟩
theorem LC.mono {R : PM → List Value → Prop} (hR : ∀ P1 P2 vs, PM.le P1 P2 → R P1 vs → R P2 vs) : ∀ P1 P2 vs, PM.le P1 P2 → LC τ x R P1 vs → LC τ x R P2 vs := fun _ _ _ h ⟨v, r, e, a, b⟩ => ⟨v, r, e, τ.mono h a, hR _ _ _ h b⟩
theorem L0.mono : ∀ P1 P2 vs, PM.le P1 P2 → L0 P1 vs → L0 P2 vs := fun _ _ _ _ h => h
theorem Ev.tup2 {e1 e2 : Expr} {k : Nat} {pos : Pos} (h1 : Ev prog w A s P (eval e1 env) τ x) (h2 : Ev prog w A s P (eval e2 env) σ y)
    (he1 : starEach [e1, e2] env = (false, eval e1 env) :: starEach [e2] env := by rfl) (he2 : starEach [e2] env = (false, eval e2 env) :: starEach [] env := by rfl) : Ev prog w A s P (eval (.Tuple [e1, e2] k pos) env) (Ty.pair τ σ) (x, y) :=
  Ev.tup (EvL.cons h1 (EvL.cons h2 EvL.nil he2) he1) (fun P1 v vs ⟨a, r, e1, ra, b, r', e2, rb, e3⟩ q => by subst e1; subst e2; cases e3; exact ⟨a, b, q, ra, rb⟩) (LC.mono (LC.mono L0.mono))
    fun P1 vs ⟨a, r, e1, ra, b, r', e2, rb, e3⟩ => by subst e1; subst e2; cases e3; exact Nat.le_of_ble_eq_true rfl
theorem Ev.tupV2 {e1 e2 : Expr} {k : Nat} {pos : Pos} {a b : Value} (h1 : Ev prog w A s P (eval e1 env) Ty.raw a) (h2 : Ev prog w A s P (eval e2 env) Ty.raw b)
    (he1 : starEach [e1, e2] env = (false, eval e1 env) :: starEach [e2] env := by rfl) (he2 : starEach [e2] env = (false, eval e2 env) :: starEach [] env := by rfl) : Ev prog w A s P (eval (.Tuple [e1, e2] k pos) env) Ty.tupV [a, b] :=
  Ev.tup (EvL.cons h1 (EvL.cons h2 EvL.nil he2) he1) (fun P1 v vs ⟨a, r, e1, ra, b, r', e2, rb, e3⟩ q => by subst e1; subst e2; cases e3; cases ra; cases rb; exact q) (LC.mono (LC.mono L0.mono))
    fun P1 vs ⟨a, r, e1, ra, b, r', e2, rb, e3⟩ => by subst e1; subst e2; cases e3; exact Nat.le_of_ble_eq_true rfl

theorem St.ret {e : Expr} {pos : Pos} {rest : List Stmt} {Q : Flow → Shared → Prop} (S : St cs s₀ P₀ env ρ O s P) (h : Ev prog w A s P (eval e env) τ x)
    (hQ : ∀ s' v, Back s₀ P₀ τ x (.ret v) s' → Q (.ret v) s' := by exact fun _ _ h => h) :
    wpAny (model prog w) A (execs (.Return (some e) pos :: rest) env) Q E s :=
  wpAny_execs_cons (wpAny_Return_some (h.use S.sub fun v s' P' e' r => hQ s' v ⟨P', S.ext.trans e', r⟩))
theorem St.retE {e : Expr} {pos : Pos} {Q : Flow → Shared → Prop} (S : St cs s₀ P₀ env ρ O s P) (h : Ev prog w A s P (eval e env) τ x) (k : ∀ v s' P', PM.le P P' → St cs s₀ P₀ env ρ O s' P' → τ.rel P' v x → Q (.ret v) s') :
    wpAny (model prog w) A (exec (.Return (some e) pos) env) Q E s :=
  wpAny_Return_some (h.use S.sub fun v s' P' e' r => k v s' P' e'.le (S.go e') r)

theorem St.assign {n : Str} {pos' pos : Pos} {value : Expr} {Q : Flow → Shared → Prop} (S : St cs s₀ P₀ env ρ O s P) (h : Ev prog w A s P (eval value env) τ x)
    (hk : env.kindOf n = some .local ∨ (env.kindOf n = some .cell ∧ cs n ∧ ∃ c, env.cells.lookup n = some c))
    (k : ∀ s' P', PM.le P P' → St cs s₀ P₀ env ((n, τ.at x) :: ρ) O s' P' → Q .next s')
    (hs : swapsWith value (some (.Name n pos')) pos.line env = pure false := by rfl) : wpAny (model prog w) A (exec (.Assign [.Name n pos'] value pos) env) Q E s :=
  wpAny_Assign_Name (h.use S.sub fun v s' P' e' r => (S.go e').store (b := τ.at x) r hk fun s'' S'' => k s'' P' e'.le S'') hs
theorem St.assigns {n : Str} {pos' pos : Pos} {value : Expr} {rest : List Stmt} {Q : Flow → Shared → Prop} (S : St cs s₀ P₀ env ρ O s P) (h : Ev prog w A s P (eval value env) τ x)
    (hk : env.kindOf n = some .local ∨ (env.kindOf n = some .cell ∧ cs n ∧ ∃ c, env.cells.lookup n = some c))
    (k : ∀ s' P', PM.le P P' → St cs s₀ P₀ env ((n, τ.at x) :: ρ) O s' P' → wpAny (model prog w) A (execs rest env) Q E s')
    (hs : swapsWith value (some (.Name n pos')) pos.line env = pure false := by rfl) : wpAny (model prog w) A (execs (.Assign [.Name n pos'] value pos :: rest) env) Q E s :=
  wpAny_execs_cons (S.assign h hk k hs)
theorem St.ifs {test : Expr} {body orelse : List Stmt} {pos : Pos} {rest : List Stmt} {Q : Flow → Shared → Prop} {b : Bool} (S : St cs s₀ P₀ env ρ O s P) (h : EvB prog w A s P (isTrue test env (eval test env)) b)
    (k1 : b = true → ∀ s' P', PM.le P P' → St cs s₀ P₀ env ρ O s' P' → wpAny (model prog w) A (execs body env) (fun f s'' => match f with | .next => wpAny (model prog w) A (execs rest env) Q E s'' | f => Q f s'') E s')
    (k2 : b = false → ∀ s' P', PM.le P P' → St cs s₀ P₀ env ρ O s' P' → wpAny (model prog w) A (execs orelse env) (fun f s'' => match f with | .next => wpAny (model prog w) A (execs rest env) Q E s'' | f => Q f s'') E s') :
    wpAny (model prog w) A (execs (.If test body orelse pos :: rest) env) Q E s :=
  wpAny_execs_cons (wpAny_If (h.use S.sub fun s' P' e' => by
    cases b with
    | true => exact k1 rfl s' P' e'.le (S.go e')
    | false => exact k2 rfl s' P' e'.le (S.go e')))
theorem St.ifT {test : Expr} {body orelse : List Stmt} {pos : Pos} {rest : List Stmt} {Q : Flow → Shared → Prop} (S : St cs s₀ P₀ env ρ O s P) (h : EvB prog w A s P (isTrue test env (eval test env)) true)
    (k : ∀ s' P', PM.le P P' → St cs s₀ P₀ env ρ O s' P' → wpAny (model prog w) A (execs body env) (fun f s'' => match f with | .next => wpAny (model prog w) A (execs rest env) Q E s'' | f => Q f s'') E s') :
    wpAny (model prog w) A (execs (.If test body orelse pos :: rest) env) Q E s := S.ifs h (fun _ => k) (fun q => by cases q)
theorem St.ifF {test : Expr} {body orelse : List Stmt} {pos : Pos} {rest : List Stmt} {Q : Flow → Shared → Prop} (S : St cs s₀ P₀ env ρ O s P) (h : EvB prog w A s P (isTrue test env (eval test env)) false)
    (k : ∀ s' P', PM.le P P' → St cs s₀ P₀ env ρ O s' P' → wpAny (model prog w) A (execs orelse env) (fun f s'' => match f with | .next => wpAny (model prog w) A (execs rest env) Q E s'' | f => Q f s'') E s') :
    wpAny (model prog w) A (execs (.If test body orelse pos :: rest) env) Q E s := S.ifs h (fun q => by cases q) (fun _ => k)
theorem execs_nil' {Q : Flow → Shared → Prop} (h : Q .next s) : wpAny (model prog w) A (execs [] env) Q E s := wpAny_execs_nil h
theorem St.augAssign {n : Str} {pos' pos : Pos} {op : Operator} {value : Expr} {γ : Type} {υ : Ty γ} {z : γ} {k : NameKind} {Q : Flow → Shared → Prop} (S : St cs s₀ P₀ env ρ O s P) (hb : ρ.lookup n = some (τ.at x)) (hkn : env.kindOf n = some k)
    (h : Ev prog w A s P (eval value env) σ y) (ho : ∀ s1 P1 a b, Ext s P s1 P1 → τ.rel P1 a x → σ.rel P1 b y → Op prog w A s1 P1 (inplaceOp op a b) υ z)
    (hk : env.kindOf n = some .local ∨ (env.kindOf n = some .cell ∧ cs n ∧ ∃ c, env.cells.lookup n = some c))
    (kq : ∀ s' P', PM.le P P' → St cs s₀ P₀ env ((n, υ.at z) :: ρ) O s' P' → Q .next s')
    (hk' : k = .local ∨ k = .cell ∨ k = .free := by decide) (hn : (n == ("__classdict__" : Str)) = false := by decide) : wpAny (model prog w) A (exec (.AugAssign (.Name n pos') op value pos) env) Q E s := by
  obtain ⟨v, hv, r⟩ := S.fs.var hb hkn hk'
  refine wpAny_AugAssign_Name (hv.load (h.use S.sub fun u s1 P1 e1 ru => (ho s1 P1 v u e1 (τ.mono e1.le r) ru).use fun v2 s2 P2 e2 r2 => ?_) hn)
  exact (S.go (e1.trans e2)).store (b := υ.at z) r2 hk fun s'' S'' => kq s'' P2 (e1.trans e2).le S''
end
end VS

end PartV7

noncomputable section PartV8
namespace VS
open PySem PySem.Calls PySem.W PyProof.Rows

section
variable {prog : Program} {w : World} {A : Around} {s : Shared} {P : PM} {E : Value → Shared → Prop} {env : Env} {α β : Type} {τ : Ty α} {σ : Ty β}

theorem size_ok {n : Nat} (h : n ≤ 16777216) : n ≤ sizeLine := h

/-! texts -/
theorem op_add_str {x y : Str} {t u : Tok} (h : Sub P s) (hsz : x.length + y.length ≤ sizeLine) : Op prog w A s P (binaryOp .Add (.str x t) (.str y u)) Ty.str (x ++ y) :=
  SB.add (fun t' k => ⟨P, .toks h, t', rfl⟩) hsz
theorem op_iadd_str {x y : Str} {t u : Tok} (h : Sub P s) (hsz : x.length + y.length ≤ sizeLine) : Op prog w A s P (inplaceOp .Add (.str x t) (.str y u)) Ty.str (x ++ y) :=
  SB.iadd (fun t' k => ⟨P, .toks h, t', rfl⟩) hsz
theorem op_mul_str {x : Str} {n : Int} {t u : Tok} (h : Sub P s) (hok : MulOk x n) : Op prog w A s P (binaryOp .Mult (.str x t) (.int n u)) Ty.str (Txt.mul x n) :=
  SB.mul hok (fun t' k => ⟨P, .toks h, t', rfl⟩)
theorem beq_toList (x y : Str) : (x.cps.toList == y.cps.toList) = decide (x = y) := by
  obtain ⟨⟨a⟩⟩ := x; obtain ⟨⟨b⟩⟩ := y
  by_cases h : a = b
  · subst h; simp
  · simp [h]
theorem op_eq_str {x y : Str} {t u : Tok} (h : Sub P s) : Op prog w A s P (compareOp .Eq (.str x t) (.str y u)) Ty.bool (decide (x = y)) :=
  PySem.P.eq_str ⟨P, .refl h, by rw [beq_toList]; rfl⟩
theorem op_ne_str {x y : Str} {t u : Tok} (h : Sub P s) : Op prog w A s P (compareOp .NotEq (.str x t) (.str y u)) Ty.bool (!decide (x = y)) :=
  PySem.P.ne_str ⟨P, .refl h, by show Value.bool (!(x.cps.toList == y.cps.toList)) = _; rw [beq_toList]⟩
theorem op_len_str {x : Str} {t : Tok} (h : Sub P s) (hfit : x.length ≤ sizeLine) : Op prog w A s P (call (.builtin "len") [.str x t] []) Ty.int x.length :=
  PySem.P.len_str (by have : sizeLine = 16777216 := rfl; omega) ⟨P, .toks h, _, rfl⟩
theorem truth_str {x : Str} {t : Tok} (h : Sub P s) (hfit : x.length ≤ sizeLine) : Truth prog w A s P (.str x t) (x.length != 0) :=
  PySem.P.truthy_str (by have : sizeLine = 16777216 := rfl; omega) ⟨by cases x.length <;> rfl, P, .toks h⟩

/-! slices -/
def partIs (v : Value) : Option Int → Prop
  | none => v = .none
  | some i => ∃ t, v = .int i t
theorem partIs.part {v : Value} {o : Option Int} (h : partIs v o) : IsPart v o := by
  cases o with
  | none => cases h; exact .none
  | some i => obtain ⟨t, rfl⟩ := h; exact .int i t
def Ty.slc : Ty (Option Int × Option Int) := ⟨fun P v x => ∃ a o vl vu, v = .ref a ∧ P a = some o ∧ o.cls = .type "slice" ∧ o.data = .fields #[vl, vu, .none] ∧ partIs vl x.1 ∧ partIs vu x.2, fun h ⟨a, o, vl, vu, e, p, r⟩ => ⟨a, o, vl, vu, e, h _ _ p, r⟩⟩
def EvP (prog : Program) (w : World) (A : Around) (s : Shared) (P : PM) (env : Env) (e : Option Expr) (o : Option Int) : Prop :=
  ∀ s1 P1, Ext s P s1 P1 → wpAny (model prog w) A (evalPart e env) (fun v s2 => ∃ P2, Ext s1 P1 s2 P2 ∧ partIs v o) (fun _ _ => False) s1
theorem EvP.none : EvP prog w A s P env none none := fun s1 P1 e => wpAny_pure ⟨P1, .refl e.sub, rfl⟩
theorem EvP.some {e : Expr} {i : Int} (h : Ev prog w A s P (eval e env) Ty.int i) : EvP prog w A s P env (some e) (some i) := h
theorem Ev.slice {lower upper : Option Expr} {pos : Pos} {l u : Option Int} (h1 : EvP prog w A s P env lower l) (h2 : EvP prog w A s P env upper u) :
    Ev prog w A s P (eval (.Slice lower upper none pos) env) Ty.slc (l, u) := fun s1 P1 e =>
  wpAny_Slice (wpAny_mono (h1 s1 P1 e) (fun vl s2 ⟨P2, e2, r2⟩ => wpAny_mono (h2 s2 P2 (e.trans e2)) (fun vu s3 ⟨P3, e3, r3⟩ => by
    rw [evalPart_none]
    exact wpAny_pure ⟨_, (e2.trans e3).trans (.push e3.sub), _, _, vl, vu, rfl, PM.put_self, rfl, rfl, r2, r3⟩) fun _ _ f => f) fun _ _ f => f)

theorem get_slice_str {x : Str} {t : Tok} {a : Addr} {o : Obj} {l u : Option (Int × Tok)} (h : Sub P s) (ho : s.heap.get? a = some o) (hc : o.cls = .type "slice") (hd : o.data = .fields #[partValue l, partValue u, .none]) (hsz : x.length ≤ sizeLine) :
    Op prog w A s P (getItem (.str x t) (.ref a)) Ty.str (Txt.slice x (l.map (·.1)) (u.map (·.1))) :=
  wpAny_getItem_str_slice (l := l) (u := u) (st := none) ⟨o, ho, hc, hd⟩ rfl (post_val_or_str ⟨Nat.le_trans (Txt.slice_le x _ _) hsz, fun t' k => ⟨P, .toks h, t', rfl⟩⟩)
theorem partIs.val {v : Value} {o : Option Int} (h : partIs v o) : ∃ o', v = partValue o' ∧ o'.map (·.1) = o := by
  cases o with
  | none => exact ⟨none, h, rfl⟩
  | some i => obtain ⟨t, rfl⟩ := h; exact ⟨some (i, t), rfl, rfl⟩
theorem sub_slice {o i : Value} {p : Pos} {L U : Option Expr} : subscripted (.Slice L U none p) false o i = operate [i, o] (getItem o i) := by with_unfolding_all rfl
theorem op_slice_str {value : Expr} {x : Str} {t : Tok} {v : Value} {l u : Option Int} {p : Pos} {L U : Option Expr} (h : Sub P s) (r : Ty.slc.rel P v (l, u)) (hsz : x.length ≤ sizeLine) :
    Op prog w A s P (subscriptTail value (.Slice L U none p) (.str x t) v) Ty.str (Txt.slice x l u) := by
  obtain ⟨a, o, vl, vu, rfl, hp, hc, hd, h1, h2⟩ := r
  obtain ⟨l', rfl, rfl⟩ := partIs.val h1
  obtain ⟨u', rfl, rfl⟩ := partIs.val h2
  exact tail_any (T := "str") (typeIs_str _ _ _) F.slot_str_getitem.lookup (get_slice_str h (h _ _ hp) hc hd hsz) sub_slice

/-! lists -/
theorem op_len_list {v : Value} {xs : List α} (h : Sub P s) (r : (Ty.list τ).rel P v xs) (hsz : xs.length ≤ sizeLine) : Op prog w A s P (call (.builtin "len") [v] []) Ty.int xs.length := by
  obtain ⟨vs, q, pr⟩ := r
  have hl := pr.length
  obtain ⟨a, n, rfl, hp⟩ := id q
  refine call_len_list (q.isList h) (by have : sizeLine = 16777216 := rfl; simp only [List.size_toArray]; omega) ⟨P, .toks h, s.toks + 1, ?_⟩
  rw [List.size_toArray, hl]
theorem pGet {α β : Type} {F : α → β → Prop} : ∀ {l : List α} {k : List β}, Paired F l k → ∀ {i : Nat} {b : β}, k[i]? = some b → ∃ a, l[i]? = some a ∧ F a b
  | _, _, .cons h r, 0, b, e => by simp at e; subst e; exact ⟨_, rfl, h⟩
  | _, _, .cons h r, i + 1, b, e => by simp at e; obtain ⟨a, ha, hf⟩ := pGet r e; exact ⟨a, by simpa using ha, hf⟩
theorem pGet' {α β : Type} {F : α → β → Prop} : ∀ {l : List α} {k : List β}, Paired F l k → ∀ {i : Nat} {a : α}, l[i]? = some a → ∃ b, k[i]? = some b ∧ F a b
  | _, _, .cons h r, 0, b, e => by simp at e; subst e; exact ⟨_, rfl, h⟩
  | _, _, .cons h r, i + 1, b, e => by simp at e; obtain ⟨a, ha, hf⟩ := pGet' r e; exact ⟨a, by simpa using ha, hf⟩
theorem pTake {α β : Type} {F : α → β → Prop} : ∀ {l : List α} {k : List β}, Paired F l k → ∀ n, Paired F (l.take n) (k.take n)
  | _, _, _, 0 => .nil
  | _, _, .nil, _ + 1 => .nil
  | _, _, .cons h r, n + 1 => .cons h (pTake r n)
theorem pDrop {α β : Type} {F : α → β → Prop} : ∀ {l : List α} {k : List β}, Paired F l k → ∀ n, Paired F (l.drop n) (k.drop n)
  | _, _, h, 0 => h
  | _, _, .nil, _ + 1 => .nil
  | _, _, .cons h r, n + 1 => pDrop r n
theorem pApp {α β : Type} {F : α → β → Prop} : ∀ {l : List α} {k : List β} {l' : List α} {k' : List β}, Paired F l k → Paired F l' k' → Paired F (l ++ l') (k ++ k')
  | _, _, _, _, .nil, h => h
  | _, _, _, _, .cons h r, h' => .cons h (pApp r h')
theorem op_item {value slice : Expr} {v : Value} {xs : List α} {k : Int} {t : Tok} {x : α} (h : Sub P s) (r : (Ty.list τ).rel P v xs) (h0 : 0 ≤ k) (hk : xs[k.toNat]? = some x) (hsz : xs.length ≤ sizeLine)
    (hs : subscripted slice false v (.int k t) = operate [v, .int k t] (getItem v (.int k t)) := by with_unfolding_all rfl) : Op prog w A s P (subscriptTail value slice v (.int k t)) τ x := by
  obtain ⟨vs, q, pr⟩ := r
  have hl := pr.length
  obtain ⟨y, hy, ry⟩ := pGet pr hk
  obtain ⟨a, n, rfl, hp⟩ := id q
  have L := q.isList h
  have hlt : k.toNat < xs.length := (List.getElem?_eq_some_iff.mp hk).1
  exact tail_any L.typeIs slot_list_getitem.lookup (wpAny_getItem_list L h0 (by have : sizeLine = 16777216 := rfl; omega) (by simpa using hy) ⟨P, .refl h, ry⟩) hs
theorem op_itemT {value slice : Expr} {v : Value} {vs : List Value} {k : Int} {t : Tok} {y : Value} {j : Nat} (h : Sub P s) (q : SeqAt P v "tuple" vs) (hlo : -(2 ^ 63) ≤ k) (hhi : k < 2 ^ 63) (hj : seqIndex? k vs.length = some j) (hy : vs[j]? = some y) {x : α} (ry : τ.rel P y x)
    (hs : subscripted slice false v (.int k t) = operate [v, .int k t] (getItem v (.int k t)) := by with_unfolding_all rfl) : Op prog w A s P (subscriptTail value slice v (.int k t)) τ x := by
  obtain ⟨a, n, rfl, hp⟩ := id q
  exact item_tupleT (q.isTup h) hlo hhi hj hy ⟨P, .refl h, ry⟩ hs
theorem get_slice_list {v : Value} {a : Addr} {o : Obj} {xs : List α} {ys : List α} {vl vu : Value} {l u : Option Int} {b : Addr} {vs : List Value} (h : Sub P s) (q : s.heap.IsList b vs.toArray) (hn : vs.length ≤ sizeLine) (ho : s.heap.get? a = some o) (hc : o.cls = .type "slice") (hd : o.data = .fields #[vl, vu, .none])
    (h1 : partIs vl l) (h2 : partIs vu u) (hy : Paired (τ.rel P) (slicePick vs.toArray l u none).toList ys) : Op prog w A s P (getItem (.ref b) (.ref a)) (Ty.list τ) ys := by
  refine wpAny_getItem_list_slice q ⟨o, ho, hc, hd⟩ h1.part h2.part .none (by simp) ⟨_, .push (tk := s.toks) h, (slicePick vs.toArray l u none).toList, ⟨_, 0, rfl, ?_⟩, ?_⟩ (by rw [List.size_toArray]; exact hn)
  · rw [PM.put_self]
  · exact pImp (fun _ _ => τ.mono (Ext.push (tk := s.toks) h).le) hy
theorem op_take {value : Expr} {v b : Value} {xs : List α} {n : Nat} {p : Pos} {L U : Option Expr} (h : Sub P s) (r : (Ty.list τ).rel P v xs) (rs : Ty.slc.rel P b (none, some (n : Int))) (hsz : xs.length ≤ sizeLine) :
    Op prog w A s P (subscriptTail value (.Slice L U none p) v b) (Ty.list τ) (xs.take n) := by
  obtain ⟨vs, q, pr⟩ := r
  obtain ⟨c, o, vl, vu, rfl, hp, hc, hd, h1, h2⟩ := rs
  obtain ⟨a, m, rfl, hq⟩ := id q
  have I := q.isList h
  refine tail_any I.typeIs slot_list_getitem.lookup (get_slice_list (xs := xs) (v := .none) h I (by rw [pr.length]; exact hsz) (h _ _ hp) hc hd h1 h2 ?_) sub_slice
  rw [slicePick_upto']
  simpa using pTake pr n
theorem op_drop {value : Expr} {v b : Value} {xs : List α} {n : Nat} {p : Pos} {L U : Option Expr} (h : Sub P s) (r : (Ty.list τ).rel P v xs) (rs : Ty.slc.rel P b (some (n : Int), none)) (hsz : xs.length ≤ sizeLine) :
    Op prog w A s P (subscriptTail value (.Slice L U none p) v b) (Ty.list τ) (xs.drop n) := by
  obtain ⟨vs, q, pr⟩ := r
  obtain ⟨c, o, vl, vu, rfl, hp, hc, hd, h1, h2⟩ := rs
  obtain ⟨a, m, rfl, hq⟩ := id q
  have I := q.isList h
  refine tail_any I.typeIs slot_list_getitem.lookup (get_slice_list (xs := xs) (v := .none) h I (by rw [pr.length]; exact hsz) (h _ _ hp) hc hd h1 h2 ?_) sub_slice
  rw [slicePick_from']
  simpa using pDrop pr n
theorem op_add_list {v u : Value} {xs ys : List α} (h : Sub P s) (r : (Ty.list τ).rel P v xs) (r2 : (Ty.list τ).rel P u ys) (hsz : xs.length + ys.length ≤ sizeLine) : Op prog w A s P (binaryOp .Add v u) (Ty.list τ) (xs ++ ys) := by
  obtain ⟨vs, ⟨a, n, rfl, hp⟩, pr⟩ := r
  obtain ⟨us, ⟨b, m, rfl, hq⟩, ps⟩ := r2
  refine PySem.P.add_list (h _ _ hp) (h _ _ hq) ⟨_, .push (tk := s.toks) h, vs ++ us, ⟨_, 0, rfl, ?_⟩, ?_⟩ (by simp only [List.size_toArray]; rw [pr.length, ps.length]; exact hsz)
  · rw [PM.put_self]; simp
  · exact pImp (fun _ _ => τ.mono (Ext.push (tk := s.toks) h).le) (pApp pr ps)

theorem dec_beq (x y : Str) : (x == y) = decide (x = y) := by
  by_cases e : x = y
  · subst e; simp
  · simp [e]
theorem eqAt_str {A : Around} {s : Shared} {x y : Str} {t u : Tok} : PySem.SeqAt.EqAt A s (.str x t) (.str y u) (decide (x = y)) := fun prog w E Q hQ =>
  eqBool_str (by rw [dec_beq]; exact hQ)
theorem eqAt_int {A : Around} {s : Shared} {x y : Int} {t u : Tok} : PySem.SeqAt.EqAt A s (.int x t) (.int y u) (decide (x = y)) := by
  have := (PySem.MeetsSeq.EqGives.int x y t u).at A s
  rwa [show (x == y) = decide (x = y) from by by_cases e : x = y <;> simp [e]] at this
/-- is it in the list? -/
theorem any_paired {F : Value → α → Prop} {e : Value → Bool} {g : α → Bool} : ∀ {vs : List Value} {xs : List α}, Paired F vs xs → (∀ v x, F v x → e v = g x) → vs.any e = xs.any g
  | _, _, .nil, _ => rfl
  | _, _, .cons h r, k => by rw [List.any_cons, List.any_cons, k _ _ h, any_paired r k]
def strIs (x : Str) : Value → Bool
  | .str y _ => decide (y = x)
  | _ => false
def intIs (x : Int) : Value → Bool
  | .int y _ => decide (y = x)
  | _ => false
theorem op_in_strs {v : Value} {x : Str} {t : Tok} {xs : List Str} (h : Sub P s) (r : (Ty.list Ty.str).rel P v xs) : Op prog w A s P (compareOp .In (.str x t) v) Ty.bool (xs.contains x) := by
  obtain ⟨vs, q, pr⟩ := r
  obtain ⟨a, n, rfl, hp⟩ := id q
  refine PySem.SeqAt.in_listAt (strIs x) (q.isList h) (fun y hy => ?_) ⟨P, .refl h, ?_⟩
  · obtain ⟨i, hi⟩ := List.getElem?_of_mem (show y ∈ vs by simpa using hy)
    obtain ⟨z, _, t', rfl⟩ := pGet' pr hi
    exact eqAt_str
  · show Value.bool _ = Value.bool _
    rw [List.any_toArray, any_paired (g := fun z => decide (z = x)) pr fun v z ⟨t, e⟩ => by rw [e]; rfl, List.contains_eq_any_beq]
    congr 2; funext z; rw [dec_beq]; congr 1; exact propext ⟨Eq.symm, Eq.symm⟩
theorem op_notin_strs {v : Value} {x : Str} {t : Tok} {xs : List Str} (h : Sub P s) (r : (Ty.list Ty.str).rel P v xs) : Op prog w A s P (compareOp .NotIn (.str x t) v) Ty.bool (!xs.contains x) := by
  obtain ⟨vs, q, pr⟩ := r
  obtain ⟨a, n, rfl, hp⟩ := id q
  refine PySem.SeqAt.notIn_listAt (strIs x) (q.isList h) (fun y hy => ?_) ⟨P, .refl h, ?_⟩
  · obtain ⟨i, hi⟩ := List.getElem?_of_mem (show y ∈ vs by simpa using hy)
    obtain ⟨z, _, t', rfl⟩ := pGet' pr hi
    exact eqAt_str
  · show Value.bool (!_) = Value.bool (!_)
    rw [List.any_toArray, any_paired (g := fun z => decide (z = x)) pr fun v z ⟨t, e⟩ => by rw [e]; rfl, List.contains_eq_any_beq]
    congr 3; funext z; rw [dec_beq]; congr 1; exact propext ⟨Eq.symm, Eq.symm⟩
theorem op_in_ints {v : Value} {x : Int} {t : Tok} {xs : List Int} (h : Sub P s) (r : (Ty.list Ty.int).rel P v xs) : Op prog w A s P (compareOp .In (.int x t) v) Ty.bool (xs.contains x) := by
  obtain ⟨vs, q, pr⟩ := r
  obtain ⟨a, n, rfl, hp⟩ := id q
  refine PySem.SeqAt.in_listAt (intIs x) (q.isList h) (fun y hy => ?_) ⟨P, .refl h, ?_⟩
  · obtain ⟨i, hi⟩ := List.getElem?_of_mem (show y ∈ vs by simpa using hy)
    obtain ⟨z, _, t', rfl⟩ := pGet' pr hi
    exact eqAt_int
  · show Value.bool _ = Value.bool _
    rw [List.any_toArray, any_paired (g := fun z => decide (z = x)) pr fun v z ⟨t, e⟩ => by rw [e]; rfl, List.contains_eq_any_beq]
    congr 2; funext z; by_cases e : z = x
    · subst e; simp
    · have : ¬ x = z := fun q => e q.symm
      simp [e, this]
/-- == [] and != [] -/
theorem op_eq_nil {v u : Value} {xs : List α} (h : Sub P s) (r : (Ty.list τ).rel P v xs) (r2 : SeqAt P u "list" []) (hu : A.units < cLine) : Op prog w A s P (compareOp .Eq v u) Ty.bool xs.isEmpty := by
  obtain ⟨vs, q, pr⟩ := r
  obtain ⟨a, n, rfl, hp⟩ := id q
  obtain ⟨b, m, rfl, hq⟩ := id r2
  cases pr with
  | nil => exact PySem.SeqAt.eq_listAt (e := fun _ => true) (q.isList h) (r2.isList h) rfl hu (fun j h1 => absurd h1 (Nat.not_lt_zero _)) ⟨P, .refl h, rfl⟩
  | cons _ _ => exact PySem.SeqAt.eq_list_lengthsAt (q.isList h) (r2.isList h) (by simp) hu ⟨P, .refl h, rfl⟩
end
end VS

end PartV8

noncomputable section PartV9
namespace VS
open PySem PySem.Calls PySem.W PyProof.Rows

section
variable {prog : Program} {w : World} {A : Around} {s : Shared} {P : PM} {E : Value → Shared → Prop} {env : Env} {α β : Type} {τ : Ty α} {σ : Ty β} {l r : Expr} {pos : Pos} {whole : Sem Value}

theorem op_ne_nil {v u : Value} {xs : List α} (h : Sub P s) (r : (Ty.list τ).rel P v xs) (r2 : SeqAt P u "list" []) (hu : A.units < cLine) : Op prog w A s P (compareOp .NotEq v u) Ty.bool (!xs.isEmpty) := by
  obtain ⟨vs, q, pr⟩ := r
  obtain ⟨a, n, rfl, hp⟩ := id q
  obtain ⟨b, m, rfl, hq⟩ := id r2
  cases pr with
  | nil => exact PySem.SeqAt.RcNeAt.lists (e := fun _ => true) (q.isList h) (r2.isList h) rfl hu (fun j h1 => absurd h1 (Nat.not_lt_zero _)) _ _ _ _ ⟨P, .refl h, rfl⟩
  | cons _ _ => exact PySem.SeqAt.RcNeAt.lists_lengths (q.isList h) (r2.isList h) (by simp) hu _ _ _ _ ⟨P, .refl h, rfl⟩
def Ty.nilL : Ty Unit := ⟨fun P v _ => SeqAt P v "list" [], fun h r => r.mono h⟩
theorem Ev.nilL {p : Pos} : Ev prog w A s P (eval (.List [] p) env) Ty.nilL () :=
  Ev.lst EvL.nil (fun P1 v vs e q => by cases e; exact q) L0.mono (fun P1 vs e => by cases e; exact Nat.zero_le _)
theorem Ev.nilAs {p : Pos} : Ev prog w A s P (eval (.List [] p) env) (Ty.list τ) [] :=
  Ev.lst EvL.nil (fun P1 v vs e q => by cases e; exact ⟨_, q, .nil⟩) L0.mono (fun P1 vs e => by cases e; exact Nat.zero_le _)
theorem Ev.eqNil {p : Pos} {xs : List α} (h : Ev prog w A s P (eval l env) (Ty.list τ) xs) (hu : A.units < cLine) : Ev prog w A s P (eval (.Compare l [.Eq] [.List [] p] pos) env) Ty.bool xs.isEmpty :=
  Ev.cmp h Ev.nilL fun s1 P1 a b e ra rb => op_eq_nil e.sub ra rb hu
theorem EvB.eqNil {p : Pos} {xs : List α} (h : Ev prog w A s P (eval l env) (Ty.list τ) xs) (hu : A.units < cLine) : EvB prog w A s P (isTrue (.Compare l [.Eq] [.List [] p] pos) env whole) xs.isEmpty :=
  EvB.cmp h Ev.nilL fun s1 P1 a b e ra rb => op_eq_nil e.sub ra rb hu
theorem EvB.neNil {p : Pos} {xs : List α} (h : Ev prog w A s P (eval l env) (Ty.list τ) xs) (hu : A.units < cLine) : EvB prog w A s P (isTrue (.Compare l [.NotEq] [.List [] p] pos) env whole) (!xs.isEmpty) :=
  EvB.cmp h Ev.nilL fun s1 P1 a b e ra rb => op_ne_nil e.sub ra rb hu

/-! ints -/
theorem Ev.addI {x y : Int} (h1 : Ev prog w A s P (eval l env) Ty.int x) (h2 : Ev prog w A s P (eval r env) Ty.int y) : Ev prog w A s P (eval (.BinOp l .Add r pos) env) Ty.int (x + y) :=
  Ev.binOp h1 h2 fun s1 P1 a b e ⟨t, ra⟩ ⟨u, rb⟩ => by subst ra; subst rb; exact wpAny_add_int ⟨P1, .toks e.sub, _, rfl⟩
theorem Ev.subI {x y : Int} (h1 : Ev prog w A s P (eval l env) Ty.int x) (h2 : Ev prog w A s P (eval r env) Ty.int y) : Ev prog w A s P (eval (.BinOp l .Sub r pos) env) Ty.int (x - y) :=
  Ev.binOp h1 h2 fun s1 P1 a b e ⟨t, ra⟩ ⟨u, rb⟩ => by subst ra; subst rb; exact PyProof.Rows.sub_int ⟨P1, .toks e.sub, _, rfl⟩
theorem Ev.modI {x y : Int} (h1 : Ev prog w A s P (eval l env) Ty.int x) (h2 : Ev prog w A s P (eval r env) Ty.int y) (h0 : y ≠ 0) : Ev prog w A s P (eval (.BinOp l .Mod r pos) env) Ty.int (x.fmod y) :=
  Ev.binOp h1 h2 fun s1 P1 a b e ⟨t, ra⟩ ⟨u, rb⟩ => by subst ra; subst rb; exact PyProof.Rows.mod_int' h0 ⟨P1, .toks e.sub, _, rfl⟩
theorem Ev.divI {x y : Int} (h1 : Ev prog w A s P (eval l env) Ty.int x) (h2 : Ev prog w A s P (eval r env) Ty.int y) (h0 : y ≠ 0) (hp : Builtin.divisionGoesByPylong x y = false) : Ev prog w A s P (eval (.BinOp l .FloorDiv r pos) env) Ty.int (x.fdiv y) :=
  Ev.binOp h1 h2 fun s1 P1 a b e ⟨t, ra⟩ ⟨u, rb⟩ => by subst ra; subst rb; exact PyProof.Rows.floordiv_int h0 ⟨P1, .toks e.sub, _, rfl⟩ (.inl hp)
theorem Ev.powI {x y : Int} (h1 : Ev prog w A s P (eval l env) Ty.int x) (h2 : Ev prog w A s P (eval r env) Ty.int y) (h0 : 0 ≤ y) (hn : y ≤ 1000000) (hx : x.natAbs < 2 ^ 64) : Ev prog w A s P (eval (.BinOp l .Pow r pos) env) Ty.int (x ^ y.toNat) :=
  Ev.binOp h1 h2 fun s1 P1 a b e ⟨t, ra⟩ ⟨u, rb⟩ => by subst ra; subst rb; exact PyProof.Rows.pow_int_small h0 hn hx ⟨P1, .toks e.sub, _, rfl⟩
theorem Ev.shrI {x y : Int} (h1 : Ev prog w A s P (eval l env) Ty.int x) (h2 : Ev prog w A s P (eval r env) Ty.int y) (h0 : 0 ≤ y) : Ev prog w A s P (eval (.BinOp l .RShift r pos) env) Ty.int (x.fdiv (2 ^ y.toNat)) :=
  Ev.binOp h1 h2 fun s1 P1 a b e ⟨t, ra⟩ ⟨u, rb⟩ => by subst ra; subst rb; exact PyProof.Rows.rshift_int h0 ⟨P1, .toks e.sub, _, rfl⟩
theorem Ev.andI {x y : Int} (h1 : Ev prog w A s P (eval l env) Ty.int x) (h2 : Ev prog w A s P (eval r env) Ty.int y) : Ev prog w A s P (eval (.BinOp l .BitAnd r pos) env) Ty.int (Builtin.bitAnd x y) :=
  Ev.binOp h1 h2 fun s1 P1 a b e ⟨t, ra⟩ ⟨u, rb⟩ => by subst ra; subst rb; exact PyProof.Rows.and_int ⟨P1, .toks e.sub, _, rfl⟩
theorem dec_beqI (x y : Int) : (x == y) = decide (x = y) := by by_cases e : x = y <;> simp [e]
theorem EvB.eqI {x y : Int} (h1 : Ev prog w A s P (eval l env) Ty.int x) (h2 : Ev prog w A s P (eval r env) Ty.int y) (hm : behindInMarks .Eq r = false := by with_unfolding_all rfl) : EvB prog w A s P (isTrue (.Compare l [.Eq] [r] pos) env whole) (decide (x = y)) :=
  EvB.cmp h1 h2 (fun s1 P1 a b e ⟨t, ra⟩ ⟨u, rb⟩ => by subst ra; subst rb; exact PyProof.Rows.eq_int ⟨P1, .refl e.sub, by rw [dec_beqI]; rfl⟩) hm
theorem Ev.eqI {x y : Int} (h1 : Ev prog w A s P (eval l env) Ty.int x) (h2 : Ev prog w A s P (eval r env) Ty.int y) (hm : behindInMarks .Eq r = false := by with_unfolding_all rfl) : Ev prog w A s P (eval (.Compare l [.Eq] [r] pos) env) Ty.bool (decide (x = y)) :=
  Ev.cmp h1 h2 (fun s1 P1 a b e ⟨t, ra⟩ ⟨u, rb⟩ => by subst ra; subst rb; exact PyProof.Rows.eq_int ⟨P1, .refl e.sub, by rw [dec_beqI]; rfl⟩) hm
theorem EvB.neI {x y : Int} (h1 : Ev prog w A s P (eval l env) Ty.int x) (h2 : Ev prog w A s P (eval r env) Ty.int y) (hm : behindInMarks .NotEq r = false := by with_unfolding_all rfl) : EvB prog w A s P (isTrue (.Compare l [.NotEq] [r] pos) env whole) (!decide (x = y)) :=
  EvB.cmp h1 h2 (fun s1 P1 a b e ⟨t, ra⟩ ⟨u, rb⟩ => by subst ra; subst rb; exact PyProof.Rows.ne_int ⟨P1, .refl e.sub, by show Value.bool (!(x == y)) = _; rw [dec_beqI]⟩) hm
theorem EvB.ltI {x y : Int} (h1 : Ev prog w A s P (eval l env) Ty.int x) (h2 : Ev prog w A s P (eval r env) Ty.int y) (hm : behindInMarks .Lt r = false := by with_unfolding_all rfl) : EvB prog w A s P (isTrue (.Compare l [.Lt] [r] pos) env whole) (decide (x < y)) :=
  EvB.cmp h1 h2 (fun s1 P1 a b e ⟨t, ra⟩ ⟨u, rb⟩ => by subst ra; subst rb; exact PyProof.Rows.lt_int ⟨P1, .refl e.sub, rfl⟩) hm
theorem EvB.gtI {x y : Int} (h1 : Ev prog w A s P (eval l env) Ty.int x) (h2 : Ev prog w A s P (eval r env) Ty.int y) (hm : behindInMarks .Gt r = false := by with_unfolding_all rfl) : EvB prog w A s P (isTrue (.Compare l [.Gt] [r] pos) env whole) (decide (y < x)) :=
  EvB.cmp h1 h2 (fun s1 P1 a b e ⟨t, ra⟩ ⟨u, rb⟩ => by subst ra; subst rb; exact PyProof.Rows.gt_int ⟨P1, .refl e.sub, rfl⟩) hm
theorem Truth.int {x : Int} {v : Value} (h : Sub P s) (r : Ty.int.rel P v x) : Truth prog w A s P v (x != 0) := by
  obtain ⟨t, rfl⟩ := r
  exact PyProof.Rows.truthy_int ⟨rfl, P, .refl h⟩

/-! texts -/
theorem Ev.addS {x y : Str} (h1 : Ev prog w A s P (eval l env) Ty.str x) (h2 : Ev prog w A s P (eval r env) Ty.str y) (hsz : x.length + y.length ≤ sizeLine) : Ev prog w A s P (eval (.BinOp l .Add r pos) env) Ty.str (x ++ y) :=
  Ev.binOp h1 h2 fun s1 P1 a b e ⟨t, ra⟩ ⟨u, rb⟩ => by subst ra; subst rb; exact op_add_str e.sub hsz
theorem EvB.eqS {x y : Str} (h1 : Ev prog w A s P (eval l env) Ty.str x) (h2 : Ev prog w A s P (eval r env) Ty.str y) (hm : behindInMarks .Eq r = false := by with_unfolding_all rfl) : EvB prog w A s P (isTrue (.Compare l [.Eq] [r] pos) env whole) (decide (x = y)) :=
  EvB.cmp h1 h2 (fun s1 P1 a b e ⟨t, ra⟩ ⟨u, rb⟩ => by subst ra; subst rb; exact op_eq_str e.sub) hm
theorem EvB.neS {x y : Str} (h1 : Ev prog w A s P (eval l env) Ty.str x) (h2 : Ev prog w A s P (eval r env) Ty.str y) (hm : behindInMarks .NotEq r = false := by with_unfolding_all rfl) : EvB prog w A s P (isTrue (.Compare l [.NotEq] [r] pos) env whole) (!decide (x = y)) :=
  EvB.cmp h1 h2 (fun s1 P1 a b e ⟨t, ra⟩ ⟨u, rb⟩ => by subst ra; subst rb; exact op_ne_str e.sub) hm
theorem EvB.inS {x : Str} {xs : List Str} (h1 : Ev prog w A s P (eval l env) Ty.str x) (h2 : Ev prog w A s P (eval r env) (Ty.list Ty.str) xs) (hm : behindInMarks .In r = false := by with_unfolding_all rfl) : EvB prog w A s P (isTrue (.Compare l [.In] [r] pos) env whole) (xs.contains x) :=
  EvB.cmp h1 h2 (fun s1 P1 a b e ⟨t, ra⟩ rb => by subst ra; exact op_in_strs e.sub rb) hm
theorem EvB.notinS {x : Str} {xs : List Str} (h1 : Ev prog w A s P (eval l env) Ty.str x) (h2 : Ev prog w A s P (eval r env) (Ty.list Ty.str) xs) (hm : behindInMarks .NotIn r = false := by with_unfolding_all rfl) : EvB prog w A s P (isTrue (.Compare l [.NotIn] [r] pos) env whole) (!xs.contains x) :=
  EvB.cmp h1 h2 (fun s1 P1 a b e ⟨t, ra⟩ rb => by subst ra; exact op_notin_strs e.sub rb) hm
theorem EvB.inI {x : Int} {xs : List Int} (h1 : Ev prog w A s P (eval l env) Ty.int x) (h2 : Ev prog w A s P (eval r env) (Ty.list Ty.int) xs) (hm : behindInMarks .In r = false := by with_unfolding_all rfl) : EvB prog w A s P (isTrue (.Compare l [.In] [r] pos) env whole) (xs.contains x) :=
  EvB.cmp h1 h2 (fun s1 P1 a b e ⟨t, ra⟩ rb => by subst ra; exact op_in_ints e.sub rb) hm
theorem Ev.addL {xs ys : List α} (h1 : Ev prog w A s P (eval l env) (Ty.list τ) xs) (h2 : Ev prog w A s P (eval r env) (Ty.list τ) ys) (hsz : xs.length + ys.length ≤ sizeLine) : Ev prog w A s P (eval (.BinOp l .Add r pos) env) (Ty.list τ) (xs ++ ys) :=
  Ev.binOp h1 h2 fun s1 P1 a b e ra rb => op_add_list e.sub ra rb hsz
theorem Truth.str {x : Str} {v : Value} (h : Sub P s) (r : Ty.str.rel P v x) (hsz : x.length ≤ sizeLine) : Truth prog w A s P v (x.length != 0) := by
  obtain ⟨t, rfl⟩ := r
  exact truth_str h hsz

/-! displays -/
theorem Ev.one {p : Pos} {e : Expr} {x : α} (h : Ev prog w A s P (eval e env) τ x) (he : starEach [e] env = (false, eval e env) :: starEach [] env := by rfl) : Ev prog w A s P (eval (.List [e] p) env) (Ty.list τ) [x] :=
  Ev.lst (EvL.cons h EvL.nil he) (fun P1 v vs ⟨a, r, e1, ra, e2⟩ q => by subst e1; cases e2; exact ⟨_, q, .cons ra .nil⟩) (LC.mono L0.mono) (fun P1 vs ⟨a, r, e1, ra, e2⟩ => by subst e1; cases e2; exact Nat.le_of_ble_eq_true rfl)
theorem Ev.twoL {p : Pos} {e1 e2 : Expr} {x y : α} (h1 : Ev prog w A s P (eval e1 env) τ x) (h2 : Ev prog w A s P (eval e2 env) τ y)
    (he1 : starEach [e1, e2] env = (false, eval e1 env) :: starEach [e2] env := by rfl) (he2 : starEach [e2] env = (false, eval e2 env) :: starEach [] env := by rfl) : Ev prog w A s P (eval (.List [e1, e2] p) env) (Ty.list τ) [x, y] :=
  Ev.lst (EvL.cons h1 (EvL.cons h2 EvL.nil he2) he1) (fun P1 v vs ⟨a, r, e1, ra, b, r', e2, rb, e3⟩ q => by subst e1; subst e2; cases e3; exact ⟨_, q, .cons ra (.cons rb .nil)⟩) (LC.mono (LC.mono L0.mono))
    (fun P1 vs ⟨a, r, e1, ra, b, r', e2, rb, e3⟩ => by subst e1; subst e2; cases e3; exact Nat.le_of_ble_eq_true rfl)
theorem Ev.tup3 {γ : Type} {υ : Ty γ} {e1 e2 e3 : Expr} {k : Nat} {pos : Pos} {x : α} {y : β} {z : γ} (h1 : Ev prog w A s P (eval e1 env) τ x) (h2 : Ev prog w A s P (eval e2 env) σ y) (h3 : Ev prog w A s P (eval e3 env) υ z)
    (he1 : starEach [e1, e2, e3] env = (false, eval e1 env) :: starEach [e2, e3] env := by rfl) (he2 : starEach [e2, e3] env = (false, eval e2 env) :: starEach [e3] env := by rfl) (he3 : starEach [e3] env = (false, eval e3 env) :: starEach [] env := by rfl) :
    Ev prog w A s P (eval (.Tuple [e1, e2, e3] k pos) env) (Ty.trip τ σ υ) (x, y, z) :=
  Ev.tup (EvL.cons h1 (EvL.cons h2 (EvL.cons h3 EvL.nil he3) he2) he1) (fun P1 v vs ⟨a, r, e1, ra, b, r', e2, rb, c, r'', e3, rc, e4⟩ q => by subst e1; subst e2; subst e3; cases e4; exact ⟨a, b, c, q, ra, rb, rc⟩) (LC.mono (LC.mono (LC.mono L0.mono)))
    fun P1 vs ⟨a, r, e1, ra, b, r', e2, rb, c, r'', e3, rc, e4⟩ => by subst e1; subst e2; subst e3; cases e4; exact Nat.le_of_ble_eq_true rfl

/-! items and slices -/
theorem Ev.sliceS {value : Expr} {p : Pos} {x : Str} {L U : Option Expr} {lo up : Option Int} (h : Ev prog w A s P (eval value env) Ty.str x) (h1 : EvP prog w A s P env L lo) (h2 : EvP prog w A s P env U up) (hsz : x.length ≤ sizeLine) :
    Ev prog w A s P (eval (.Subscript value (.Slice L U none p) pos) env) Ty.str (Txt.slice x lo up) :=
  Ev.sub h (Ev.slice h1 h2) fun s1 P1 a b e ⟨t, ra⟩ rb => by subst ra; exact op_slice_str e.sub rb hsz
theorem Ev.take {value : Expr} {p : Pos} {xs : List α} {U : Expr} {n : Nat} (h : Ev prog w A s P (eval value env) (Ty.list τ) xs) (h2 : Ev prog w A s P (eval U env) Ty.int (n : Int)) (hsz : xs.length ≤ sizeLine) :
    Ev prog w A s P (eval (.Subscript value (.Slice none (some U) none p) pos) env) (Ty.list τ) (xs.take n) :=
  Ev.sub h (Ev.slice EvP.none (EvP.some h2)) fun s1 P1 a b e ra rb => op_take e.sub ra rb hsz
theorem Ev.drop {value : Expr} {p : Pos} {xs : List α} {L : Expr} {n : Nat} (h : Ev prog w A s P (eval value env) (Ty.list τ) xs) (h2 : Ev prog w A s P (eval L env) Ty.int (n : Int)) (hsz : xs.length ≤ sizeLine) :
    Ev prog w A s P (eval (.Subscript value (.Slice (some L) none none p) pos) env) (Ty.list τ) (xs.drop n) :=
  Ev.sub h (Ev.slice (EvP.some h2) EvP.none) fun s1 P1 a b e ra rb => op_drop e.sub ra rb hsz
theorem Ev.item {value slice : Expr} {xs : List α} {k : Int} {x : α} (h : Ev prog w A s P (eval value env) (Ty.list τ) xs) (h2 : Ev prog w A s P (eval slice env) Ty.int k) (h0 : 0 ≤ k) (hk : xs[k.toNat]? = some x) (hsz : xs.length ≤ sizeLine)
    (hs : ∀ v t, subscripted slice false v (.int k t) = operate [v, .int k t] (getItem v (.int k t)) := by intro _ _; with_unfolding_all rfl) : Ev prog w A s P (eval (.Subscript value slice pos) env) τ x :=
  Ev.sub h h2 fun s1 P1 a b e ra ⟨t, rb⟩ => by subst rb; exact op_item e.sub ra h0 hk hsz (hs _ _)
end
end VS

end PartV9

noncomputable section PartV10
namespace VS
open PySem PySem.Calls PySem.W PyProof.Rows

section
variable {cs : Str → Prop} {s₀ s s' : Shared} {P₀ P P' : PM} {env : Env} {ρ : List (Str × Bd)} {O : List (Addr × Ob)}
/-- an object made since becomes the call's own -/
theorem St.adopt {a : Addr} {b : Ob} {o : Obj} (S : St cs s₀ P₀ env ρ O s P) (e : Ext s P s' P') (ha : s.heap.get? a = none) (ho : s'.heap.get? a = some o) (hp : P' a = none) (r : b.rel P' o) :
    St cs s₀ P₀ env ρ ((a, b) :: O) s' P' := by
  have S1 := S.go e
  have ne : ∀ c o', s.heap.get? c = some o' → a ≠ c := fun c o' h q => by rw [← q, ha] at h; cases h
  refine { S1 with own := fun p hp' => ?_, nodup := List.nodup_cons.mpr ⟨fun hm => ?_, S.nodup⟩ }
  · rcases List.mem_cons.mp hp' with rfl | hp'
    · refine ⟨⟨o, ho, r⟩, hp, ?_, ?_, fun n c hc => ?_⟩
      · cases q : s₀.heap.get? a with
        | none => rfl
        | some o' => rw [S.ext.keep _ _ q] at ha; cases ha
      · obtain ⟨m, hm, _⟩ := S.fs.ns
        obtain ⟨o', ho'⟩ := Heap.Ns.some hm
        exact ne _ _ ho'
      · obtain ⟨v, hv⟩ := S.fs.cells n c hc
        obtain ⟨o', ho'⟩ := Heap.IsCell.some hv
        exact ne _ _ ho'
    · exact S1.own p hp'
  · obtain ⟨p, hp', e'⟩ := List.mem_map.mp hm
    obtain ⟨⟨o', ho', _⟩, _⟩ := S.own p hp'
    exact ne _ _ ho' e'.symm
/-- an own object may change at will, and is forgotten -/
theorem St.leave {a : Addr} {b : Ob} {h' : Heap} {tk : Nat} (S : St cs s₀ P₀ env ρ ((a, b) :: O) s P) (kp : ∀ c o, c ≠ a → s.heap.get? c = some o → h'.get? c = some o) :
    St cs s₀ P₀ env ρ O { s with heap := h', toks := tk } P := by
  obtain ⟨⟨o, hoa, ra⟩, h2, h3, h4, h5⟩ := S.own (a, b) (.head _)
  obtain ⟨nd1, nd2⟩ := List.nodup_cons.mp S.nodup
  have F := S.fs
  exact {
    ext := {
      keep := fun c o e => kp c o (fun q => by rw [q, h3] at e; cases e) (S.ext.keep c o e)
      le := S.ext.le
      fresh := S.ext.fresh
      sub := fun c o e => kp c o (fun q => by rw [q, h2] at e; cases e) (S.ext.sub c o e)
      gens := S.ext.gens
      os := S.ext.os }
    fs := {
      kind := F.kind
      ns := let ⟨m, ⟨om, es, ep, g, rest⟩, r⟩ := F.ns; ⟨m, ⟨om, es, ep, kp _ _ (Ne.symm h4) g, rest⟩, r⟩
      cells := fun n c hc => let ⟨v, o, e, d⟩ := F.cells n c hc; ⟨v, o, kp _ _ (Ne.symm (h5 n c hc)) e, d⟩
      cell := fun n b hb hk => let ⟨c, v, h1, ⟨o, e, d⟩, h3⟩ := F.cell n b hb hk; ⟨c, v, h1, ⟨o, kp _ _ (Ne.symm (h5 n c (mem_of_lookup h1))) e, d⟩, h3⟩
      apart := F.apart
      off := F.off
      pl := F.pl
      pc := F.pc }
    newL := S.newL
    newC := S.newC
    own := fun p hp => by
      obtain ⟨⟨o₁, ho₁, r₁⟩, g2, g3, g4, g5⟩ := S.own p (.tail _ hp)
      exact ⟨⟨o₁, kp _ _ (fun q => nd1 (List.mem_map.mpr ⟨p, hp, q⟩)) ho₁, r₁⟩, g2, g3, g4, g5⟩
    nodup := nd2 }
/-- some own objects change, the rest stays -/
theorem St.morph {O1 O1' : List (Addr × Ob)} {h' : Heap} {tk : Nat} (S : St cs s₀ P₀ env ρ (O1 ++ O) s P) (had : (O1'.map (·.1)).Sublist (O1.map (·.1))) (hnew : ∀ p ∈ O1', ∃ o, h'.get? p.1 = some o ∧ p.2.rel P o)
    (kp : ∀ c o, c ∉ O1.map (·.1) → s.heap.get? c = some o → h'.get? c = some o) : St cs s₀ P₀ env ρ (O1' ++ O) { s with heap := h', toks := tk } P := by
  have F := S.fs
  have off : ∀ c, c ∈ O1.map (·.1) → P c = none ∧ s₀.heap.get? c = none ∧ c ≠ env.locals ∧ ∀ n d, (n, d) ∈ env.cells → c ≠ d := fun c hc => by
    obtain ⟨p, hp, rfl⟩ := List.mem_map.mp hc
    obtain ⟨_, r⟩ := S.own p (List.mem_append_left _ hp)
    exact r
  have nd := S.nodup
  rw [List.map_append] at nd
  obtain ⟨nd1, nd2, nd3⟩ := List.nodup_append.mp nd
  exact {
    ext := {
      keep := fun c o e => kp c o (fun q => by rw [(off c q).2.1] at e; cases e) (S.ext.keep c o e)
      le := S.ext.le
      fresh := S.ext.fresh
      sub := fun c o e => kp c o (fun q => by rw [(off c q).1] at e; cases e) (S.ext.sub c o e)
      gens := S.ext.gens
      os := S.ext.os }
    fs := {
      kind := F.kind
      ns := let ⟨m, ⟨om, es, ep, g, rest⟩, r⟩ := F.ns; ⟨m, ⟨om, es, ep, kp _ _ (fun q => (off _ q).2.2.1 rfl) g, rest⟩, r⟩
      cells := fun n c hc => let ⟨v, o, e, d⟩ := F.cells n c hc; ⟨v, o, kp _ _ (fun q => (off _ q).2.2.2 n c hc rfl) e, d⟩
      cell := fun n b hb hk => let ⟨c, v, h1, ⟨o, e, d⟩, h3⟩ := F.cell n b hb hk; ⟨c, v, h1, ⟨o, kp _ _ (fun q => (off _ q).2.2.2 n c (mem_of_lookup h1) rfl) e, d⟩, h3⟩
      apart := F.apart
      off := F.off
      pl := F.pl
      pc := F.pc }
    newL := S.newL
    newC := S.newC
    own := fun p hp => by
      rcases List.mem_append.mp hp with hp | hp
      · obtain ⟨o, ho, r⟩ := hnew p hp
        exact ⟨⟨o, ho, r⟩, off p.1 (had.subset (List.mem_map.mpr ⟨p, hp, rfl⟩))⟩
      · obtain ⟨⟨o₁, ho₁, r₁⟩, g⟩ := S.own p (List.mem_append_right _ hp)
        exact ⟨⟨o₁, kp _ _ (fun q => nd3 _ q _ (List.mem_map.mpr ⟨p, hp, rfl⟩) rfl) ho₁, r₁⟩, g⟩
    nodup := by
      rw [List.map_append]
      exact List.nodup_append.mpr ⟨had.nodup nd1, nd2, fun a ha b hb => nd3 a (had.subset ha) b hb⟩ }
/-- an address that nothing stands at is nobody's -/
theorem St.absent {T : Addr} (S : St cs s₀ P₀ env ρ O s P) (h : s.heap.get? T = none) : P T = none ∧ s₀.heap.get? T = none ∧ T ≠ env.locals ∧ (∀ n c, (n, c) ∈ env.cells → T ≠ c) ∧ T ∉ O.map (·.1) := by
  have ne : ∀ c o', s.heap.get? c = some o' → T ≠ c := fun c o' h' q => by rw [← q, h] at h'; cases h'
  refine ⟨S.sub.none h, ?_, ?_, fun n c hc => ?_, fun hm => ?_⟩
  · cases q : s₀.heap.get? T with
    | none => rfl
    | some o' => rw [S.ext.keep _ _ q] at h; cases h
  · obtain ⟨m, hm, _⟩ := S.fs.ns
    obtain ⟨o', ho'⟩ := Heap.Ns.some hm
    exact ne _ _ ho'
  · obtain ⟨v, hv⟩ := S.fs.cells n c hc
    obtain ⟨o', ho'⟩ := Heap.IsCell.some hv
    exact ne _ _ ho'
  · obtain ⟨p, hp', e'⟩ := List.mem_map.mp hm
    obtain ⟨⟨o', ho', _⟩, _⟩ := S.own p hp'
    exact ne _ _ ho' e'.symm
theorem St.grow {T : Addr} {b : Ob} {o : Obj} (S : St cs s₀ P₀ env ρ O s P) (hn : P T = none ∧ s₀.heap.get? T = none ∧ T ≠ env.locals ∧ (∀ n c, (n, c) ∈ env.cells → T ≠ c) ∧ T ∉ O.map (·.1)) (ho : s.heap.get? T = some o) (r : b.rel P o) :
    St cs s₀ P₀ env ρ ((T, b) :: O) s P :=
  { S with own := fun p hp => by
             rcases List.mem_cons.mp hp with rfl | hp
             · exact ⟨⟨o, ho, r⟩, hn.1, hn.2.1, hn.2.2.1, hn.2.2.2.1⟩
             · exact S.own p hp
           nodup := List.nodup_cons.mpr ⟨hn.2.2.2.2, S.nodup⟩ }
/-- what an own object looks like now -/
theorem St.obj {a : Addr} {b : Ob} (S : St cs s₀ P₀ env ρ ((a, b) :: O) s P) : ∃ o, s.heap.get? a = some o ∧ b.rel P o ∧ P a = none := by
  obtain ⟨⟨o, h1, h2⟩, h3, _⟩ := S.own (a, b) (.head _)
  exact ⟨o, h1, h2, h3⟩
end

/-! storing into targets -/
def Storable (cs : Str → Prop) (env : Env) (n : Str) : Prop := env.kindOf n = some .local ∨ (env.kindOf n = some .cell ∧ cs n ∧ ∃ c, env.cells.lookup n = some c)
def Asg (prog : Program) (w : World) (A : Around) (cs : Str → Prop) (env : Env) (t : Expr) (v : Value) (P : PM) (B : List (Str × Bd)) : Prop :=
  ∀ s₀ P₀ ρ O s E, St cs s₀ P₀ env ρ O s P → wpAny (model prog w) A (assign t env v) (fun _ s' => St cs s₀ P₀ env (B ++ ρ) O s' P) E s

section
variable {prog : Program} {w : World} {A : Around} {cs : Str → Prop} {env : Env} {P : PM} {α β γ : Type} {τ : Ty α} {σ : Ty β} {υ : Ty γ}
theorem Asg.name {n : Str} {pos : Pos} {v : Value} {b : Bd} (r : b.rel P v) (hk : Storable cs env n) : Asg prog w A cs env (.Name n pos) v P [(n, b)] := fun s₀ P₀ ρ O s E S =>
  wpAny_assign_Name (S.store r hk fun s' S' => S')
theorem tup_items {v : Value} {vs : List Value} {s₀ s : Shared} {P₀ : PM} {ρ : List (Str × Bd)} {O : List (Addr × Ob)} {elts : List Expr} {k : Nat} {pos : Pos} {E : Value → Shared → Prop} {Q : Unit → Shared → Prop} (hh : A.handled = none) (S : St cs s₀ P₀ env ρ O s P) (q : SeqAt P v "tuple" vs)
    (hn : (assignEach elts env).length = vs.length) (hstar : (assignEach elts env).findIdx? (·.1) = none)
    (h : ∀ s', St cs s₀ P₀ env ρ O s' P → wpAny (model prog w) A (assignInOrder ((assignEach elts env).map (·.2)) vs) Q E s') : wpAny (model prog w) A (assign (.Tuple elts k pos) env v) Q E s := by
  obtain ⟨a, n, rfl, hp⟩ := id q
  refine assign_Tuple_tuple hh (q.isTup S.sub) (by rw [List.size_toArray]; exact hn) hstar fun h' hx => ?_
  exact h _ (S.go (.heap S.sub fun b o e => hx b o (Nat.ne_of_lt (Heap.lt_size e)) e))
theorem Asg.three {t1 t2 t3 : Expr} {k : Nat} {pos : Pos} {v v1 v2 v3 : Value} {B1 B2 B3 : List (Str × Bd)} (hh : A.handled = none) (q : SeqAt P v "tuple" [v1, v2, v3])
    (h1 : Asg prog w A cs env t1 v1 P B1) (h2 : Asg prog w A cs env t2 v2 P B2) (h3 : Asg prog w A cs env t3 v3 P B3)
    (he : assignEach [t1, t2, t3] env = [(false, assign t1 env), (false, assign t2 env), (false, assign t3 env)] := by rfl) : Asg prog w A cs env (.Tuple [t1, t2, t3] k pos) v P (B3 ++ (B2 ++ B1)) := fun s₀ P₀ ρ O s E S =>
  tup_items hh S q (by rw [he]; rfl) (by rw [he]; rfl) fun s1 S1 => by
    rw [he]
    exact assignInOrder_cons (wpAny_mono (h1 _ _ _ _ _ _ S1) (fun _ s2 S2 => assignInOrder_cons (wpAny_mono (h2 _ _ _ _ _ _ S2) (fun _ s3 S3 => assignInOrder_cons (wpAny_mono (h3 _ _ _ _ _ _ S3) (fun _ s4 S4 => assignInOrder_nil (by
      simpa [List.append_assoc] using S4)) fun _ _ e => e)) fun _ _ e => e)) fun _ _ e => e)
theorem Asg.two {t1 t2 : Expr} {k : Nat} {pos : Pos} {v v1 v2 : Value} {B1 B2 : List (Str × Bd)} (hh : A.handled = none) (q : SeqAt P v "tuple" [v1, v2])
    (h1 : Asg prog w A cs env t1 v1 P B1) (h2 : Asg prog w A cs env t2 v2 P B2)
    (he : assignEach [t1, t2] env = [(false, assign t1 env), (false, assign t2 env)] := by rfl) : Asg prog w A cs env (.Tuple [t1, t2] k pos) v P (B2 ++ B1) := fun s₀ P₀ ρ O s E S =>
  tup_items hh S q (by rw [he]; rfl) (by rw [he]; rfl) fun s1 S1 => by
    rw [he]
    exact assignInOrder_cons (wpAny_mono (h1 _ _ _ _ _ _ S1) (fun _ s2 S2 => assignInOrder_cons (wpAny_mono (h2 _ _ _ _ _ _ S2) (fun _ s3 S3 => assignInOrder_nil (by
      simpa [List.append_assoc] using S3)) fun _ _ e => e)) fun _ _ e => e)
end

/-! what a loop draws from -/
structure Feed (prog : Program) (w : World) (A : Around) (cs : Str → Prop) (env : Env) (Ps : PM) (it : Value) (target : Expr) (n : Nat) (B : Nat → List (Str × Bd)) (Own : Nat → List (Addr × Ob)) : Prop where
  turn : ∀ (s₀ : Shared) (P₀ : PM) (ρ : List (Str × Bd)) (O : List (Addr × Ob)) (s : Shared) (P : PM) (i : Nat) (E : Value → Shared → Prop), i < n → PM.le Ps P → St cs s₀ P₀ env ρ (Own i ++ O) s P →
    wpAny (model prog w) A (pyNext it) (fun r s1 => ∃ v, r = some v ∧ wpAny (model prog w) A (letOwnedTupleGo target it v) (fun _ s2 => wpAny (model prog w) A (assign target env v)
      (fun _ s3 => ∃ P3, PM.le P P3 ∧ St cs s₀ P₀ env (B i ++ ρ) (Own (i + 1) ++ O) s3 P3) E s2) E s1) E s
  done : ∀ (s₀ : Shared) (P₀ : PM) (ρ : List (Str × Bd)) (O : List (Addr × Ob)) (s : Shared) (P : PM) (E : Value → Shared → Prop), PM.le Ps P → St cs s₀ P₀ env ρ (Own n ++ O) s P →
    wpAny (model prog w) A (pyNext it) (fun r s1 => r = none ∧ St cs s₀ P₀ env ρ O s1 P) E s
  self : ∀ (s₀ : Shared) (P₀ : PM) (ρ : List (Str × Bd)) (O : List (Addr × Ob)) (s : Shared) (P : PM) (E : Value → Shared → Prop), St cs s₀ P₀ env ρ (Own 0 ++ O) s P →
    wpAny (model prog w) A (pyIter it) (fun it' s1 => it' = it ∧ St cs s₀ P₀ env ρ (Own 0 ++ O) s1 P) E s

def Ob.listIter (l : Addr) (i : Nat) : Ob := ⟨fun _ o => o.cls = .type "list_iterator" ∧ o.data = .fields #[.ref l, .int i 0], fun _ h => h⟩
def Ob.tupIter (l : Addr) (i : Nat) : Ob := ⟨fun _ o => o.cls = .type "tuple_iterator" ∧ o.data = .fields #[.ref l, .int i 0], fun _ h => h⟩
/-- no tuple is let go for an iterator of these kinds -/
theorem go_plain {M : Model} {A : Around} {E : Value → Shared → Prop} {s : Shared} {target : Expr} {I : Addr} {v : Value} {o : Obj} {n : String} {Q : Unit → Shared → Prop} (ho : s.heap.get? I = some o) (hc : o.cls = .type n)
    (hn : (["enumerate", "zip", "dict_itemiterator", "dict_reverseitemiterator", "odict_iterator", "itertools.zip_longest", "itertools.pairwise"] : List String).contains n = false) (h : Q () s) : wpAny M A (letOwnedTupleGo target (.ref I) v) Q E s := by
  unfold letOwnedTupleGo
  have key : wpAny M A (do
      let (.ref r, .ref a) := (Value.ref I, v) | return
      let o ← load r
      match o.cls, o.data with
      | .type n, .fields vs =>
        if ["enumerate", "zip", "dict_itemiterator", "dict_reverseitemiterator", "odict_iterator", "itertools.zip_longest", "itertools.pairwise"].contains n && vs[0]? == some (rawInt a) then
          rule "for.unpacks-the-owned-tuple"
          updateField r 0 .none
      | _, _ => pure () : Sem Unit) Q E s := by
    cases v with
    | ref a =>
      refine wpAny_bind (wpAny_load ho ?_)
      rw [hc]
      cases o.data with
      | fields vs =>
        dsimp only
        rw [hn, Bool.false_and, if_neg Bool.false_ne_true]
        exact wpAny_pure h
      | _ => exact wpAny_pure h
    | _ => exact wpAny_pure h
  cases target with
  | Tuple _ _ _ => exact key
  | List _ _ => exact key
  | _ => exact wpAny_pure h
end VS

end PartV10

noncomputable section PartV11
namespace VS
open PySem PySem.Calls PySem.W PyProof.Rows

section
variable {prog : Program} {w : World} {A : Around} {cs : Str → Prop} {env : Env} {P Ps : PM} {α β γ : Type} {τ : Ty α} {σ : Ty β} {υ : Ty γ}

theorem Ty.seqAt {P : PM} {v : Value} {xs : List α} {cls : String} (r : (Ty.seq cls τ).rel P v xs) : ∃ a vs n, v = .ref a ∧ P a = some { cls := .type cls, data := .seq vs.toArray n } ∧ Paired (τ.rel P) vs xs := by
  obtain ⟨vs, ⟨a, n, e, p⟩, h⟩ := r
  exact ⟨a, vs, n, e, p, h⟩
theorem Feed.list {I l : Addr} {vs : List Value} {xs : List α} {n : Nat} {target : Expr} {B : Nat → List (Str × Bd)} (hh : A.handled = none) (hl : Ps l = some { cls := .type "list", data := .seq vs.toArray n }) (hp : Paired (τ.rel Ps) vs xs)
    (ha : ∀ i x v P', xs[i]? = some x → PM.le Ps P' → τ.rel P' v x → Asg prog w A cs env target v P' (B i)) : Feed prog w A cs env Ps (.ref I) target xs.length B (fun i => [(I, Ob.listIter l i)]) where
  turn s₀ P₀ ρ O s P i E hi hle S := by
    obtain ⟨o, ho, ⟨hc, hd⟩, hn⟩ := S.obj
    have hL : s.heap.IsList l vs.toArray := ⟨_, S.sub _ _ (hle _ _ hl), rfl, n, rfl⟩
    obtain ⟨v, hv, rv⟩ := pGet hp (List.getElem?_eq_getElem hi)
    refine wpAny_pyNext_list_item ⟨o, ho, hc, hd⟩ hL (by simpa using hv) fun h' hit' hs' => ⟨v, rfl, ?_⟩
    obtain ⟨o', ho', hc', hd'⟩ := hit'
    have S1 := S.change (b' := Ob.listIter l (i + 1)) (tk := s.toks) ho' ⟨hc', hd'⟩ fun c o hne e => (hs'.2 c hne).trans e
    refine go_plain ho' hc' (by decide) ?_
    exact wpAny_mono (ha i _ v P (List.getElem?_eq_getElem hi) hle (τ.mono hle rv) _ _ _ _ _ _ S1) (fun _ s3 S3 => ⟨P, .refl P, S3⟩) fun _ _ e => e
  done s₀ P₀ ρ O s P E hle S := by
    obtain ⟨o, ho, ⟨hc, hd⟩, hn⟩ := S.obj
    have hL : s.heap.IsList l vs.toArray := ⟨_, S.sub _ _ (hle _ _ hl), rfl, n, rfl⟩
    refine wpAny_pyNext_list_end hh ⟨o, ho, hc, hd⟩ hL (by simp [hp.length]) fun h' hx => ⟨rfl, ?_⟩
    obtain ⟨⟨o1, ho1, _⟩, h2, h3, h4, h5⟩ := S.own _ (.head _)
    exact S.leave fun c o hne e => hx c o hne e
  self s₀ P₀ ρ O s P E S := by
    obtain ⟨o, ho, ⟨hc, hd⟩, hn⟩ := S.obj
    exact wpAny_pyIter_listiter ⟨o, ho, hc, hd⟩ ⟨rfl, S⟩

theorem Feed.tuple {I l : Addr} {vs : List Value} {xs : List α} {n : Nat} {target : Expr} {B : Nat → List (Str × Bd)} (hh : A.handled = none) (hl : Ps l = some { cls := .type "tuple", data := .seq vs.toArray n }) (hp : Paired (τ.rel Ps) vs xs)
    (ha : ∀ i x v P', xs[i]? = some x → PM.le Ps P' → τ.rel P' v x → Asg prog w A cs env target v P' (B i)) : Feed prog w A cs env Ps (.ref I) target xs.length B (fun i => [(I, Ob.tupIter l i)]) where
  turn s₀ P₀ ρ O s P i E hi hle S := by
    obtain ⟨o, ho, ⟨hc, hd⟩, hn⟩ := S.obj
    have hL : s.heap.IsTuple l vs.toArray := ⟨_, S.sub _ _ (hle _ _ hl), rfl, n, rfl⟩
    obtain ⟨v, hv, rv⟩ := pGet hp (List.getElem?_eq_getElem hi)
    refine wpAny_pyNext_tuple_item ⟨o, ho, hc, hd⟩ hL (by simpa using hv) fun h' hit' hs' => ⟨v, rfl, ?_⟩
    obtain ⟨o', ho', hc', hd'⟩ := hit'
    have S1 := S.change (b' := Ob.tupIter l (i + 1)) (tk := s.toks) ho' ⟨hc', hd'⟩ fun c o hne e => (hs'.2 c hne).trans e
    refine go_plain ho' hc' (by decide) ?_
    exact wpAny_mono (ha i _ v P (List.getElem?_eq_getElem hi) hle (τ.mono hle rv) _ _ _ _ _ _ S1) (fun _ s3 S3 => ⟨P, .refl P, S3⟩) fun _ _ e => e
  done s₀ P₀ ρ O s P E hle S := by
    obtain ⟨o, ho, ⟨hc, hd⟩, hn⟩ := S.obj
    have hL : s.heap.IsTuple l vs.toArray := ⟨_, S.sub _ _ (hle _ _ hl), rfl, n, rfl⟩
    refine wpAny_pyNext_tuple_end hh ⟨o, ho, hc, hd⟩ hL (by simp [hp.length]) fun h' hx => ⟨rfl, ?_⟩
    exact S.leave fun c o hne e => hx c o hne e
  self s₀ P₀ ρ O s P E S := by
    obtain ⟨o, ho, ⟨hc, hd⟩, hn⟩ := S.obj
    exact wpAny_pyIter_tupleiter ⟨o, ho, hc, hd⟩ ⟨rfl, S⟩

def Ob.rangeIter (x left : Int) : Ob := Ob.exact { cls := .type "range_iterator", dict := none, data := .fields #[rawInt x, rawInt left, rawInt 1], slots := #[] }
theorem Feed.range {I : Addr} {a : Int} {n : Nat} {x : Str} {pos : Pos} (hh : A.handled = none) (hk : Storable cs env x) :
    Feed prog w A cs env Ps (.ref I) (.Name x pos) n (fun i => [(x, Ty.int.at (a + i))]) (fun i => [(I, Ob.rangeIter (a + i) (n - i))]) where
  turn s₀ P₀ ρ O s P i E hi hle S := by
    obtain ⟨o, ho, hx, hn⟩ := S.obj
    have hx' : o = _ := hx
    subst hx'
    refine wpAny_pyNext_range_item ho (by omega) fun h' hit' hs' => ⟨_, rfl, ?_⟩
    have S1 := S.change (b' := Ob.rangeIter (a + (i + 1 : Nat)) (n - (i + 1 : Nat))) (tk := s.toks + 1) hit' (by
      show _ = _
      rw [show a + (i : Int) + 1 = a + ((i + 1 : Nat) : Int) by omega, show (n : Int) - i - 1 = n - ((i + 1 : Nat) : Int) by omega]) fun c o hne e => (hs'.2 c hne).trans e
    refine wpAny_pure ?_
    exact wpAny_mono (Asg.name (b := Ty.int.at (a + i)) ⟨s.toks, rfl⟩ hk _ _ _ _ _ _ S1) (fun _ s3 S3 => ⟨P, .refl P, S3⟩) fun _ _ e => e
  done s₀ P₀ ρ O s P E hle S := by
    obtain ⟨o, ho, hx, hn⟩ := S.obj
    have hx' : o = _ := hx
    subst hx'
    refine wpAny_pyNext_range_end hh ho (by omega) fun h' hx => ⟨rfl, ?_⟩
    exact S.leave fun c o hne e => hx c o hne e
  self s₀ P₀ ρ O s P E S := by
    obtain ⟨o, ho, hx, hn⟩ := S.obj
    have hx' : o = _ := hx
    subst hx'
    exact wpAny_pyIter_rangeiter ho ⟨rfl, S⟩

def Ob.enum (it : Addr) (i : Int) : Ob := ⟨fun _ o => ∃ old, o = { cls := .type "enumerate", dict := none, data := .fields #[.none, .bool false, .ref it, rawInt i, .none, old], slots := #[] }, fun _ h => h⟩
theorem Feed.enum {e it l : Addr} {vs : List Value} {xs : List α} {n : Nat} {x : Str} {pp pos : Pos} {k : Nat} {t2 : Expr} {B : Nat → List (Str × Bd)} (hh : A.handled = none) (hl : Ps l = some { cls := .type "list", data := .seq vs.toArray n }) (hp : Paired (τ.rel Ps) vs xs)
    (hk : Storable cs env x) (ha : ∀ i x v P', xs[i]? = some x → PM.le Ps P' → τ.rel P' v x → Asg prog w A cs env t2 v P' (B i))
    (he : assignEach [.Name x pp, t2] env = [(false, assign (.Name x pp) env), (false, assign t2 env)] := by rfl) :
    Feed prog w A cs env Ps (.ref e) (.Tuple [.Name x pp, t2] k pos) xs.length (fun i => B i ++ [(x, Ty.int.at (i : Int))]) (fun i => [(e, Ob.enum it i), (it, Ob.listIter l i)]) where
  turn s₀ P₀ ρ O s P i E hi hle S := by
    obtain ⟨⟨o, ho, old, rfl⟩, hn, _⟩ := S.own _ (.head _)
    obtain ⟨⟨o2, ho2, hc2, hd2⟩, hn2, h02, _⟩ := S.own (it, Ob.listIter l i) (.tail _ (.head _))
    have nd := S.nodup
    have hei : e ≠ it := fun q => (List.nodup_cons.mp nd).1 (by rw [q]; exact .head _)
    have hL : s.heap.IsList l vs.toArray := ⟨_, S.sub _ _ (hle _ _ hl), rfl, n, rfl⟩
    obtain ⟨v, hv, rv⟩ := pGet hp (List.getElem?_eq_getElem hi)
    refine wpAny_pyNext_enum_item (i := i) ho ⟨o2, ho2, hc2, hd2⟩ hL (by simpa using hv) hei fun h' ho' hit' hT hsz hkp => ⟨_, rfl, ?_⟩
    obtain ⟨o3, ho3, hc3, hd3⟩ := hit'
    -- the tuple it hands out
    let T := s.heap.objs.size
    have hTn : s.heap.get? T = none := get?_size _
    have ltT : ∀ c o, s.heap.get? c = some o → c ≠ T := fun c o h q => by rw [q, hTn] at h; cases h
    have hte : T ≠ e := Ne.symm (ltT _ _ ho)
    have hti : T ≠ it := Ne.symm (ltT _ _ ho2)
    refine wpAny_letOwnedTupleGo_enum ho' fun h2 he2 hs2 => ?_
    replace hs2 : Heap.SameBut e h' h2 := hs2
    -- the state behind
    have hab := S.absent hTn
    have S1 : St cs s₀ P₀ env ρ ([(e, Ob.enum it ((i + 1 : Nat) : Int)), (it, Ob.listIter l (i + 1))] ++ O) { s with heap := h2, toks := s.toks + 1 } P := by
      refine S.morph (O1 := [(e, Ob.enum it i), (it, Ob.listIter l i)]) (List.Sublist.refl _) (fun p hp => ?_) fun c o hc hg => ?_
      · rcases List.mem_cons.mp hp with rfl | hp
        · exact ⟨_, he2, v, rfl⟩
        · rcases List.mem_cons.mp hp with rfl | hp
          · exact ⟨o3, (hs2.2 it (Ne.symm hei)).trans ho3, hc3, hd3⟩
          · cases hp
      · have h1 : c ≠ e := fun q => hc (by rw [q]; exact .head _)
        have h3 : c ≠ it := fun q => hc (by rw [q]; exact .tail _ (.head _))
        exact (hs2.2 c h1).trans (hkp c o h1 h3 hg)
    have S2 := S1.grow (T := T) (b := Ob.exact { cls := .type "tuple", data := .seq #[.int i s.toks, v] }) hab ((hs2.2 T hte).trans hT) rfl
    obtain ⟨oT, hoT, S3, hle3⟩ := S2.freeze
    have hoT' : oT = _ := hoT
    subst hoT'
    have q : SeqAt (P.put T { cls := .type "tuple", data := .seq #[.int i s.toks, v] }) (.ref T) "tuple" [.int i s.toks, v] := ⟨T, 0, rfl, PM.put_self⟩
    exact wpAny_mono (Asg.two (B1 := [(x, Ty.int.at (i : Int))]) (B2 := B i) hh q (Asg.name (b := Ty.int.at (i : Int)) ⟨_, rfl⟩ hk) (ha i _ v _ (List.getElem?_eq_getElem hi) (hle.trans hle3) (τ.mono (hle.trans hle3) rv)) he _ _ _ _ _ _ S3) (fun _ s4 S4 => ⟨_, hle3, S4⟩) fun _ _ e => e
  done s₀ P₀ ρ O s P E hle S := by
    obtain ⟨⟨o, ho, old, rfl⟩, hn, _⟩ := S.own _ (.head _)
    obtain ⟨⟨o2, ho2, hc2, hd2⟩, hn2, h02, _⟩ := S.own (it, Ob.listIter l xs.length) (.tail _ (.head _))
    have hL : s.heap.IsList l vs.toArray := ⟨_, S.sub _ _ (hle _ _ hl), rfl, n, rfl⟩
    refine wpAny_pyNext_enum_end hh (i := xs.length) ho ⟨o2, ho2, hc2, hd2⟩ hL (by simp [hp.length]) fun h' hx => ⟨rfl, ?_⟩
    exact S.swap.leave (fun c o hne e => hx c o hne e) |>.drop
  self s₀ P₀ ρ O s P E S := by
    obtain ⟨⟨o, ho, old, rfl⟩, hn, _⟩ := S.own _ (.head _)
    exact wpAny_pyIter_enum (i := ((0 : Nat) : Int)) ho ⟨rfl, S⟩
end
end VS

end PartV11

noncomputable section PartV12
namespace VS
open PySem PySem.Calls PySem.W PyProof.Rows

section
variable {prog : Program} {w : World} {A : Around} {cs : Str → Prop} {env : Env} {α β γ : Type} {τ : Ty α} {σ : Ty β} {υ : Ty γ} {s₀ s : Shared} {P₀ P Ps : PM} {ρ : List (Str × Bd)} {O : List (Addr × Ob)}

theorem for_code {it : Value} {target : Expr} {n : Nat} {B : Nat → List (Str × Bd)} {Own : Nat → List (Addr × Ob)} {body : List Stmt} {R : Result → Shared → Prop} (F : Feed prog w A cs env Ps it target n B Own)
    (J : Nat → List (Str × Bd) → List (Addr × Ob) → Prop) (S : St cs s₀ P₀ env ρ (Own 0 ++ O) s P) (hle : PM.le Ps P) (h0 : J 0 ρ O)
    (turn : ∀ i ρ O s P its E, i < n → PM.le Ps P → J i ρ O → St cs s₀ P₀ env (B i ++ ρ) (its ++ O) s P →
      wpAny (model prog w) A (execs body env) (fun f s' => match f with
        | .next | .cont => ∃ ρ' O' P', PM.le P P' ∧ St cs s₀ P₀ env ρ' (its ++ O') s' P' ∧ J (i + 1) ρ' O'
        | .brk => R (.ok .next) s'
        | .ret v => R (.ok (.ret v)) s') E s)
    (done : ∀ ρ O s P, PM.le Ps P → J n ρ O → St cs s₀ P₀ env ρ O s P → R (.ok .next) s) : codeAny (model prog w) A (.forLoop target it body [] env) R s := by
  refine codeAny_forLoop_any (fun k s' => ∃ i ρ O P, k = n - i ∧ i ≤ n ∧ PM.le Ps P ∧ J i ρ O ∧ St cs s₀ P₀ env ρ (Own i ++ O) s' P) ?_ n ⟨0, ρ, O, P, by omega, Nat.zero_le _, hle, h0, S⟩
  rintro k s' ⟨i, ρ, O, P, rfl, hi, hle, hJ, S⟩
  by_cases hlt : i < n
  · refine wpAny_mono (F.turn s₀ P₀ ρ O s' P i _ hlt hle S) (fun r s1 ⟨v, hr, h⟩ => ?_) fun _ _ e => e
    subst hr
    refine wpAny_mono h (fun _ s2 h => wpAny_mono h (fun _ s3 ⟨P3, l3, S3⟩ => ?_) fun _ _ e => e) fun _ _ e => e
    refine wpAny_mono (turn i ρ O s3 P3 (Own (i + 1)) _ hlt (hle.trans l3) hJ S3) (fun f s4 h4 => ?_) fun _ _ e => e
    cases f with
    | next => obtain ⟨ρ', O', P', l', S', J'⟩ := h4; exact ⟨n - (i + 1), by omega, i + 1, ρ', O', P', rfl, hlt, (hle.trans l3).trans l', J', S'⟩
    | cont => obtain ⟨ρ', O', P', l', S', J'⟩ := h4; exact ⟨n - (i + 1), by omega, i + 1, ρ', O', P', rfl, hlt, (hle.trans l3).trans l', J', S'⟩
    | brk => exact h4
    | ret v => exact h4
  · have e : i = n := by omega
    subst e
    refine wpAny_mono (F.done s₀ P₀ ρ O s' P _ hle S) (fun r s1 ⟨hr, S1⟩ => ?_) fun _ _ e => e
    subst hr
    exact wpAny_execs_nil (done ρ O s1 P hle hJ S1)

/-- a for over what its iterable feeds -/
theorem St.for {target iter : Expr} {body : List Stmt} {pos : Pos} {Q : Flow → Shared → Prop} {E : Value → Shared → Prop} (S : St cs s₀ P₀ env ρ O s P)
    (h : wpAny (model prog w) A (eval iter env) (fun x s1 => wpAny (model prog w) A (pyIter x) (fun it s2 => ∃ P2 n B Own, PM.le P P2 ∧ Feed prog w A cs env P2 it target n B Own ∧ St cs s₀ P₀ env ρ (Own 0 ++ O) s2 P2 ∧
      ∃ J : Nat → List (Str × Bd) → List (Addr × Ob) → Prop, J 0 ρ O ∧
        (∀ i ρ O s P its E, i < n → PM.le P2 P → J i ρ O → St cs s₀ P₀ env (B i ++ ρ) (its ++ O) s P →
          wpAny (model prog w) A (execs body env) (fun f s' => match f with
            | .next | .cont => ∃ ρ' O' P', PM.le P P' ∧ St cs s₀ P₀ env ρ' (its ++ O') s' P' ∧ J (i + 1) ρ' O'
            | .brk => Q .next s'
            | .ret v => Q (.ret v) s') E s) ∧
        (∀ ρ O s P, PM.le P2 P → J n ρ O → St cs s₀ P₀ env ρ O s P → Q .next s)) E s1) E s)
    (hs : ∀ x, foldedSetIterable iter env x = pure x := by intro _; rfl) : wpAny (model prog w) A (exec (.For target iter body [] pos) env) Q E s := by
  refine wpAny_For (wpAny_mono h (fun x s1 h1 => wpAny_mono h1 (fun it s2 ⟨P2, n, B, Own, l2, F, S2, J, h0, turn, done⟩ => ?_) fun _ _ e => e) fun _ _ e => e) hs
  exact for_code F J S2 (.refl _) h0 turn done

theorem callT_wp {id : Str} {p pos : Pos} {e : Expr} {rest : List Expr} {f : String} {R : PM → List Value → Prop} {Q : Value → Shared → Prop} {E : Value → Shared → Prop} (hs : Sub P s)
    (hf : Ev prog w A s P (eval (.Name id p) env) Ty.raw (.type f))
    (ha : EvL prog w A s P (spliced (backTo pos (starEach (e :: rest) env))) R)
    (hc : ∀ s1 P1 vs, Ext s P s1 P1 → R P1 vs → wpAny (model prog w) A (call (.type f) vs []) Q E s1)
    (he : starEach (e :: rest) env = (false, eval e env) :: starEach rest env := by rfl) (hp : (backTo pos (starEach (e :: rest) env)).any (·.1) = false := by rfl) :
    wpAny (model prog w) A (eval (.Call (.Name id p) (e :: rest) [] pos) env) Q E s :=
  wpAny_Call_NameR (hf.use hs fun v s2 P2 e2 r => by
    cases r
    refine PySem.callWith_type hp ?_
    have q : backTo pos (starEach (e :: rest) env) = (false, eval e env) :: backTo pos (starEach rest env) := by rw [he]; rfl
    rw [q]
    refine evalArgs_plain ?_
    rw [← q]
    exact ha.use e2 fun vs s3 P3 e3 r3 => hc s3 P3 vs (e2.trans e3) r3)

section
variable {K : Frag} {p : Program} {lo : List Str} {mg mb : Str → Option Value}
theorem range_small {a : Int} {n : Nat} (ha : 0 ≤ a) (hb : a + n ≤ 1000000000) : Builtin.Range.small a (a + n) 1 = true ∧ Builtin.Range.rangeSize a (a + n) 1 = n := by
  have e : Builtin.Range.rangeSize a (a + n) 1 = n := by
    unfold Builtin.Range.rangeSize
    rw [if_pos (by decide)]
    split <;> omega
  refine ⟨?_, e⟩
  unfold Builtin.Range.small
  rw [e]
  unfold Builtin.Range.rangeFitsLong
  simp only [Bool.and_eq_true, Bool.or_eq_true, decide_eq_true_eq, beq_iff_eq]
  refine ⟨⟨⟨⟨by omega, by omega⟩, by omega⟩, by omega⟩, .inr ?_⟩
  rw [if_pos (by decide)]
  simp only [Bool.and_eq_true, decide_eq_true_eq]
  omega
end
end
end VS

end PartV12

noncomputable section PartV13
namespace VS
open PySem PySem.Calls PySem.W PyProof.Rows

/-- one turn of a comprehension, whatever it does with what it takes -/
def turnForm (target iter : Expr) (ifs : List Expr) (it : Value) (env : Env) (act : Sem Fin) (c : Code) : Sem Fin := do
  standAt iter.pos
  match ← pyNext it with
  | none => pure (.done .next)
  | some v => do
    letOwnedTupleGo target it v
    assign target env v
    let mut ok := true
    for c in ifs do
      if ok then ok ← isTrue c env (eval c env)
    if ok then act else again c

theorem turn_one (elt target iter : Expr) (ifs : List Expr) (scope : Scope) (pos : Pos) (it acc : Value) (env : Env) :
    compTurn (.ListComp elt [⟨target, iter, ifs, 0⟩] scope pos) 0 it acc env =
      turnForm target iter ifs it env (do
        let _ ← (do let _ ← call (.builtin "list.append") [acc, ← eval elt env])
        again (.compLoop (.ListComp elt [⟨target, iter, ifs, 0⟩] scope pos) 0 it acc env)) (.compLoop (.ListComp elt [⟨target, iter, ifs, 0⟩] scope pos) 0 it acc env) := by rfl
theorem turn_set (elt target iter : Expr) (ifs : List Expr) (scope : Scope) (pos : Pos) (it acc : Value) (env : Env) :
    compTurn (.SetComp elt [⟨target, iter, ifs, 0⟩] scope pos) 0 it acc env =
      turnForm target iter ifs it env (do
        let _ ← (do let v ← eval elt env; standAt elt.pos; let _ ← call (.builtin "set.add") [acc, v])
        again (.compLoop (.SetComp elt [⟨target, iter, ifs, 0⟩] scope pos) 0 it acc env)) (.compLoop (.SetComp elt [⟨target, iter, ifs, 0⟩] scope pos) 0 it acc env) := by rfl
theorem turn_in (elt t1 i1 t2 i2 : Expr) (f1 f2 : List Expr) (scope : Scope) (pos : Pos) (it acc : Value) (env : Env) :
    compTurn (.ListComp elt [⟨t1, i1, f1, 0⟩, ⟨t2, i2, f2, 0⟩] scope pos) 1 it acc env =
      turnForm t2 i2 f2 it env (do
        let _ ← (do let _ ← call (.builtin "list.append") [acc, ← eval elt env])
        again (.compLoop (.ListComp elt [⟨t1, i1, f1, 0⟩, ⟨t2, i2, f2, 0⟩] scope pos) 1 it acc env)) (.compLoop (.ListComp elt [⟨t1, i1, f1, 0⟩, ⟨t2, i2, f2, 0⟩] scope pos) 1 it acc env) := by rfl
theorem turn_out (elt t1 i1 t2 i2 : Expr) (f1 f2 : List Expr) (scope : Scope) (pos : Pos) (it acc : Value) (env : Env) :
    compTurn (.ListComp elt [⟨t1, i1, f1, 0⟩, ⟨t2, i2, f2, 0⟩] scope pos) 0 it acc env =
      turnForm t1 i1 f1 it env (do
        let x ← eval i2 env
        standAt i2.pos
        let x ← foldedSetIterable i2 env x
        let _ ← runOwn (.compStart (.ListComp elt [⟨t1, i1, f1, 0⟩, ⟨t2, i2, f2, 0⟩] scope pos) 1 (← holding [x] (pyIter x)) acc env) env
        again (.compLoop (.ListComp elt [⟨t1, i1, f1, 0⟩, ⟨t2, i2, f2, 0⟩] scope pos) 0 it acc env)) (.compLoop (.ListComp elt [⟨t1, i1, f1, 0⟩, ⟨t2, i2, f2, 0⟩] scope pos) 0 it acc env) := by rfl

abbrev testsOf (ifs : List Expr) (env : Env) : Sem Bool := forIn ifs true fun c r => if r = true then do let ok ← isTrue c env (eval c env); pure (ForInStep.yield ok) else pure (ForInStep.yield r)

section
variable {prog : Program} {w : World} {A : Around} {env : Env} {α β γ : Type} {τ : Ty α} {σ : Ty β} {υ : Ty γ} {s₀ s : Shared} {P₀ P Ps : PM} {ρ : List (Str × Bd)} {O : List (Addr × Ob)}

theorem look_app {B ρ : List (Str × Bd)} {n : Str} {b : Bd} (hB : (B.all fun x => (ρ.lookup x.1).isNone) = true) (hb : ρ.lookup n = some b) : (B ++ ρ).lookup n = some b := by
  induction B with
  | nil => exact hb
  | cons x r ih =>
    obtain ⟨h1, h2⟩ := Bool.and_eq_true_iff.mp (by simpa using hB : ((ρ.lookup x.1).isNone && r.all fun x => (ρ.lookup x.1).isNone) = true)
    obtain ⟨y, c⟩ := x
    rw [List.cons_append, List.lookup_cons]
    cases q : n == y with
    | true =>
      have e := beq_iff_eq.mp q; subst e
      rw [hb] at h1; cases h1
    | false => exact ih h2
theorem St.unbind {cs : Str → Prop} {B : List (Str × Bd)} (S : St cs s₀ P₀ env (B ++ ρ) O s P) (hB : (B.all fun x => (ρ.lookup x.1).isNone) = true) : St cs s₀ P₀ env ρ O s P :=
  S.names fun n b hb => ⟨b, look_app hB hb, fun _ h => h⟩

theorem turn_wp {cs : Str → Prop} {W : List β → Ob} {it : Value} {target iter : Expr} {ifs : List Expr} {n : Nat} {B : Nat → List (Str × Bd)} {Own : Nat → List (Addr × Ob)} {act : Sem Fin} {c : Code} {D : Addr} {ys0 : List β} {g : Nat → List β} {R : Fin → Shared → Prop} {E : Value → Shared → Prop} {i : Nat}
    (F : Feed prog w A cs env Ps it target n B Own) (hle : PM.le Ps P) (hi : i ≤ n) (hB : (B i).all (fun x => (ρ.lookup x.1).isNone) = true)
    (S : St cs s₀ P₀ env ρ (Own i ++ (D, W (ys0 ++ (List.range i).flatMap g)) :: O) s P)
    (turn : ∀ ys s' P' its E, i < n → PM.le Ps P' → ys = ys0 ++ (List.range i).flatMap g → St cs s₀ P₀ env (B i ++ ρ) (its ++ (D, W ys) :: O) s' P' →
      wpAny (model prog w) A (testsOf ifs env) (fun ok s2 => if ok = true then wpAny (model prog w) A act (fun fin s3 => fin = .again c ∧ ∃ P3, PM.le P' P3 ∧ St cs s₀ P₀ env (B i ++ ρ) (its ++ (D, W (ys ++ g i)) :: O) s3 P3) E s2
        else g i = [] ∧ ∃ P3, PM.le P' P3 ∧ St cs s₀ P₀ env (B i ++ ρ) (its ++ (D, W ys) :: O) s2 P3) E s')
    (next : ∀ s' P', i < n → PM.le P P' → St cs s₀ P₀ env ρ (Own (i + 1) ++ (D, W (ys0 ++ (List.range (i + 1)).flatMap g)) :: O) s' P' → R (.again c) s')
    (done : ∀ s', i = n → St cs s₀ P₀ env ρ ((D, W (ys0 ++ (List.range n).flatMap g)) :: O) s' P → R (.done .next) s') :
    wpAny (model prog w) A (turnForm target iter ifs it env act c) R E s := by
  unfold turnForm
  refine wpAny_bind (wpAny_standAt ?_)
  by_cases hlt : i < n
  · refine wpAny_bind (wpAny_mono (F.turn s₀ P₀ ρ _ s P i _ hlt hle S) (fun r s1 ⟨v, hr, h⟩ => ?_) fun _ _ e => e)
    subst hr
    refine wpAny_bind (wpAny_mono h (fun _ s2 h => wpAny_bind (wpAny_mono h (fun _ s3 ⟨P3, l3, S3⟩ => ?_) fun _ _ e => e)) fun _ _ e => e)
    have e1 : ∀ a : List β, a ++ g i = a ++ g i := fun _ => rfl
    have hs : ys0 ++ (List.range (i + 1)).flatMap g = (ys0 ++ (List.range i).flatMap g) ++ g i := by
      rw [List.range_succ, List.flatMap_append, List.append_assoc]; simp
    refine wpAny_bind (wpAny_mono (turn _ s3 P3 (Own (i + 1)) _ hlt (hle.trans l3) rfl S3) (fun ok s4 h4 => ?_) fun _ _ e => e)
    cases ok with
    | false =>
      rw [if_neg Bool.false_ne_true] at h4 ⊢
      obtain ⟨hg, P4, l4, S4⟩ := h4
      refine wpAny_pure (next s4 P4 hlt (l3.trans l4) ?_)
      rw [hs, hg, List.append_nil]
      exact S4.unbind hB
    | true =>
      rw [if_pos rfl] at h4 ⊢
      refine wpAny_mono h4 (fun fin s5 ⟨hf, P5, l5, S5⟩ => ?_) fun _ _ e => e
      subst hf
      refine next s5 P5 hlt (l3.trans l5) ?_
      rw [hs]
      exact S5.unbind hB
  · have e : i = n := by omega
    subst e
    refine wpAny_bind (wpAny_mono (F.done s₀ P₀ ρ _ s P _ hle S) (fun r s1 ⟨hr, S1⟩ => ?_) fun _ _ e => e)
    subst hr
    exact wpAny_pure (done s1 rfl S1)
end

end VS

end PartV13

noncomputable section PartV14
namespace VS
open PySem PySem.Calls PySem.W PyProof.Rows

/-- objects made since -/
structure News (s s2 : Shared) (P2 : PM) (O1 : List (Addr × Ob)) : Prop where
  own : ∀ p ∈ O1, (∃ o, s2.heap.get? p.1 = some o ∧ p.2.rel P2 o) ∧ P2 p.1 = none ∧ s.heap.get? p.1 = none
  nodup : (O1.map (·.1)).Nodup

theorem no_at {h : Heap} {k : Addr} (hk : h.objs.size ≤ k) : h.get? k = none := by
  cases q : h.get? k with
  | none => rfl
  | some o => exact absurd (Heap.lt_size q) (Nat.not_lt.mpr hk)

section
variable {cs : Str → Prop} {s₀ s s' s2 : Shared} {P₀ P P2 : PM} {env : Env} {ρ : List (Str × Bd)} {O O1 : List (Addr × Ob)}
theorem St.adoptAll (S : St cs s₀ P₀ env ρ O s P) (e : Ext s P s2 P2) (N : News s s2 P2 O1) : St cs s₀ P₀ env ρ (O1 ++ O) s2 P2 := by
  have S1 := S.go e
  refine { S1 with own := fun p hp => ?_, nodup := ?_ }
  · rcases List.mem_append.mp hp with hp | hp
    · obtain ⟨h1, h2, h3⟩ := N.own p hp
      obtain ⟨_, g2, g3, g4, _⟩ := S.absent h3
      exact ⟨h1, h2, g2, g3, g4⟩
    · exact S1.own p hp
  · rw [List.map_append]
    refine List.nodup_append.mpr ⟨N.nodup, S1.nodup, fun a ha b hb e => ?_⟩
    obtain ⟨p, hp, rfl⟩ := List.mem_map.mp ha
    exact (S.absent (N.own p hp).2.2).2.2.2.2 (e ▸ hb)
theorem News.nil : News s s2 P2 [] := ⟨fun _ h => (nomatch h), .nil⟩
end

section
variable (prog : Program) (w : World)
/-- what an iterable gives a loop or a comprehension -/
def Src (A : Around) (env : Env) (iter : Expr) (s : Shared) (P : PM) (cs : Str → Prop) (env' : Addr → Env) (target : Expr) (n : Nat) (B : Nat → List (Str × Bd)) : Prop :=
  ∀ s1 P1 (Q : Value → Shared → Prop) (E : Value → Shared → Prop), Ext s P s1 P1 →
    (∀ it s3 P3 Own, Ext s1 P1 s3 P3 → News s1 s3 P3 (Own 0) → (∀ C, Feed prog w A cs (env' C) P3 it target n B Own) → Q it s3) →
    wpAny (model prog w) A (eval iter env) (fun x s2 => wpAny (model prog w) A (pyIter x) Q E s2) E s1
end

section
variable {prog : Program} {w : World} {A : Around} {cs : Str → Prop} {env : Env} {env' : Addr → Env} {α β γ : Type} {τ : Ty α} {σ : Ty β} {υ : Ty γ} {s₀ s : Shared} {P₀ P Ps : PM} {ρ : List (Str × Bd)} {O : List (Addr × Ob)}

theorem Src.list {iter target : Expr} {xs : List α} {B : Nat → List (Str × Bd)} (hh : A.handled = none) (h : Ev prog w A s P (eval iter env) (Ty.list τ) xs)
    (ha : ∀ C i x v P', xs[i]? = some x → τ.rel P' v x → Asg prog w A cs (env' C) target v P' (B i)) : Src prog w A env iter s P cs env' target xs.length B := fun s1 P1 Q E e k =>
  (h.mono e).use e.sub fun v s2 P2 e2 r => by
    obtain ⟨l, vs, n, rfl, hl, hp⟩ := Ty.seqAt r
    refine wpAny_pyIter_list ⟨_, e2.sub _ _ hl, rfl, n, rfl⟩ ?_
    refine k _ _ P2 (fun i => [(s2.heap.objs.size, Ob.listIter l i)]) (e2.trans (.heap e2.sub fun _ _ g => Heap.get?_push_of_some _ g)) ⟨fun p hp => ?_, by simp⟩ fun C => Feed.list hh hl hp fun i x v P' hx _ r => ha C i x v P' hx r
    cases List.mem_singleton.mp hp
    refine ⟨⟨_, Heap.get?_push_size _ rfl, rfl, rfl⟩, e2.sub.none (get?_size _), ?_⟩
    cases q : s1.heap.get? s2.heap.objs.size with
    | none => rfl
    | some o => have := e2.keep _ _ q; rw [get?_size] at this; cases this
theorem Src.tuple {iter target : Expr} {xs : List α} {B : Nat → List (Str × Bd)} (hh : A.handled = none) (h : Ev prog w A s P (eval iter env) (Ty.tuple τ) xs)
    (ha : ∀ C i x v P', xs[i]? = some x → τ.rel P' v x → Asg prog w A cs (env' C) target v P' (B i)) : Src prog w A env iter s P cs env' target xs.length B := fun s1 P1 Q E e k =>
  (h.mono e).use e.sub fun v s2 P2 e2 r => by
    obtain ⟨l, vs, n, rfl, hl, hp⟩ := Ty.seqAt r
    refine wpAny_pyIter_tuple ⟨_, e2.sub _ _ hl, rfl, n, rfl⟩ ?_
    refine k _ _ P2 (fun i => [(s2.heap.objs.size, Ob.tupIter l i)]) (e2.trans (.heap e2.sub fun _ _ g => Heap.get?_push_of_some _ g)) ⟨fun p hp => ?_, by simp⟩ fun C => Feed.tuple hh hl hp fun i x v P' hx _ r => ha C i x v P' hx r
    cases List.mem_singleton.mp hp
    refine ⟨⟨_, Heap.get?_push_size _ rfl, rfl, rfl⟩, e2.sub.none (get?_size _), ?_⟩
    cases q : s1.heap.get? s2.heap.objs.size with
    | none => rfl
    | some o => have := e2.keep _ _ q; rw [get?_size] at this; cases this
theorem gone {s1 s2 : Shared} {P1 P2 : PM} (e : Ext s1 P1 s2 P2) {a : Addr} (h : s2.heap.get? a = none) : s1.heap.get? a = none := by
  cases q : s1.heap.get? a with
  | none => rfl
  | some o => have := e.keep _ _ q; rw [h] at this; cases this

theorem Src.enum {e t2 : Expr} {x : Str} {np pos pp tp : Pos} {k : Nat} {xs : List α} {B : Nat → List (Str × Bd)} (hh : A.handled = none) (hf : Ev prog w A s P (eval (.Name "enumerate" np) env) Ty.raw (.type "enumerate"))
    (h : Ev prog w A s P (eval e env) (Ty.list τ) xs) (hk : ∀ C, Storable cs (env' C) x) (ha : ∀ C i x v P', xs[i]? = some x → τ.rel P' v x → Asg prog w A cs (env' C) t2 v P' (B i))
    (he : starEach [e] env = (false, eval e env) :: starEach [] env := by rfl) (hp : (backTo pos (starEach [e] env)).any (·.1) = false := by rfl)
    (hee : ∀ C, assignEach [.Name x pp, t2] (env' C) = [(false, assign (.Name x pp) (env' C)), (false, assign t2 (env' C))] := by intro C; rfl) :
    Src prog w A env (.Call (.Name "enumerate" np) [e] [] pos) s P cs env' (.Tuple [.Name x pp, t2] k tp) xs.length (fun i => B i ++ [(x, Ty.int.at (i : Int))]) := fun s0 P0 Q E e0 kk => by
  refine callT_wp e0.sub (hf.mono e0) (EvL.cons (h.mono e0) EvL.nil he) (fun s1 P1 vs e1 ⟨v, r, hv, rv, hr⟩ => ?_) he hp
  subst hv; cases hr
  obtain ⟨l, vs, n, rfl, hl, hpr⟩ := Ty.seqAt rv
  refine call_enumerate_list ⟨_, e1.sub _ _ hl, rfl, n, rfl⟩ fun h' he hit hsz hk' => ?_
  obtain ⟨o2, ho2, hc2, hd2⟩ := hit
  have n1 : s1.heap.get? (s1.heap.objs.size + 1) = none := no_at (Nat.le_succ _)
  refine wpAny_pyIter_enum (i := 0) he (kk _ _ P1 (fun i => [(s1.heap.objs.size + 1, Ob.enum s1.heap.objs.size i), (s1.heap.objs.size, Ob.listIter l i)]) (e1.trans (.heap e1.sub hk')) ⟨fun p hp => ?_, ?_⟩ fun C => Feed.enum hh hl hpr (hk C) (fun i x v P' hx _ r => ha C i x v P' hx r) (hee C))
  · rcases List.mem_cons.mp hp with rfl | hp
    · exact ⟨⟨_, he, _, rfl⟩, e1.sub.none n1, gone e1 n1⟩
    · cases List.mem_singleton.mp hp
      exact ⟨⟨_, ho2, hc2, hd2⟩, e1.sub.none (get?_size _), gone e1 (get?_size _)⟩
  · simp

theorem Src.range1 {e : Expr} {x : Str} {np pos xp : Pos} {n : Nat} (hh : A.handled = none) (hf : Ev prog w A s P (eval (.Name "range" np) env) Ty.raw (.type "range")) (h : Ev prog w A s P (eval e env) Ty.int (n : Int)) (hn : (n : Int) ≤ 1000000000)
    (hk : ∀ C, Storable cs (env' C) x)
    (he : starEach [e] env = (false, eval e env) :: starEach [] env := by rfl) (hp : (backTo pos (starEach [e] env)).any (·.1) = false := by rfl) :
    Src prog w A env (.Call (.Name "range" np) [e] [] pos) s P cs env' (.Name x xp) n (fun i => [(x, Ty.int.at (i : Int))]) := fun s0 P0 Q E e0 kk => by
  refine callT_wp e0.sub (hf.mono e0) (EvL.cons (h.mono e0) EvL.nil he) (fun s1 P1 vs e1 ⟨v, r, hv, ⟨t, rv⟩, hr⟩ => ?_) he hp
  subst hv; cases hr; subst rv
  obtain ⟨h1, h2⟩ := range_small (a := 0) (n := n) (by omega) (by omega)
  rw [Int.zero_add] at h1 h2
  refine call_range_1 ?_
  refine wpAny_pyIter_range (IsRange.new ..) h1 ?_
  rw [h2]
  have e2 := e1.trans (Ext.heap (h' := s1.heap.push { cls := .type "range", data := .fields #[.int 0 s1.toks, .int n t, .int 1 (s1.toks + 1)] }) (tk := s1.toks + 1 + 1) e1.sub fun _ _ e => Heap.get?_push_of_some _ e)
  refine kk _ _ P1 (fun i => [((s1.heap.push { cls := .type "range", data := .fields #[.int 0 s1.toks, .int n t, .int 1 (s1.toks + 1)] }).objs.size, Ob.rangeIter i (n - i))]) (e2.trans (.heap e2.sub fun _ _ g => Heap.get?_push_of_some _ g)) ⟨fun p hp => ?_, by simp⟩ fun C => ?_
  · cases List.mem_singleton.mp hp
    exact ⟨⟨_, Heap.get?_push_size _ rfl, by simp [Ob.rangeIter, Ob.exact]⟩, e2.sub.none (get?_size _), gone e2 (get?_size _)⟩
  · have F := Feed.range (prog := prog) (w := w) (Ps := P1) (I := (s1.heap.push { cls := .type "range", data := .fields #[.int 0 s1.toks, .int n t, .int 1 (s1.toks + 1)] }).objs.size) (a := 0) (n := n) (pos := xp) hh (hk C)
    simp only [Int.zero_add] at F
    exact F
theorem Src.range2 {e1 e2 : Expr} {x : Str} {np pos xp : Pos} {a : Int} {n : Nat} (hh : A.handled = none) (hf : Ev prog w A s P (eval (.Name "range" np) env) Ty.raw (.type "range")) (h1 : Ev prog w A s P (eval e1 env) Ty.int a) (h2 : Ev prog w A s P (eval e2 env) Ty.int (a + n))
    (ha : 0 ≤ a) (hn : a + n ≤ 1000000000) (hk : ∀ C, Storable cs (env' C) x)
    (he1 : starEach [e1, e2] env = (false, eval e1 env) :: starEach [e2] env := by rfl) (he2 : starEach [e2] env = (false, eval e2 env) :: starEach [] env := by rfl) (hp : (backTo pos (starEach [e1, e2] env)).any (·.1) = false := by rfl) :
    Src prog w A env (.Call (.Name "range" np) [e1, e2] [] pos) s P cs env' (.Name x xp) n (fun i => [(x, Ty.int.at (a + i))]) := fun s0 P0 Q E e0 kk => by
  refine callT_wp e0.sub (hf.mono e0) (EvL.cons (h1.mono e0) (EvL.cons (h2.mono e0) EvL.nil he2) he1) (fun s1 P1 vs e1 ⟨v, r, hv, ⟨t, rv⟩, v2, r2, hv2, ⟨t2, rv2⟩, hr⟩ => ?_) he1 hp
  subst hv; subst hv2; cases hr; subst rv; subst rv2
  obtain ⟨g1, g2⟩ := range_small ha hn
  refine call_range_2 ?_
  refine wpAny_pyIter_range (IsRange.new ..) g1 ?_
  rw [g2]
  have e2 := e1.trans (Ext.heap (h' := s1.heap.push { cls := .type "range", data := .fields #[.int a t, .int (a + n) t2, .int 1 s1.toks] }) (tk := s1.toks + 1) e1.sub fun _ _ e => Heap.get?_push_of_some _ e)
  refine kk _ _ P1 (fun i => [((s1.heap.push { cls := .type "range", data := .fields #[.int a t, .int (a + n) t2, .int 1 s1.toks] }).objs.size, Ob.rangeIter (a + i) (n - i))]) (e2.trans (.heap e2.sub fun _ _ g => Heap.get?_push_of_some _ g)) ⟨fun p hp => ?_, by simp⟩ fun C => Feed.range hh (hk C)
  cases List.mem_singleton.mp hp
  exact ⟨⟨_, Heap.get?_push_size _ rfl, by simp [Ob.rangeIter, Ob.exact]⟩, e2.sub.none (get?_size _), gone e2 (get?_size _)⟩

theorem St.forS {target iter : Expr} {body : List Stmt} {pos : Pos} {n : Nat} {B : Nat → List (Str × Bd)} {Q : Flow → Shared → Prop} {E : Value → Shared → Prop} (S : St cs s₀ P₀ env ρ O s P)
    (h : Src prog w A env iter s P cs (fun _ => env) target n B) (J : Nat → List (Str × Bd) → List (Addr × Ob) → Prop) (h0 : J 0 ρ O)
    (turn : ∀ i ρ O s' P' its E, i < n → PM.le P P' → J i ρ O → St cs s₀ P₀ env (B i ++ ρ) (its ++ O) s' P' →
          wpAny (model prog w) A (execs body env) (fun f s' => match f with
            | .next | .cont => ∃ ρ' O' P'', PM.le P' P'' ∧ St cs s₀ P₀ env ρ' (its ++ O') s' P'' ∧ J (i + 1) ρ' O'
            | .brk => Q .next s'
            | .ret v => Q (.ret v) s') E s')
    (done : ∀ ρ O s P', PM.le P P' → J n ρ O → St cs s₀ P₀ env ρ O s P' → Q .next s)
    (hs : ∀ x, foldedSetIterable iter env x = pure x := by intro _; rfl) : wpAny (model prog w) A (exec (.For target iter body [] pos) env) Q E s :=
  S.for (h _ _ _ _ (.refl S.sub) fun it s3 P3 Own e N F => ⟨P3, n, B, Own, e.le, F 0, S.adoptAll e N, J, h0, fun i ρ O s P its E hi l j S => turn i ρ O s P its E hi (e.le.trans l) j S, fun ρ O s P l j S => done ρ O s P (e.le.trans l) j S⟩) hs
end
end VS

end PartV14

noncomputable section PartV15
namespace VS
open PySem PySem.Calls PySem.W PyProof.Rows

def compE (scope : Scope) (cl : List (Str × Addr)) (env : Env) (C : Addr) : Env :=
  { scope := relabel scope env, locals := C, globals := env.globals, cells := cellsFrom (C + 1) scope.names cl, qual := env.qual, func := none, code := env.code, frame := env.frame, builtins := env.builtins }
/-- what a comprehension's frame captures -/
def capt (cl : List (Str × Addr)) (ρ : List (Str × Bd)) : List (Str × Bd) := cl.filterMap fun p => (ρ.lookup p.1).map (p.1, ·)
abbrev ownCells (scope : Scope) : Str → Prop := fun n => scope.names.lookup n = some .cell

theorem capt_lookup : ∀ {cl : List (Str × Addr)} {ρ : List (Str × Bd)} {n : Str} {b : Bd}, (capt cl ρ).lookup n = some b → (∃ c, (n, c) ∈ cl) ∧ ρ.lookup n = some b
  | [], ρ, n, b, h => by cases h
  | (k, c) :: r, ρ, n, b, h => by
    unfold capt at h
    rw [List.filterMap_cons] at h
    cases q : ρ.lookup k with
    | none =>
      rw [q] at h
      obtain ⟨⟨c', hc'⟩, e⟩ := capt_lookup (cl := r) h
      exact ⟨⟨c', .tail _ hc'⟩, e⟩
    | some b' =>
      rw [q] at h
      simp only [Option.map_some] at h
      rw [List.lookup_cons] at h
      cases z : n == k with
      | true =>
        rw [z] at h; cases h
        have e := beq_iff_eq.mp z; subst e
        exact ⟨⟨c, .head _⟩, q⟩
      | false =>
        rw [z] at h
        obtain ⟨⟨c', hc'⟩, e⟩ := capt_lookup (cl := r) h
        exact ⟨⟨c', .tail _ hc'⟩, e⟩

theorem cellsFrom_app : ∀ (names : List (Str × NameKind)) (n : Nat) (acc : List (Str × Addr)), cellsFrom n names acc = cellsFrom n names [] ++ acc
  | [], _, _ => rfl
  | (name, kind) :: r, n, acc => by
    unfold cellsFrom
    split
    · rw [cellsFrom_app r (n + 1) ((name, n) :: acc), cellsFrom_app r (n + 1) [(name, n)], List.append_assoc]; rfl
    · exact cellsFrom_app r n acc
theorem cellsFrom_kind : ∀ (names : List (Str × NameKind)) (n : Nat) (m : Str) (c : Addr), (m, c) ∈ cellsFrom n names [] → (m, NameKind.cell) ∈ names
  | [], _, _, _, h => by cases h
  | (name, kind) :: r, n, m, c, h => by
    unfold cellsFrom at h
    split at h
    · rename_i hk
      rw [cellsFrom_app] at h
      rcases List.mem_append.mp h with h | h
      · exact .tail _ (cellsFrom_kind r _ _ _ h)
      · cases List.mem_singleton.mp h
        cases kind <;> first | exact .head _ | (exact absurd hk (by decide))
    · exact .tail _ (cellsFrom_kind r _ _ _ h)
theorem lookup_mem_nodup {α : Type} : ∀ {l : List (Str × α)} {n : Str} {c : α}, (l.map (·.1)).Nodup → (n, c) ∈ l → l.lookup n = some c
  | [], _, _, _, h => by cases h
  | (k, d) :: r, n, c, nd, h => by
    obtain ⟨n1, n2⟩ := List.nodup_cons.mp nd
    rw [List.lookup_cons]
    rcases List.mem_cons.mp h with h | h
    · cases h; rw [beq_self_eq_true]
    · cases q : n == k with
      | true => exact absurd (List.mem_map.mpr ⟨_, h, beq_iff_eq.mp q⟩) n1
      | false => exact lookup_mem_nodup n2 h

theorem look_right {α : Type} : ∀ {l r : List (Str × α)} {n : Str} {c : α}, l.lookup n = none → r.lookup n = some c → (l ++ r).lookup n = some c
  | [], _, _, _, _, h => h
  | (k, d) :: l, r, n, c, h1, h2 => by
    rw [List.lookup_cons] at h1
    rw [List.cons_append, List.lookup_cons]
    cases q : n == k with
    | true => rw [q] at h1; cases h1
    | false => rw [q] at h1; exact look_right h1 h2
structure CompOk (scope : Scope) (env : Env) (cl : List (Str × Addr)) : Prop where
  clos : closureFor scope env = pure cl
  kind : scope.kind = .function
  names : ∀ x ∈ scope.names, x.2 = .local → scope.names.lookup x.1 = some .local
  look : cl.map (fun p => env.cells.lookup p.1) = cl.map (fun p => some p.2)
  nd : nodupB (cl.map (·.1)) = true
  ndn : nodupB (scope.names.map (·.1)) = true
  out : (cl.all fun p => env.kindOf p.1 == some .cell || env.kindOf p.1 == some .free) = true
  inn : (cl.all fun p => (relabel scope env).names.lookup p.1 == some .cell || (relabel scope env).names.lookup p.1 == some .free) = true
  non : (cl.all fun p => scope.names.lookup p.1 == some .free) = true

theorem ne_local {k : Option NameKind} (h : (k == some .cell || k == some .free) = true) : k = some .cell ∨ k = some .free := by
  rcases Bool.or_eq_true_iff.mp h with h | h
  · exact .inl (by simpa using h)
  · exact .inr (by simpa using h)

section
variable {M : Model} {A : Around} {E : Value → Shared → Prop} {s1 s2 : Shared} {P1 P2 : PM} {env : Env} {ρ : List (Str × Bd)} {O1 : List (Addr × Ob)} {scope : Scope} {cl : List (Str × Addr)}

theorem pushCells_size : ∀ (names : List (Str × NameKind)) (h : Heap), h.objs.size ≤ (pushCells h names).objs.size
  | [], _ => Nat.le_refl _
  | (_, kind) :: r, h => by
    unfold pushCells
    split
    · exact Nat.le_trans (by rw [Heap.size_push]; exact Nat.le_succ _) (pushCells_size r _)
    · exact pushCells_size r h

theorem comp_frame {o : Obj} {b : Ob} {R : Env → Shared → Prop} (H : CompOk scope env cl) (F : FS env ρ s1.heap P1) (hs : Sub P1 s1) (e : Ext s1 P1 s2 P2) (N : News s1 s2 P2 O1) (hf : o.isFreed = false) (hb : b.rel P2 o)
    (k : ∀ s4, St (ownCells scope) s1 P1 (compE scope cl env (s2.heap.push o).objs.size) (capt cl ρ) (O1 ++ [(s2.heap.objs.size, b)]) s4 P2 → R (compE scope cl env (s2.heap.push o).objs.size) s4) :
    wpAny M A (newFunctionEnv scope env.globals cl [] env.qual none .none (some env)) (fun cenv s4 => R { cenv with scope := relabel scope env } s4) E { s2 with heap := s2.heap.push o } := by
  simp only [newFunctionEnv, Option.isSome_some, if_true]
  refine wpAny_bind (wpAny_alloc ?_)
  refine wpAny_bind (wpAny_layCells _ (fun name kind cells => by cases hkc : kind == NameKind.cell <;> simp [hkc]) _ _ _ _ ?_)
  revert k
  generalize hH : s2.heap.push o = H3
  intro k
  generalize hD : (({ cls := .type "dict", data := .dict #[] } : Obj)) = dO
  have fO : dO.isFreed = false := by rw [← hD]; rfl
  have sz : (H3.push dO).objs.size = H3.objs.size + 1 := Heap.size_push ..
  have sz3 : H3.objs.size = s2.heap.objs.size + 1 := by rw [← hH]; exact Heap.size_push ..
  have ok := cellsFrom_ok scope.names (H3.push dO) (H3.objs.size + 1) [] ⟨fun _ _ hm => (nomatch hm), List.Pairwise.nil⟩ (by rw [sz]; exact Nat.le_refl _)
  rw [sz] at ok
  simp only [List.forIn_nil]
  refine wpAny_bind (wpAny_pure (wpAny_pure ?_))
  dsimp only
  rw [sz]
  have kp3 : ∀ a o', s2.heap.get? a = some o' → H3.get? a = some o' := fun a o' h => hH ▸ Heap.get?_push_of_some _ h
  have kp4 : ∀ a o', H3.get? a = some o' → (pushCells (H3.push dO) scope.names).get? a = some o' := fun a o' h => pushCells_keeps _ _ _ _ (Heap.get?_push_of_some _ h)
  have kp : ∀ a o', s2.heap.get? a = some o' → (pushCells (H3.push dO) scope.names).get? a = some o' := fun a o' h => kp4 a o' (kp3 a o' h)
  have e4 : Ext s1 P1 { s2 with heap := pushCells (H3.push dO) scope.names } P2 := e.trans (.heap (tk := s2.toks) e.sub kp)
  have nC2 : s2.heap.get? H3.objs.size = none := no_at (by rw [sz3]; exact Nat.le_succ _)
  have nC1 := gone e nC2
  have nD2 := get?_size s2.heap
  have nD1 := gone e nD2
  have new2 : ∀ n c, (n, c) ∈ cellsFrom (H3.objs.size + 1) scope.names [] → s2.heap.get? c = none := fun n c hc => no_at (Nat.le_trans (by rw [sz3]; exact Nat.le_trans (Nat.le_succ _) (Nat.le_succ _)) (ok.empty n c hc).2)
  have cut : ∀ n c, (n, c) ∈ cellsFrom (H3.objs.size + 1) scope.names cl → (n, c) ∈ cellsFrom (H3.objs.size + 1) scope.names [] ∨ (n, c) ∈ cl := fun n c h => by
    rw [cellsFrom_app] at h; exact List.mem_append.mp h
  have inOut : ∀ n c, (n, c) ∈ cl → env.cells.lookup n = some c := fun n c hc => by
    have := List.map_inj_left.mp H.look (n, c) hc
    exact this
  have old : ∀ n c, (n, c) ∈ cl → ∃ v, s1.heap.IsCell c v := fun n c hc => F.cells n c (mem_of_lookup (inOut n c hc))
  have old1 : ∀ n c, (n, c) ∈ cl → ∃ o', s1.heap.get? c = some o' := fun n c hc => let ⟨v, hv⟩ := old n c hc; Heap.IsCell.some hv
  have notCell : ∀ n c c', (n, c) ∈ cl → (n, c') ∈ cellsFrom (H3.objs.size + 1) scope.names [] → False := fun n c c' h1 h2 => by
    have z := lookup_mem_nodup (nodup_of H.ndn) (cellsFrom_kind _ _ _ _ h2)
    have y := List.all_eq_true.mp H.non _ h1
    rw [z] at y
    exact absurd y (by decide)
  have lk : ∀ n c, (n, c) ∈ cl → (cellsFrom (H3.objs.size + 1) scope.names cl).lookup n = some c := fun n c hc => by
    rw [cellsFrom_app]; refine look_right ?_ (lookup_mem_nodup (nodup_of H.nd) hc)
    cases q : (cellsFrom (H3.objs.size + 1) scope.names []).lookup n with
    | none => rfl
    | some c' => exact (notCell n c c' hc (mem_of_lookup q)).elim
  refine k _ ?_
  exact {
    ext := e4
    fs := {
      kind := H.kind
      ns := ⟨fun _ => none, (by have := Heap.Ns.new H3 (.type "dict"); rw [hD] at this; exact this.keeps (pushCells_keeps _ _)), fun n b' hb' hk => by
        obtain ⟨⟨c, hc⟩, _⟩ := capt_lookup hb'
        have q := List.all_eq_true.mp H.inn _ hc
        have hk' : (relabel scope env).names.lookup n = some .local := hk
        rcases ne_local q with q | q
        · rw [show ((n, c) : Str × Addr).1 = n from rfl, hk'] at q; cases q
        · rw [show ((n, c) : Str × Addr).1 = n from rfl, hk'] at q; cases q⟩
      cells := fun n c hc => by
        rcases cut n c hc with h | h
        · exact ⟨_, (ok.empty n c h).1⟩
        · obtain ⟨v, hv⟩ := old n c h
          exact ⟨v, hv.keeps e4.keep⟩
      cell := fun n b' hb' hk => by
        obtain ⟨⟨c, hc⟩, hρ⟩ := capt_lookup hb'
        obtain ⟨c', v, h1, h2, h3⟩ := F.cell n b' hρ (ne_local (List.all_eq_true.mp H.out _ hc))
        rw [inOut n c hc] at h1; cases h1
        exact ⟨c, v, lk n c hc, h2.keeps e4.keep, b'.mono e4.le h3⟩
      apart := by
        show (cellsFrom (H3.objs.size + 1) scope.names cl).Pairwise _
        rw [cellsFrom_app]
        refine List.pairwise_append.mpr ⟨ok.apart, ?_, fun x hx y hy q => ?_⟩
        · refine (List.pairwise_map.mp (nodup_of H.nd)).imp_of_mem fun {x y} hx hy hne q => hne ?_
          exact name_of_addr F.apart (mem_of_lookup (inOut x.1 x.2 hx)) (q ▸ mem_of_lookup (inOut y.1 y.2 hy))
        · obtain ⟨o', ho'⟩ := old1 y.1 y.2 hy
          have := gone e (new2 x.1 x.2 hx)
          rw [q, ho'] at this; cases this
      off := fun n c hc q => by
        rcases cut n c hc with h | h
        · have := (ok.empty n c h).2
          rw [q] at this
          exact Nat.lt_irrefl _ this
        · obtain ⟨o', ho'⟩ := old1 n c h
          rw [q, show (compE scope cl env H3.objs.size).locals = H3.objs.size from rfl, nC1] at ho'; cases ho'
      pl := e.sub.none nC2
      pc := fun n c hc => by
        rcases cut n c hc with h | h
        · exact e.sub.none (new2 n c h)
        · cases q : P2 c with
          | none => rfl
          | some o' => rcases e.fresh _ _ q with z | z
                       · rw [F.pc n c (mem_of_lookup (inOut n c h))] at z; cases z
                       · obtain ⟨o'', ho''⟩ := old1 n c h
                         rw [ho''] at z; cases z }
    newL := nC1
    newC := fun n c hcs hc => by
      rcases cut n c hc with h | h
      · exact gone e (new2 n c h)
      · have y := List.all_eq_true.mp H.non _ h
        have z : scope.names.lookup n = some .cell := hcs
        rw [show ((n, c) : Str × Addr).1 = n from rfl, z] at y
        exact absurd y (by decide)
    own := fun p hp => by
      have offc : ∀ a, s1.heap.get? a = none → (∃ o', H3.get? a = some o') → ∀ n c, (n, c) ∈ cellsFrom (H3.objs.size + 1) scope.names cl → a ≠ c := fun a h1 ⟨o', h2⟩ n c hc q => by
        rcases cut n c hc with h | h
        · have := Nat.lt_of_lt_of_le (Nat.lt_succ_of_lt (Heap.lt_size h2)) (ok.empty n c h).2
          rw [q] at this
          exact Nat.lt_irrefl _ this
        · obtain ⟨o'', ho''⟩ := old1 n c h
          rw [q, ho''] at h1; cases h1
      have offl : ∀ a, (∃ o', H3.get? a = some o') → a ≠ H3.objs.size := fun a ⟨o', h2⟩ q => Nat.lt_irrefl _ (q ▸ Heap.lt_size h2)
      rcases List.mem_append.mp hp with hp | hp
      · obtain ⟨⟨o', h1, h2⟩, h3, h4⟩ := N.own p hp
        exact ⟨⟨o', kp _ _ h1, h2⟩, h3, h4, offl _ ⟨o', kp3 _ _ h1⟩, offc _ h4 ⟨o', kp3 _ _ h1⟩⟩
      · cases List.mem_singleton.mp hp
        have hd : H3.get? s2.heap.objs.size = some o := hH ▸ Heap.get?_push_size _ hf
        exact ⟨⟨o, kp4 _ _ hd, hb⟩, e.sub.none nD2, nD1, offl _ ⟨o, hd⟩, offc _ nD1 ⟨o, hd⟩⟩
    nodup := by
      rw [List.map_append]
      refine List.nodup_append.mpr ⟨N.nodup, by simp, fun a ha b' hb' q => ?_⟩
      obtain ⟨p, hp, rfl⟩ := List.mem_map.mp ha
      obtain ⟨⟨o', h1, _⟩, _⟩ := N.own p hp
      cases List.mem_singleton.mp hb'
      rw [show p.1 = s2.heap.objs.size from q, nD2] at h1; cases h1 }
end
end VS

end PartV15

noncomputable section PartV16
namespace VS
open PySem PySem.Calls PySem.W PyProof.Rows

section
variable (prog : Program) (w : World)
/-- what a comprehension gives, before its frame is let go -/
def Comp {α : Type} (A : Around) (s : Shared) (P : PM) (t : Option (Value → Sem Unit) → Sem Value) (τ : Ty α) (y : α) : Prop :=
  ∀ use s1 P1 (Q : Value → Shared → Prop) (E : Value → Shared → Prop), Ext s P s1 P1 →
    (∀ v C s' P', Ext s1 P1 s' P' → τ.rel P' v y → s1.heap.get? C = none → P' C = none → (∃ m, s'.heap.Ns C m) → compPost (model prog w) A E use Q v C (.ok .next) s') →
    wpAny (model prog w) A (t use) Q E s1
end

section
variable {prog : Program} {w : World} {A : Around} {cs : Str → Prop} {env : Env} {α β γ : Type} {τ : Ty α} {σ : Ty β} {υ : Ty γ} {s₀ s : Shared} {P₀ P Ps : PM} {ρ : List (Str × Bd)} {O : List (Addr × Ob)}

theorem Comp.ev {t : Option (Value → Sem Unit) → Sem Value} {y : α} (h : Comp prog w A s P t τ y) : Ev prog w A s P (t none) τ y := fun s1 P1 e =>
  h none s1 P1 _ _ e fun v C s' P' e' r hC hP ⟨m, hm⟩ => ⟨m, hm, fun h' hs' => ⟨P', {
    keep := fun a o ha => (hs'.2 a fun q => by rw [q, hC] at ha; cases ha).trans (e'.keep a o ha)
    le := e'.le
    fresh := e'.fresh
    sub := fun a o ha => (hs'.2 a fun q => by rw [q, hP] at ha; cases ha).trans (e'.sub a o ha)
    gens := e'.gens
    os := e'.os }, r⟩⟩

def Ob.ns (C : Addr) : Ob := ⟨fun _ o => ∀ h : Heap, h.get? C = some o → ∃ m, h.Ns C m, fun _ h => h⟩
theorem Ob.ns_of {P : PM} {h : Heap} {C : Addr} {m : Str → Option Value} {o : Obj} (hm : h.Ns C m) (ho : h.get? C = some o) : (Ob.ns C).rel P o := fun h' h1 => by
  obtain ⟨o', es, ep, h2, r⟩ := hm
  rw [ho] at h2; cases h2
  exact ⟨m, _, es, ep, h1, r⟩

/-- a name is given a comprehension's value -/
theorem St.assignComp {x : Str} {elt : Expr} {gens : List Comprehension} {scope : Scope} {cpos xp pos : Pos} {y : α} {Q : Flow → Shared → Prop} {E : Value → Shared → Prop} (S : St cs s₀ P₀ env ρ O s P)
    (h : Comp prog w A s P (fun use => comprehension (.ListComp elt gens scope cpos) scope env (firstIterPos gens cpos) (newList []) (firstAsync gens) (firstIter gens env) use) τ y)
    (hk : Storable cs env x)
    (k : ∀ s' P', PM.le P P' → St cs s₀ P₀ env ((x, τ.at y) :: ρ) O s' P' → Q .next s')
    (hsw : swapsWith (.ListComp elt gens scope cpos) (some (.Name x xp)) pos.line env = pure true := by rfl) :
    wpAny (model prog w) A (exec (.Assign [.Name x xp] (.ListComp elt gens scope cpos) pos) env) Q E s := by
  rw [exec_Assign_Name_used _ _ _ _ hsw]
  refine wpAny_bind (wpAny_standAt ?_)
  refine wpAny_bind ?_
  unfold evalThenUse
  refine wpAny_bind (h _ s P _ _ (.refl S.sub) fun v C s1 P1 e1 r hC hP ⟨m, hm⟩ => ?_)
  show wpAny _ _ (PySem.assign (.Name x xp) env v) _ _ s1
  obtain ⟨o, ho⟩ := Heap.Ns.some hm
  have S1 := S.adopt (b := Ob.ns C) e1 hC ho hP (Ob.ns_of hm ho)
  refine wpAny_assign_Name (S1.store (b := τ.at y) r hk fun s2 S2 => ?_)
  obtain ⟨o2, ho2, h2, _⟩ := S2.obj
  obtain ⟨m2, hm2⟩ := h2 _ ho2
  refine ⟨m2, hm2, fun h' hs' => wpAny_pure (wpAny_pure (k _ P1 e1.le ?_))⟩
  exact S2.leave (tk := s2.toks) fun c o hne e => (hs'.2 c hne).trans e

theorem comp_core {W : List β → Ob} {e target iter : Expr} {ifs : List Expr} {gs : List Comprehension} {scope : Scope} {cl : List (Str × Addr)} {pos : Pos} {n : Nat} {B : Nat → List (Str × Bd)} {g : Nat → List β} {newAcc : Sem Value} {o : Obj} {y : α} {act : Addr → Value → Value → Sem Fin}
    (hcl : clausesOf e = ⟨target, iter, ifs, 0⟩ :: gs) (H : CompOk scope env cl) (F : FS env ρ s.heap P) (src : Src prog w A env iter s P (ownCells scope) (compE scope cl env) target n B)
    (hacc : ∀ (s : Shared) (Q : Value → Shared → Prop) (E : Value → Shared → Prop), Q (.ref s.heap.objs.size) { s with heap := s.heap.push o } → wpAny (model prog w) A newAcc Q E s) (hf : o.isFreed = false) (hb : ∀ P, (W []).rel P o)
    (hstart : ∀ (it acc : Value) (env : Env) (s : Shared) (R : Result → Shared → Prop), codeAny (model prog w) A (.compLoop e 0 it acc env) R s → wpAny (model prog w) A (pyIter it) (fun it' s' => codeAny (model prog w) A (.compLoop e 0 it' acc env) R s') (notedBy (model prog w) A env fun x s' => R (.error x) s') s →
      codeAny (model prog w) A (.compStart e 0 it acc env) R s)
    (hturn : ∀ C it acc, compTurn e 0 it acc (compE scope cl env C) = turnForm target iter ifs it (compE scope cl env C) (act C it acc) (.compLoop e 0 it acc (compE scope cl env C)))
    (hB : ∀ i, i < n → ((B i).all fun x => ((capt cl ρ).lookup x.1).isNone) = true)
    (turn : ∀ C it D i ys s1 P1 s' P' its E, i < n → Ext s P s1 P1 → Ext s P s' P' → ys = (List.range i).flatMap g → St (ownCells scope) s1 P1 (compE scope cl env C) (B i ++ capt cl ρ) (its ++ [(D, W ys)]) s' P' →
      wpAny (model prog w) A (testsOf ifs (compE scope cl env C)) (fun ok s2 => if ok = true then wpAny (model prog w) A (act C it (.ref D)) (fun fin s3 => fin = .again (.compLoop e 0 it (.ref D) (compE scope cl env C)) ∧ ∃ P3, PM.le P' P3 ∧ St (ownCells scope) s1 P1 (compE scope cl env C) (B i ++ capt cl ρ) (its ++ [(D, W (ys ++ g i))]) s3 P3) E s2
        else g i = [] ∧ ∃ P3, PM.le P' P3 ∧ St (ownCells scope) s1 P1 (compE scope cl env C) (B i ++ capt cl ρ) (its ++ [(D, W ys)]) s2 P3) E s')
    (hfin : ∀ P o D, (W ((List.range n).flatMap g)).rel P o → P D = none → τ.rel (P.put D o) (.ref D) y)
    (hden : ∀ (it acc : Value) (env : Env), A.under (.compLoop e 0 it acc env) = A ∧ (model prog w).den (.compLoop e 0 it acc env) = (compTurn e 0 it acc env).onRaise (fun x => do noteFrame x env; theTreesLotGoes x))
    (hs : ∀ x, foldedSetIterable iter env x = pure x := by intro _; rfl) :
    Comp prog w A s P (fun use => comprehension e scope env pos newAcc false (eval iter env) use) τ y := by
  intro use s1 P1 Q E e1 fin
  refine wpAny_comprehension_free hcl hs H.clos H.kind H.names ?_
  refine src s1 P1 _ _ e1 fun it s3 P3 Own e3 N Fd => ?_
  refine hacc _ _ _ ?_
  refine comp_frame (b := W []) (R := fun cenv s4 => codeAny (model prog w) A (.compStart e 0 it (.ref s3.heap.objs.size) cenv) (compPost (model prog w) A E use Q (.ref s3.heap.objs.size) cenv.locals) s4) H (F.ext e1) e1.sub e3 N hf (hb _) fun s4 S4 => ?_
  generalize (s3.heap.push o).objs.size = C at S4 ⊢
  generalize s3.heap.objs.size = D at S4 ⊢
  have loop : ∀ s4, St (ownCells scope) s1 P1 (compE scope cl env C) (capt cl ρ) (Own 0 ++ [(D, W [])]) s4 P3 → codeAny (model prog w) A (.compLoop e 0 it (.ref D) (compE scope cl env C)) (compPost (model prog w) A E use Q (.ref D) C) s4 := by
    intro s4 S4
    refine codeAny_loop rfl (fun k s' => ∃ i P', k = n - i ∧ i ≤ n ∧ PM.le P3 P' ∧ St (ownCells scope) s1 P1 (compE scope cl env C) (capt cl ρ) (Own i ++ (D, W ([] ++ (List.range i).flatMap g)) :: []) s' P') ?_ n ⟨0, P3, by omega, Nat.zero_le _, .refl _, S4⟩
    rintro k s' ⟨i, P', rfl, hi, hle, S'⟩
    rw [(hden it (.ref D) _).1, (hden it (.ref D) _).2]
    refine wpAny_noted ?_
    rw [hturn]
    by_cases hin : i < n
    · refine turn_wp (Fd C) hle hi (hB i hin) S' (fun ys s5 P5 its E5 hlt l5 hys S5 => ?_) (fun s5 P5 hlt l5 S5 => ?_) fun s5 hn _ => by omega
      · rw [List.nil_append] at hys
        exact turn C it D i ys s1 P1 s5 P5 its E5 hlt e1 (e1.trans S5.ext) hys S5
      · exact ⟨rfl, n - (i + 1), by omega, i + 1, P5, rfl, hlt, hle.trans l5, S5⟩
    · obtain rfl : i = n := by omega
      unfold turnForm
      refine wpAny_bind (wpAny_standAt (wpAny_bind (wpAny_mono ((Fd C).done s1 P1 _ _ s' P' _ hle S') (fun r s6 ⟨hr, S6⟩ => ?_) fun _ _ e => e)))
      subst hr
      refine wpAny_pure ?_
      rw [List.nil_append] at S6
      obtain ⟨o', r', S7, l7⟩ := S6.freeze
      obtain ⟨m, hm, _⟩ := S7.fs.ns
      have hP : P' D = none := (S6.own _ (.head _)).2.1
      exact fin (.ref D) C s6 _ S7.ext (hfin P' o' D r' hP) S7.newL S7.fs.pl ⟨m, hm⟩
  refine hstart _ _ _ _ _ (loop s4 S4) ?_
  exact wpAny_mono ((Fd C).self s1 P1 _ _ s4 P3 _ S4) (fun it' s5 ⟨he, S5⟩ => by subst he; exact loop s5 S5) fun _ _ e => e

end
end VS

end PartV16

noncomputable section PartV17
namespace VS
open PySem PySem.Calls PySem.W PyProof.Rows

section
variable {prog : Program} {w : World} {A : Around} {cs : Str → Prop} {env : Env} {α β γ : Type} {τ : Ty α} {σ : Ty β} {υ : Ty γ} {s₀ s : Shared} {P₀ P Ps : PM} {ρ : List (Str × Bd)} {O : List (Addr × Ob)}

theorem EvB.tests0 : EvB prog w A s P (testsOf [] env) true := fun s1 P1 e => wpAny_tests_nil ⟨rfl, P1, .refl e.sub⟩
theorem EvB.tests1 {c : Expr} {b : Bool} (h : EvB prog w A s P (isTrue c env (eval c env)) b) : EvB prog w A s P (testsOf [c] env) b := fun s1 P1 e => wpAny_tests_one (h s1 P1 e)
theorem mark_none : A.mark none = A := rfl

theorem St.append {D : Addr} {ys : List β} {v : Value} {y : β} {Q : Value → Shared → Prop} {E : Value → Shared → Prop} (S : St cs s₀ P₀ env ρ ((D, Ob.list σ ys) :: O) s P) (r : σ.rel P v y) (hsz : ys.length ≤ sizeLine)
    (k : ∀ s', St cs s₀ P₀ env ρ ((D, Ob.list σ (ys ++ [y])) :: O) s' P → Q .none s') : wpAny (model prog w) A (call (.builtin "list.append") [.ref D, v]) Q E s := by
  obtain ⟨o, ho, ⟨vs, n, rfl, hp⟩, hP⟩ := S.obj
  refine wpAny_list_append_plain (items := vs.toArray) ⟨n, ho⟩ (fun h' ⟨n', hl⟩ hs => ?_) (by rw [List.size_toArray, hp.length]; exact hsz)
  refine k _ (S.change (b' := Ob.list σ (ys ++ [y])) (tk := s.toks) (h' := h') hl ⟨vs ++ [v], n', by simp, pApp hp (.cons r .nil)⟩ fun c o hne e => (hs.2 c hne).trans e)

theorem pm_mid {its O : List (Addr × Ob)} (x : Addr × Ob) : (its ++ x :: O).Perm (x :: (its ++ O)) := List.perm_middle

theorem fm_len {g : Nat → List β} {b : Nat} (hg : ∀ i, (g i).length ≤ b) : ∀ i, ((List.range i).flatMap g).length ≤ i * b
  | 0 => by simp
  | i + 1 => by
    rw [List.range_succ, List.flatMap_append, List.length_append, List.flatMap_cons, List.flatMap_nil, List.append_nil, Nat.succ_mul]
    exact Nat.add_le_add (fm_len hg i) (hg i)

abbrev lComp (elt : Expr) (gens : List Comprehension) (scope : Scope) (pos : Pos) (env : Env) : Option (Value → Sem Unit) → Sem Value := fun use =>
  comprehension (.ListComp elt gens scope pos) scope env (firstIterPos gens pos) (newList []) (firstAsync gens) (firstIter gens env) use

theorem Ob.listFin {ys : List β} : ∀ P o D, (Ob.list σ ys).rel P o → P D = none → (Ty.list σ).rel (P.put D o) (.ref D) ys := fun P o D ⟨vs, n, e, r⟩ h => by
  subst e
  exact ⟨vs, ⟨D, n, rfl, PM.put_self⟩, pImp (fun _ _ => σ.mono (PM.le_put h)) r⟩

/-- one clause -/
theorem Comp.one {elt target iter : Expr} {ifs : List Expr} {scope : Scope} {cl : List (Str × Addr)} {pos : Pos} {n : Nat} {B : Nat → List (Str × Bd)} {p : Nat → Bool} {f : Nat → β}
    (H : CompOk scope env cl) (F : FS env ρ s.heap P) (src : Src prog w A env iter s P (ownCells scope) (compE scope cl env) target n B) (hn : n ≤ sizeLine)
    (hB : ∀ i, i < n → ((B i).all fun x => ((capt cl ρ).lookup x.1).isNone) = true)
    (test : ∀ C i s' P', i < n → Ext s P s' P' → FS (compE scope cl env C) (B i ++ capt cl ρ) s'.heap P' → EvB prog w A s' P' (testsOf ifs (compE scope cl env C)) (p i))
    (el : ∀ C i s' P', i < n → p i = true → Ext s P s' P' → FS (compE scope cl env C) (B i ++ capt cl ρ) s'.heap P' → Ev prog w A s' P' (eval elt (compE scope cl env C)) σ (f i))
    (hs : ∀ x, foldedSetIterable iter env x = pure x := by intro _; rfl) :
    Comp prog w A s P (lComp elt [⟨target, iter, ifs, 0⟩] scope pos env) (Ty.list σ) ((List.range n).flatMap fun i => if p i then [f i] else []) := by
  refine comp_core (W := Ob.list σ) (o := { cls := .type "list", data := .seq ([] : List Value).toArray }) rfl H F src (fun s Q E h => wpAny_newObj_type h) rfl (fun P => ⟨[], _, rfl, .nil⟩) (fun it acc env s R h1 h2 => codeAny_compStart_list h1 h2)
    (fun C it acc => turn_one elt target iter ifs scope pos it acc _) hB (fun C it D i ys s1 P1 s' P' its E hi eb e hys S => ?_) (fun P o D => Ob.listFin P o D) (fun it acc env => ⟨rfl, rfl⟩) hs
  refine (test C i s' P' hi e S.fs).use S.sub fun s2 P2 e2 => ?_
  have S2 := S.go e2
  cases hp : p i with
  | false => simp only [Bool.false_eq_true, if_false]; exact ⟨trivial, P2, e2.le, S2⟩
  | true =>
    simp only [if_true]
    refine wpAny_bind (wpAny_bind ((el C i s2 P2 hi hp (e.trans e2) S2.fs).use S2.sub fun v s3 P3 e3 r => ?_))
    refine wpAny_bind (St.append ((S2.go e3).perm (pm_mid _)) r ?_ fun s4 S4 => wpAny_pure (wpAny_pure ⟨rfl, P3, e2.le.trans e3.le, S4.perm (pm_mid _).symm⟩))
    have := fm_len (g := fun i => if p i then [f i] else []) (b := 1) (fun i => by split <;> simp) i
    rw [hys]; omega

theorem codeAny_compStart_list1 {elt t1 i1 t2 i2 : Expr} {f1 f2 : List Expr} {scope : Scope} {pos : Pos} {it acc : Value} {env : Env} {R : Result → Shared → Prop}
    (h0 : codeAny (model prog w) A (.compLoop (.ListComp elt [⟨t1, i1, f1, 0⟩, ⟨t2, i2, f2, 0⟩] scope pos) 1 it acc env) R s)
    (h : wpAny (model prog w) A (pyIter it) (fun it' s' => codeAny (model prog w) A (.compLoop (.ListComp elt [⟨t1, i1, f1, 0⟩, ⟨t2, i2, f2, 0⟩] scope pos) 1 it' acc env) R s')
      (notedBy (model prog w) A env fun x s' => R (.error x) s') s) :
    codeAny (model prog w) A (.compStart (.ListComp elt [⟨t1, i1, f1, 0⟩, ⟨t2, i2, f2, 0⟩] scope pos) 1 it acc env) R s := by
  refine codeAny_of_tree ?_
  show wpAny _ _ ((compStart (.ListComp elt [⟨t1, i1, f1, 0⟩, ⟨t2, i2, f2, 0⟩] scope pos) 1 it acc env).onRaise (fun x => do noteFrame x env; standAt theWindowsPlace)) _ _ s
  refine wpAny_notedAt ?_
  unfold compStart
  show wpAny _ _ (ask >>= _) _ _ s
  refine wpAny_bind (wpAny_askSetting (wpAny_ite ?_))
  split
  · first
      | exact wpAny_bind (wpAny_pure (wpAny_pure (And.intro rfl h0)))
      | exact wpAny_pure (And.intro rfl h0)
  · first
      | exact wpAny_bind (wpAny_rule (wpAny_bind (wpAny_standAt (wpAny_bind (wpAny_mono h (fun it' s' h' => wpAny_pure (And.intro rfl h')) fun _ _ x => x)))))
      | (refine wpAny_bind (wpAny_rule ?_); show wpAny _ _ (standAt i2.pos >>= _) _ _ s; exact wpAny_bind (wpAny_standAt (wpAny_bind (wpAny_mono h (fun it' s' h' => wpAny_pure (And.intro rfl h')) fun _ _ x => x))))

/-- two clauses, no test at the first -/
theorem Comp.two {elt t1 i1 t2 i2 : Expr} {ifs : List Expr} {scope : Scope} {cl : List (Str × Addr)} {pos : Pos} {n : Nat} {m : Nat → Nat} {bound : Nat} {B : Nat → List (Str × Bd)} {B2 : Nat → Nat → List (Str × Bd)} {p : Nat → Nat → Bool} {f : Nat → Nat → β}
    (H : CompOk scope env cl) (F : FS env ρ s.heap P) (src : Src prog w A env i1 s P (ownCells scope) (compE scope cl env) t1 n B) (hm : ∀ i, m i ≤ bound) (hn : (n + 1) * bound ≤ sizeLine)
    (hB : ∀ i, i < n → ((B i).all fun x => ((capt cl ρ).lookup x.1).isNone) = true)
    (hB2 : ∀ i j, i < n → j < m i → ((B2 i j).all fun x => ((B i ++ capt cl ρ).lookup x.1).isNone) = true)
    (src2 : ∀ C i s' P', i < n → Ext s P s' P' → FS (compE scope cl env C) (B i ++ capt cl ρ) s'.heap P' → Src prog w A (compE scope cl env C) i2 s' P' (ownCells scope) (fun _ => compE scope cl env C) t2 (m i) (B2 i))
    (test : ∀ C i j s' P', i < n → j < m i → Ext s P s' P' → FS (compE scope cl env C) (B2 i j ++ (B i ++ capt cl ρ)) s'.heap P' → EvB prog w A s' P' (testsOf ifs (compE scope cl env C)) (p i j))
    (el : ∀ C i j s' P', i < n → j < m i → p i j = true → Ext s P s' P' → FS (compE scope cl env C) (B2 i j ++ (B i ++ capt cl ρ)) s'.heap P' → Ev prog w A s' P' (eval elt (compE scope cl env C)) σ (f i j))
    (hs2 : ∀ C x, foldedSetIterable i2 (compE scope cl env C) x = pure x := by intro _ _; rfl)
    (hs : ∀ x, foldedSetIterable i1 env x = pure x := by intro _; rfl) :
    Comp prog w A s P (lComp elt [⟨t1, i1, [], 0⟩, ⟨t2, i2, ifs, 0⟩] scope pos env) (Ty.list σ) ((List.range n).flatMap fun i => (List.range (m i)).flatMap fun j => if p i j then [f i j] else []) := by
  have hg : ∀ i j, ((List.range j).flatMap fun j => if p i j then [f i j] else []).length ≤ j := fun i j => by
    have := fm_len (g := fun j => if p i j then [f i j] else []) (b := 1) (fun j => by split <;> simp) j
    omega
  refine comp_core (W := Ob.list σ) (o := { cls := .type "list", data := .seq ([] : List Value).toArray }) rfl H F src (fun s Q E h => wpAny_newObj_type h) rfl (fun P => ⟨[], _, rfl, .nil⟩) (fun it acc env s R h1 h2 => codeAny_compStart_list h1 h2)
    (fun C it acc => turn_out elt t1 i1 t2 i2 [] ifs scope pos it acc _) hB (fun C it D i ys s1 P1 s' P' its E hi eb e hys S => ?_) (fun P o D => Ob.listFin P o D) (fun it acc env => ⟨rfl, rfl⟩) hs
  refine EvB.tests0.use S.sub fun s2 P2 e2 => ?_
  have S2 := S.go e2
  simp only [if_true]
  have hy : ys.length ≤ n * bound := by
    rw [hys]
    refine Nat.le_trans (fm_len (b := bound) (fun i => Nat.le_trans (hg i _) (hm i)) i) (Nat.mul_le_mul_right _ (Nat.le_of_lt hi))
  have hcap : ∀ j, j ≤ m i → (ys ++ (List.range j).flatMap fun j => if p i j then [f i j] else []).length ≤ sizeLine := fun j hj => by
    rw [List.length_append]
    refine Nat.le_trans (Nat.add_le_add hy (Nat.le_trans (hg i j) (Nat.le_trans hj (hm i)))) ?_
    rw [Nat.succ_mul] at hn; exact hn
  refine wpAny_bind ?_
  have e02 := e.trans e2
  refine wpAny_mono (src2 C i s2 P2 hi e02 S2.fs s2 P2 (fun it2 s3 => wpAny (model prog w) A (runOwn (.compStart (.ListComp elt [⟨t1, i1, [], 0⟩, ⟨t2, i2, ifs, 0⟩] scope pos) 1 it2 (.ref D) (compE scope cl env C)) (compE scope cl env C))
      (fun _ s4 => ∃ P4, PM.le P2 P4 ∧ St (ownCells scope) s1 P1 (compE scope cl env C) (B i ++ capt cl ρ) (its ++ [(D, Ob.list σ (ys ++ (List.range (m i)).flatMap fun j => if p i j then [f i j] else []))]) s4 P4) E s3) E (.refl e2.sub)
      fun it2 s3 P3 Own e3 N Fd => ?_) (fun x s3 h3 => wpAny_bind (wpAny_standAt ?_)) fun _ _ e => e
  · have S3 := (S2.adoptAll e3 N).perm (List.Perm.append_left (Own 0) (pm_mid (its := its) (D, Ob.list σ ys)))
    have loop : ∀ s4, St (ownCells scope) s1 P1 (compE scope cl env C) (B i ++ capt cl ρ) (Own 0 ++ (D, Ob.list σ ys) :: (its ++ [])) s4 P3 → codeAny (model prog w) A (.compLoop (.ListComp elt [⟨t1, i1, [], 0⟩, ⟨t2, i2, ifs, 0⟩] scope pos) 1 it2 (.ref D) (compE scope cl env C))
        (fun r s4 => match r with | .ok _ => ∃ P4, PM.le P2 P4 ∧ St (ownCells scope) s1 P1 (compE scope cl env C) (B i ++ capt cl ρ) (its ++ [(D, Ob.list σ (ys ++ (List.range (m i)).flatMap fun j => if p i j then [f i j] else []))]) s4 P4 | .error e => cameBackBy (model prog w) A (compE scope cl env C) E e s4) s4 := by
      intro s4 S4
      refine codeAny_loop rfl (fun k s' => ∃ j P', k = m i - j ∧ j ≤ m i ∧ PM.le P3 P' ∧ St (ownCells scope) s1 P1 (compE scope cl env C) (B i ++ capt cl ρ) (Own j ++ (D, Ob.list σ (ys ++ (List.range j).flatMap fun j => if p i j then [f i j] else [])) :: (its ++ [])) s' P') ?_ (m i) ⟨0, P3, by omega, Nat.zero_le _, .refl _, by simpa using S4⟩
      rintro k s' ⟨j, P', rfl, hj, hle, S'⟩
      show wpAny _ A ((compTurn (.ListComp elt [⟨t1, i1, [], 0⟩, ⟨t2, i2, ifs, 0⟩] scope pos) 1 it2 (.ref D) (compE scope cl env C)).onRaise (fun x => do noteFrame x (compE scope cl env C); theTreesLotGoes x)) _ _ s'
      refine wpAny_noted ?_
      rw [turn_in]
      by_cases hjm : j < m i
      · refine turn_wp (Fd C) hle hj (hB2 i j hi hjm) S' (fun ys' s5 P5 its2 E5 hlt l5 hys' S5 => ?_) (fun s5 P5 hlt l5 S5 => ?_) fun s5 hn _ => by omega
        · have e5 : Ext s P s5 P5 := eb.trans S5.ext
          refine (test C i j s5 P5 hi hjm e5 S5.fs).use S5.sub fun s6 P6 e6 => ?_
          have S6 := S5.go e6
          cases hp : p i j with
          | false => simp only [Bool.false_eq_true, if_false]; exact ⟨trivial, P6, e6.le, S6⟩
          | true =>
            simp only [if_true]
            refine wpAny_bind (wpAny_bind ((el C i j s6 P6 hi hjm hp (e5.trans e6) S6.fs).use S6.sub fun v s7 P7 e7 r => ?_))
            refine wpAny_bind (St.append ((S6.go e7).perm (pm_mid _)) r ?_ fun s8 S8 => wpAny_pure (wpAny_pure ⟨rfl, P7, e6.le.trans e7.le, S8.perm (pm_mid _).symm⟩))
            rw [hys']; exact hcap j hj
        · exact ⟨rfl, m i - (j + 1), by omega, j + 1, P5, rfl, hlt, hle.trans l5, S5⟩
      · obtain rfl : j = m i := by omega
        unfold turnForm
        refine wpAny_bind (wpAny_standAt (wpAny_bind (wpAny_mono ((Fd C).done s1 P1 _ _ s' P' _ hle S') (fun r s6 ⟨hr, S6⟩ => ?_) fun _ _ e => e)))
        subst hr
        exact wpAny_pure ⟨P', e3.le.trans hle, S6.perm (pm_mid (its := its) _).symm⟩
    refine wpAny_runOwn (codeAny_compStart_list1 (loop s3 S3) ?_)
    exact wpAny_mono ((Fd C).self s1 P1 _ _ s3 P3 _ S3) (fun it' s5 ⟨he, S5⟩ => by subst he; exact loop s5 S5) fun _ _ e => e
  · rw [hs2]
    refine wpAny_bind (wpAny_pure (wpAny_bind (wpAny_holding (wpAny_mono h3 (fun it2 s4 h4 => wpAny_bind (wpAny_mono h4 (fun _ s5 ⟨P5, l5, S5⟩ => wpAny_pure ⟨rfl, P5, e2.le.trans l5, S5⟩) fun _ _ e => e)) fun _ _ e => e))))
end
end VS

end PartV17

noncomputable section PartV18
namespace VS
open PySem PySem.Calls PySem.W PyProof.Rows

section
variable {prog : Program} {w : World} {A : Around} {cs : Str → Prop} {env : Env} {α β γ δ : Type} {τ : Ty α} {σ : Ty β} {υ : Ty γ} {ξ : Ty δ} {s₀ s : Shared} {P₀ P Ps : PM} {ρ : List (Str × Bd)} {O : List (Addr × Ob)} {x : α} {y : β} {z : γ} {u : δ}

theorem CompOk.mk' {scope : Scope} {env : Env} {cl : List (Str × Addr)} (clos : closureFor scope env = pure cl) (kind : scope.kind = .function) (look : cl.map (fun p => env.cells.lookup p.1) = cl.map (fun p => some p.2))
    (nd : nodupB (cl.map (·.1)) = true) (ndn : nodupB (scope.names.map (·.1)) = true) (out : (cl.all fun p => env.kindOf p.1 == some .cell || env.kindOf p.1 == some .free) = true)
    (inn : (cl.all fun p => (relabel scope env).names.lookup p.1 == some .cell || (relabel scope env).names.lookup p.1 == some .free) = true) (non : (cl.all fun p => scope.names.lookup p.1 == some .free) = true) : CompOk scope env cl :=
  ⟨clos, kind, fun x hx h => lookup_mem_nodup (nodup_of ndn) (by obtain ⟨a, b⟩ := x; cases h; exact hx), look, nd, ndn, out, inn, non⟩

def pick (n : Str) (τ : Ty α) (xs : List α) (i : Nat) : List (Str × Bd) := match xs[i]? with | some a => [(n, τ.at a)] | none => []
theorem pick_of {n : Str} {xs : List α} {i : Nat} (h : i < xs.length) : pick n τ xs i = [(n, τ.at xs[i])] := by
  unfold pick
  rw [List.getElem?_eq_getElem h]
theorem range_pick {p : α → Bool} {f : α → β} (d : Nat → Bool) (e : Nat → β) (xs : List α) (h1 : ∀ i (h : i < xs.length), d i = p xs[i]) (h2 : ∀ i (h : i < xs.length), e i = f xs[i]) :
    ((List.range xs.length).flatMap fun i => if d i then [e i] else []) = (xs.filter p).map f := by
  have key : ∀ k, k ≤ xs.length → ((List.range k).flatMap fun i => if d i then [e i] else []) = ((xs.take k).filter p).map f := by
    intro k
    induction k with
    | zero => intro _; rfl
    | succ k ih =>
      intro hk
      rw [List.range_succ, List.flatMap_append, ih (by omega), List.flatMap_cons, List.flatMap_nil, List.append_nil, h1 k hk, h2 k hk, List.take_succ_eq_append_getElem hk, List.filter_append, List.map_append]
      congr 1
      rw [List.filter_cons, List.filter_nil]
      cases p xs[k] <;> rfl
  rw [key _ (Nat.le_refl _), List.take_length]

theorem List.flatMap_congr' {l : List α} {f g : α → List β} (h : ∀ a ∈ l, f a = g a) : l.flatMap f = l.flatMap g := by
  induction l with
  | nil => rfl
  | cons a r ih => rw [List.flatMap_cons, List.flatMap_cons, h a (.head _), ih fun b hb => h b (.tail _ hb)]

/-- over a list, to a name -/
theorem Comp.lst {elt iter : Expr} {ifs : List Expr} {x : Str} {px : Pos} {scope : Scope} {cl : List (Str × Addr)} {pos : Pos} {xs : List α} {p : α → Bool} {f : α → β} [Inhabited β]
    (H : CompOk scope env cl) (F : FS env ρ s.heap P) (hh : A.handled = none) (h : Ev prog w A s P (eval iter env) (Ty.list τ) xs) (hk : ∀ C, Storable (ownCells scope) (compE scope cl env C) x) (hn : xs.length ≤ sizeLine)
    (hc : (capt cl ρ).lookup x = none)
    (test : ∀ C a s' P', a ∈ xs → Ext s P s' P' → FS (compE scope cl env C) ((x, τ.at a) :: capt cl ρ) s'.heap P' → EvB prog w A s' P' (testsOf ifs (compE scope cl env C)) (p a))
    (el : ∀ C a s' P', a ∈ xs → p a = true → Ext s P s' P' → FS (compE scope cl env C) ((x, τ.at a) :: capt cl ρ) s'.heap P' → Ev prog w A s' P' (eval elt (compE scope cl env C)) σ (f a))
    (hs : ∀ x, foldedSetIterable iter env x = pure x := by intro _; rfl) :
    Comp prog w A s P (lComp elt [⟨.Name x px, iter, ifs, 0⟩] scope pos env) (Ty.list σ) ((xs.filter p).map f) := by
  have key := Comp.one (B := pick x τ xs) (p := fun i => (xs[i]?.map p).getD false) (f := fun i => (xs[i]?.map f).getD default) (elt := elt) (ifs := ifs) (pos := pos) (σ := σ) (target := .Name x px) H F
    (Src.list hh h fun C i a v P' hx r => by
      have : pick x τ xs i = [(x, τ.at a)] := by unfold pick; rw [hx]
      rw [this]; exact Asg.name r (hk C)) hn (fun i hi => by rw [pick_of hi]; simp [hc])
    (fun C i s' P' hi e F' => by
      rw [pick_of hi] at F'
      have := test C _ s' P' (List.getElem_mem hi) e F'
      simpa [List.getElem?_eq_getElem hi] using this)
    (fun C i s' P' hi hp e F' => by
      rw [pick_of hi] at F'
      have := el C _ s' P' (List.getElem_mem hi) (by simpa [List.getElem?_eq_getElem hi] using hp) e F'
      simpa [List.getElem?_eq_getElem hi] using this) hs
  rw [range_pick (p := p) (f := f) _ _ xs (fun i h => by simp [List.getElem?_eq_getElem h]) (fun i h => by simp [List.getElem?_eq_getElem h])] at key
  exact key
theorem Comp.tup {elt iter : Expr} {ifs : List Expr} {x : Str} {px : Pos} {scope : Scope} {cl : List (Str × Addr)} {pos : Pos} {xs : List α} {p : α → Bool} {f : α → β} [Inhabited β]
    (H : CompOk scope env cl) (F : FS env ρ s.heap P) (hh : A.handled = none) (h : Ev prog w A s P (eval iter env) (Ty.tuple τ) xs) (hk : ∀ C, Storable (ownCells scope) (compE scope cl env C) x) (hn : xs.length ≤ sizeLine)
    (hc : (capt cl ρ).lookup x = none)
    (test : ∀ C a s' P', a ∈ xs → Ext s P s' P' → FS (compE scope cl env C) ((x, τ.at a) :: capt cl ρ) s'.heap P' → EvB prog w A s' P' (testsOf ifs (compE scope cl env C)) (p a))
    (el : ∀ C a s' P', a ∈ xs → p a = true → Ext s P s' P' → FS (compE scope cl env C) ((x, τ.at a) :: capt cl ρ) s'.heap P' → Ev prog w A s' P' (eval elt (compE scope cl env C)) σ (f a))
    (hs : ∀ x, foldedSetIterable iter env x = pure x := by intro _; rfl) :
    Comp prog w A s P (lComp elt [⟨.Name x px, iter, ifs, 0⟩] scope pos env) (Ty.list σ) ((xs.filter p).map f) := by
  have key := Comp.one (B := pick x τ xs) (p := fun i => (xs[i]?.map p).getD false) (f := fun i => (xs[i]?.map f).getD default) (elt := elt) (ifs := ifs) (pos := pos) (σ := σ) (target := .Name x px) H F
    (Src.tuple hh h fun C i a v P' hx r => by
      have : pick x τ xs i = [(x, τ.at a)] := by unfold pick; rw [hx]
      rw [this]; exact Asg.name r (hk C)) hn (fun i hi => by rw [pick_of hi]; simp [hc])
    (fun C i s' P' hi e F' => by
      rw [pick_of hi] at F'
      have := test C _ s' P' (List.getElem_mem hi) e F'
      simpa [List.getElem?_eq_getElem hi] using this)
    (fun C i s' P' hi hp e F' => by
      rw [pick_of hi] at F'
      have := el C _ s' P' (List.getElem_mem hi) (by simpa [List.getElem?_eq_getElem hi] using hp) e F'
      simpa [List.getElem?_eq_getElem hi] using this) hs
  rw [range_pick (p := p) (f := f) _ _ xs (fun i h => by simp [List.getElem?_eq_getElem h]) (fun i h => by simp [List.getElem?_eq_getElem h])] at key
  exact key

theorem Comp.eval {elt : Expr} {gens : List Comprehension} {scope : Scope} {pos : Pos} (h : Comp prog w A s P (lComp elt gens scope pos env) τ x) : Ev prog w A s P (PySem.eval (.ListComp elt gens scope pos) env) τ x := by
  rw [eval_ListComp]
  exact h.ev

/-! methods of texts -/
theorem Ev.strM {o e : Expr} {name : Str} {apos pos : Pos} {id : String} {a b : Str} (ho : Ev prog w A s P (eval o env) Ty.str a) (he' : Ev prog w A s P (eval e env) Ty.str b)
    (slot : Slot "str" name id) (hty : typeOf (.builtin id) = pure (.type "method_descriptor"))
    (hc : ∀ s1 P1 t u, Sub P1 s1 → Op prog w A s1 P1 (call (.builtin id) [.str a t, .str b u] []) τ x)
    (hbase : attributeBase o name env (eval o env) = eval o env := by rfl) (hline : (apos.endLine == pos.line) = true := by rfl)
    (hfew : ((backTo pos (starEach [e] env)).all (fun x => !x.1) && (backToKw pos (keywordEach [] env)).all (fun x => x.1.isSome) && decide ([e].length + ([] : List Keyword).length + (if ([] : List Keyword).isEmpty then 0 else 1) < 30)) = true := by rfl)
    (he : starEach [e] env = (false, eval e env) :: starEach [] env := by rfl) (hp : (backTo pos (starEach [e] env)).any (·.1) = false := by rfl) :
    Ev prog w A s P (eval (.Call (.Attribute o name apos) [e] [] pos) env) τ x :=
  Ev.meth hbase hline PySem.F.plainAttrs_str slot hty ho (fun s1 P1 v ⟨t, e⟩ => e ▸ typeIs_str _ _ _) (fun P1 v a ⟨t, e⟩ q => by rw [e] at q; cases q) (EvL.cons he' EvL.nil he)
    (fun s1 P1 v vs ex ⟨t, rv⟩ ⟨v2, r2, hv2, ⟨t2, rv2⟩, hr2⟩ => by subst rv; subst hv2; subst rv2; cases hr2; exact hc s1 P1 t t2 ex.sub) hfew he hp
theorem op_startswith {a b : Str} {t u : Tok} (h : Sub P s) : Op prog w A s P (call (.builtin "str.startswith") [.str a t, .str b u] []) Ty.bool (Txt.startswith a b) := SC.startswith ⟨P, .refl h, rfl⟩
theorem op_endswith {a b : Str} {t u : Tok} (h : Sub P s) : Op prog w A s P (call (.builtin "str.endswith") [.str a t, .str b u] []) Ty.bool (Txt.endswith a b) := SC.endswith ⟨P, .refl h, rfl⟩
theorem op_rfind {a b : Str} {t u : Tok} (h : Sub P s) : Op prog w A s P (call (.builtin "str.rfind") [.str a t, .str b u] []) Ty.int (Txt.rfind a b) := SC.rfind ⟨P, .toks h, _, rfl⟩
theorem op_rstrip {a b : Str} {t u : Tok} (h : Sub P s) (hsz : a.length ≤ sizeLine) : Op prog w A s P (call (.builtin "str.rstrip") [.str a t, .str b u] []) Ty.str (Txt.rstripChars a b) := SC.rstripChars (fun t' k => ⟨P, .toks h, _, rfl⟩) hsz
theorem paired_strs {P : PM} : ∀ l : List (Str × Tok), Paired (Ty.str.rel P) (strValues l) (l.map (·.1))
  | [] => .nil
  | (a, t) :: r => .cons ⟨t, rfl⟩ (paired_strs r)
open Builtin Builtin.Str in
theorem op_split {a b : Str} {t u : Tok} (h : Sub P s) (hy : (b.length == 0) = false) (hsz : a.length + 2 ≤ sizeLine) : Op prog w A s P (call (.builtin "str.split") [.str a t, .str b u] []) (Ty.list Ty.str) (Txt.split a b) := by
  have fin : ∀ (l : List (Str × Tok)) (k : Nat), l.map (·.1) = Txt.split a b → (fun v s2 => ∃ P2, Ext s P s2 P2 ∧ (Ty.list Ty.str).rel P2 v (Txt.split a b)) (.ref s.heap.objs.size) { s with toks := k, heap := s.heap.push { cls := .type "list", data := .seq (strValues l).toArray } } := fun l k e => by
    refine ⟨_, .push h, strValues l, ⟨_, _, rfl, PM.put_self⟩, ?_⟩
    rw [← e]
    exact paired_strs l
  have hx : a.length ≤ sizeLine := Nat.le_trans (Nat.le_add_right _ _) hsz
  cases h1 : (decide (a.length < b.length) || decide (Builtin.Str.strKind a < Builtin.Str.strKind b))
  · cases hf : (Builtin.Str.occurrences a b 0 a.length (a.length + 1)).isEmpty
    · have e : Txt.split a b = Builtin.Str.partsBetween a (Builtin.Str.occurrences a b 0 a.length (a.length + 1)) b.length := (if_neg (ne_true_of_eq_false h1)).trans (if_neg (ne_true_of_eq_false hf))
      refine call_meets F.slot_str_split (typeIs_str _ _ _) F.entry_str_split (F.args_str_split_2 _ _) (meets_str_split_sep a b t u h1 hy hf hx (by rw [← e]; exact Nat.le_trans (split_le a b) hsz)) ?_
      rw [strsFrom_eq, ← e]
      exact fin (numbered s.toks (Txt.split a b)) _ (numbered_texts _ _)
    · exact call_meets F.slot_str_split (typeIs_str _ _ _) F.entry_str_split (F.args_str_split_2 _ _) (meets_str_split_not_found a b t u h1 hy hf)
        (fin [(a, t)] s.toks ((if_neg (ne_true_of_eq_false h1)).trans (if_pos hf)).symm)
  · exact call_meets F.slot_str_split (typeIs_str _ _ _) F.entry_str_split (F.args_str_split_2 _ _) (meets_str_split_cannot_occur a b t u h1)
      (fin [(a, t)] s.toks (if_pos h1).symm)
theorem op_join {sep : Str} {v : Value} {t : Tok} {xs : List Str} (h : Sub P s) (r : (Ty.list Ty.str).rel P v xs) (hok : JoinOk sep xs = true) : Op prog w A s P (call (.builtin "str.join") [.str sep t, v] []) Ty.str (Txt.join sep xs) := by
  obtain ⟨vs, q, pr⟩ := r
  obtain ⟨a, n, rfl, hp⟩ := id q
  have : ∃ l : List (Str × Tok), vs = strValues l ∧ l.map (·.1) = xs := by
    clear q hp hok
    induction pr with
    | nil => exact ⟨[], rfl, rfl⟩
    | @cons v x vs xs h _ ih =>
      obtain ⟨l, e1, e2⟩ := ih
      obtain ⟨t, rfl⟩ := h
      exact ⟨(x, t) :: l, by rw [e1]; rfl, by rw [← e2]; rfl⟩
  obtain ⟨l, rfl, e⟩ := this
  exact SC.join (q.isList h) e hok fun t' k => ⟨P, .toks h, _, rfl⟩
end
end VS

end PartV18

noncomputable section PartV19
namespace VS
open PySem PySem.Calls PySem.W PyProof.Rows

section
variable {prog : Program} {w : World} {A : Around} {cs : Str → Prop} {env : Env} {α β γ δ : Type} {τ : Ty α} {σ : Ty β} {υ : Ty γ} {ξ : Ty δ} {s₀ s : Shared} {P₀ P Ps : PM} {ρ : List (Str × Bd)} {O : List (Addr × Ob)} {x : α} {y : β} {z : γ} {u : δ}
  {K : Frag} {p : Program} {lo : List Str} {mg mb : Str → Option Value} {n : Nat}

/-- two positional arguments, of which the second is a row of its own -/
theorem bind_var {fd : FuncData} {v1 v2 : Value} {n1 n2 : Str} {b1 : Bd} (h : bindArgs fd ⟨[v1, v2], []⟩ = (do let t ← newTuple [v2]; pure [(n1, v1), (n2, t)])) (r1 : b1.rel P v1) (r2 : τ.rel P v2 x) :
    ∀ A s, Sub P s → ∀ (Q : List (Str × Value) → Shared → Prop) (E : Value → Shared → Prop), (∀ bs s' P', Ext s P s' P' → BindsAre P' bs [(n1, b1), (n2, (Ty.tuple τ).at [x])] → Q bs s') → wpAny (model prog w) A (bindArgs fd ⟨[v1, v2], []⟩) Q E s := fun A s hs Q E k => by
  rw [h]
  refine wpAny_bind (wpAny_newTuple (wpAny_pure ?_))
  have e : Ext s P { s with heap := s.heap.push { cls := .type "tuple", data := .seq [v2].toArray } } _ := .push hs
  exact k _ _ _ e (.cons (b1.mono e.le r1) (.cons ⟨[v2], ⟨_, _, rfl, PM.put_self⟩, .cons (τ.mono e.le r2) .nil⟩ .nil))

/-- calls of the text's own functions -/
theorem Ev.def1 {id : Str} {ip pos : Pos} {e : Expr} {f : Addr} {oc : Value} {od : Option Addr} {fd : FuncData} {sl : Array (Option Value)} (W : Wd K p lo mg mb s.heap) (R : Room n A) (ha : Ev prog w A s P (eval e env) τ x)
    (sp : ∀ P v, τ.rel P v x → Returns prog w K p lo mg mb n (.ref f) [v] P υ z)
    (hid : nsIn K mainGlobals id = some (some (.ref f)) := by rfl) (hf : K.lookup f = some ⟨oc, od, .func fd, sl⟩ := by rfl) (hg : env.globals = mainGlobals := by rfl) (hk : env.scope.kind = .function := by rfl) (hx : env.kindOf id = some .globalImplicit := by rfl)
    (he : starEach [e] env = (false, eval e env) :: starEach [] env := by rfl) (hd : (id == ("__debug__" : Str)) = false := by decide) : Ev prog w A s P (eval (.Call (.Name id ip) [e] [] pos) env) υ z :=
  Ev.callFn (Ev.glob W hid hg hk hx hd) (W.own _ _ hf) rfl (EvL.cons ha EvL.nil he) (fun s1 P1 vs e1 ⟨v, r, hv, rv, hr⟩ => by
    subst hv; cases hr
    exact sp P1 v rv A s1 R (W.keeps e1.keep) e1.sub) he
theorem Ev.def2 {id : Str} {ip pos : Pos} {e1 e2 : Expr} {f : Addr} {oc : Value} {od : Option Addr} {fd : FuncData} {sl : Array (Option Value)} (W : Wd K p lo mg mb s.heap) (R : Room n A) (ha : Ev prog w A s P (eval e1 env) τ x) (hb : Ev prog w A s P (eval e2 env) σ y)
    (sp : ∀ P v1 v2, τ.rel P v1 x → σ.rel P v2 y → Returns prog w K p lo mg mb n (.ref f) [v1, v2] P υ z)
    (hid : nsIn K mainGlobals id = some (some (.ref f)) := by rfl) (hf : K.lookup f = some ⟨oc, od, .func fd, sl⟩ := by rfl) (hg : env.globals = mainGlobals := by rfl) (hk : env.scope.kind = .function := by rfl) (hx : env.kindOf id = some .globalImplicit := by rfl)
    (he : starEach [e1, e2] env = (false, eval e1 env) :: starEach [e2] env := by rfl) (he2 : starEach [e2] env = (false, eval e2 env) :: starEach [] env := by rfl) (hd : (id == ("__debug__" : Str)) = false := by decide) : Ev prog w A s P (eval (.Call (.Name id ip) [e1, e2] [] pos) env) υ z :=
  Ev.callFn (Ev.glob W hid hg hk hx hd) (W.own _ _ hf) rfl (EvL.cons ha (EvL.cons hb EvL.nil he2) he) (fun s1 P1 vs e1 ⟨v, r, hv, rv, v2, r2, hv2, rv2, hr⟩ => by
    subst hv; subst hv2; cases hr
    exact sp P1 v v2 rv rv2 A s1 R (W.keeps e1.keep) e1.sub) he
theorem Ev.def4 {id : Str} {ip pos : Pos} {e1 e2 e3 e4 : Expr} {η : Type} {κ : Ty η} {q : η} {f : Addr} {oc : Value} {od : Option Addr} {fd : FuncData} {sl : Array (Option Value)} (W : Wd K p lo mg mb s.heap) (R : Room n A) (ha : Ev prog w A s P (eval e1 env) τ x) (hb : Ev prog w A s P (eval e2 env) σ y)
    (hc : Ev prog w A s P (eval e3 env) υ z) (hd' : Ev prog w A s P (eval e4 env) ξ u)
    (sp : ∀ P v1 v2 v3 v4, τ.rel P v1 x → σ.rel P v2 y → υ.rel P v3 z → ξ.rel P v4 u → Returns prog w K p lo mg mb n (.ref f) [v1, v2, v3, v4] P κ q)
    (hid : nsIn K mainGlobals id = some (some (.ref f)) := by rfl) (hf : K.lookup f = some ⟨oc, od, .func fd, sl⟩ := by rfl) (hg : env.globals = mainGlobals := by rfl) (hk : env.scope.kind = .function := by rfl) (hx : env.kindOf id = some .globalImplicit := by rfl)
    (he : starEach [e1, e2, e3, e4] env = (false, eval e1 env) :: starEach [e2, e3, e4] env := by rfl) (he2 : starEach [e2, e3, e4] env = (false, eval e2 env) :: starEach [e3, e4] env := by rfl) (he3 : starEach [e3, e4] env = (false, eval e3 env) :: starEach [e4] env := by rfl)
    (he4 : starEach [e4] env = (false, eval e4 env) :: starEach [] env := by rfl) (hd : (id == ("__debug__" : Str)) = false := by decide) : Ev prog w A s P (eval (.Call (.Name id ip) [e1, e2, e3, e4] [] pos) env) κ q :=
  Ev.callFn (Ev.glob W hid hg hk hx hd) (W.own _ _ hf) rfl (EvL.cons ha (EvL.cons hb (EvL.cons hc (EvL.cons hd' EvL.nil he4) he3) he2) he) (fun s1 P1 vs e1 ⟨v, r, hv, rv, v2, r2, hv2, rv2, v3, r3, hv3, rv3, v4, r4, hv4, rv4, hr⟩ => by
    subst hv; subst hv2; subst hv3; subst hv4; cases hr
    exact sp P1 v v2 v3 v4 rv rv2 rv3 rv4 A s1 R (W.keeps e1.keep) e1.sub) he
theorem Ev.def3 {id : Str} {ip pos : Pos} {e1 e2 e3 : Expr} {f : Addr} {oc : Value} {od : Option Addr} {fd : FuncData} {sl : Array (Option Value)} (W : Wd K p lo mg mb s.heap) (R : Room n A) (ha : Ev prog w A s P (eval e1 env) τ x) (hb : Ev prog w A s P (eval e2 env) σ y)
    (hc : Ev prog w A s P (eval e3 env) υ z)
    (sp : ∀ P v1 v2 v3, τ.rel P v1 x → σ.rel P v2 y → υ.rel P v3 z → Returns prog w K p lo mg mb n (.ref f) [v1, v2, v3] P ξ u)
    (hid : nsIn K mainGlobals id = some (some (.ref f)) := by rfl) (hf : K.lookup f = some ⟨oc, od, .func fd, sl⟩ := by rfl) (hg : env.globals = mainGlobals := by rfl) (hk : env.scope.kind = .function := by rfl) (hx : env.kindOf id = some .globalImplicit := by rfl)
    (he : starEach [e1, e2, e3] env = (false, eval e1 env) :: starEach [e2, e3] env := by rfl) (he2 : starEach [e2, e3] env = (false, eval e2 env) :: starEach [e3] env := by rfl) (he3 : starEach [e3] env = (false, eval e3 env) :: starEach [] env := by rfl)
    (hd : (id == ("__debug__" : Str)) = false := by decide) : Ev prog w A s P (eval (.Call (.Name id ip) [e1, e2, e3] [] pos) env) ξ u :=
  Ev.callFn (Ev.glob W hid hg hk hx hd) (W.own _ _ hf) rfl (EvL.cons ha (EvL.cons hb (EvL.cons hc EvL.nil he3) he2) he) (fun s1 P1 vs e1 ⟨v, r, hv, rv, v2, r2, hv2, rv2, v3, r3, hv3, rv3, hr⟩ => by
    subst hv; subst hv2; subst hv3; cases hr
    exact sp P1 v v2 v3 rv rv2 rv3 A s1 R (W.keeps e1.keep) e1.sub) he
end
end VS

end PartV19

noncomputable section PartV20
namespace VS
open PySem PySem.Calls PySem.W PyProof.Rows

def onlyOk : List (Str × Bd) → List (Str × Bd) → Prop
  | [], _ => True
  | q :: r, ρ => ρ.lookup q.1 = some q.2 ∧ onlyOk r ρ
theorem onlyOk.look : ∀ {L ρ : List (Str × Bd)}, onlyOk L ρ → ∀ {n b}, L.lookup n = some b → ρ.lookup n = some b
  | [], _, _, _, _, h => by cases h
  | (k, c) :: r, ρ, ⟨h1, h2⟩, n, b, h => by
    rw [List.lookup_cons] at h
    cases q : n == k with
    | true => rw [q] at h; cases h; rw [beq_iff_eq.mp q]; exact h1
    | false => rw [q] at h; exact h2.look h

section
variable {prog : Program} {w : World} {A : Around} {cs : Str → Prop} {env : Env} {α β γ δ : Type} {τ : Ty α} {σ : Ty β} {υ : Ty γ} {ξ : Ty δ} {s₀ s : Shared} {P₀ P Ps : PM} {ρ : List (Str × Bd)} {O : List (Addr × Ob)} {x : α} {y : β} {z : γ} {u : δ}

theorem St.only {L : List (Str × Bd)} (S : St cs s₀ P₀ env ρ O s P) (h : onlyOk L ρ) : St cs s₀ P₀ env L O s P := S.names fun n b hb => ⟨b, h.look hb, fun _ r => r⟩

/-- a loop whose names and own objects are known at each turn -/
theorem St.forX {target iter : Expr} {body rest : List Stmt} {pos : Pos} {n : Nat} {B : Nat → List (Str × Bd)} {Q : Flow → Shared → Prop} {E : Value → Shared → Prop} (S : St cs s₀ P₀ env ρ O s P)
    (ρJ : Nat → List (Str × Bd)) (OJ : Nat → List (Addr × Ob)) (h : Src prog w A env iter s P cs (fun _ => env) target n B) (h0 : onlyOk (ρJ 0) ρ) (hO : OJ 0 = O)
    (turn : ∀ i s' P' its E', i < n → PM.le P P' → St cs s₀ P₀ env (B i ++ ρJ i) (its ++ OJ i) s' P' →
          wpAny (model prog w) A (execs body env) (fun f s' => match f with
            | .next | .cont => ∃ P'', PM.le P' P'' ∧ St cs s₀ P₀ env (ρJ (i + 1)) (its ++ OJ (i + 1)) s' P''
            | .brk => wpAny (model prog w) A (execs rest env) Q E s'
            | .ret v => Q (.ret v) s') E' s')
    (done : ∀ s P', PM.le P P' → St cs s₀ P₀ env (ρJ n) (OJ n) s P' → wpAny (model prog w) A (execs rest env) Q E s)
    (hs : ∀ x, foldedSetIterable iter env x = pure x := by intro _; rfl) : wpAny (model prog w) A (execs (.For target iter body [] pos :: rest) env) Q E s := by
  subst hO
  refine wpAny_execs_cons (St.forS (S.only h0) h (fun i ρ O => ρ = ρJ i ∧ O = OJ i) ⟨rfl, rfl⟩ ?_ ?_ hs)
  · rintro i ρ O s' P' its E' hi l ⟨rfl, rfl⟩ S'
    refine wpAny_mono (turn i s' P' its E' hi l S') (fun f s2 h2 => ?_) fun _ _ e => e
    cases f with
    | next => obtain ⟨P2, l2, S2⟩ := h2; exact ⟨_, _, P2, l2, S2, rfl, rfl⟩
    | cont => obtain ⟨P2, l2, S2⟩ := h2; exact ⟨_, _, P2, l2, S2, rfl, rfl⟩
    | brk => exact h2
    | ret v => exact h2
  · rintro ρ O s' P' l ⟨rfl, rfl⟩ S'
    exact done s' P' l S'
/-- over a list, to a name -/
theorem St.forL {iter : Expr} {x : Str} {px : Pos} {body rest : List Stmt} {pos : Pos} {xs : List α} {Q : Flow → Shared → Prop} {E : Value → Shared → Prop} (S : St cs s₀ P₀ env ρ O s P) (hh : A.handled = none)
    (ρJ : Nat → List (Str × Bd)) (OJ : Nat → List (Addr × Ob)) (h : Ev prog w A s P (eval iter env) (Ty.list τ) xs) (hk : Storable cs env x) (h0 : onlyOk (ρJ 0) ρ) (hO : OJ 0 = O)
    (turn : ∀ i (hi : i < xs.length) s' P' its E', PM.le P P' → St cs s₀ P₀ env ((x, τ.at xs[i]) :: ρJ i) (its ++ OJ i) s' P' →
          wpAny (model prog w) A (execs body env) (fun f s' => match f with
            | .next | .cont => ∃ P'', PM.le P' P'' ∧ St cs s₀ P₀ env (ρJ (i + 1)) (its ++ OJ (i + 1)) s' P''
            | .brk => wpAny (model prog w) A (execs rest env) Q E s'
            | .ret v => Q (.ret v) s') E' s')
    (done : ∀ s P', PM.le P P' → St cs s₀ P₀ env (ρJ xs.length) (OJ xs.length) s P' → wpAny (model prog w) A (execs rest env) Q E s)
    (hs : ∀ x, foldedSetIterable iter env x = pure x := by intro _; rfl) : wpAny (model prog w) A (execs (.For (.Name x px) iter body [] pos :: rest) env) Q E s :=
  S.forX ρJ OJ (B := pick x τ xs) (Src.list hh h fun C i a v P' hx r => by
      have : pick x τ xs i = [(x, τ.at a)] := by unfold pick; rw [hx]
      rw [this]; exact Asg.name r hk) h0 hO (fun i s' P' its E hi l S' => by rw [pick_of hi] at S'; exact turn i hi s' P' its E l S') done hs
theorem St.forT {iter : Expr} {x : Str} {px : Pos} {body rest : List Stmt} {pos : Pos} {xs : List α} {Q : Flow → Shared → Prop} {E : Value → Shared → Prop} (S : St cs s₀ P₀ env ρ O s P) (hh : A.handled = none)
    (ρJ : Nat → List (Str × Bd)) (OJ : Nat → List (Addr × Ob)) (h : Ev prog w A s P (eval iter env) (Ty.tuple τ) xs) (hk : Storable cs env x) (h0 : onlyOk (ρJ 0) ρ) (hO : OJ 0 = O)
    (turn : ∀ i (hi : i < xs.length) s' P' its E', PM.le P P' → St cs s₀ P₀ env ((x, τ.at xs[i]) :: ρJ i) (its ++ OJ i) s' P' →
          wpAny (model prog w) A (execs body env) (fun f s' => match f with
            | .next | .cont => ∃ P'', PM.le P' P'' ∧ St cs s₀ P₀ env (ρJ (i + 1)) (its ++ OJ (i + 1)) s' P''
            | .brk => wpAny (model prog w) A (execs rest env) Q E s'
            | .ret v => Q (.ret v) s') E' s')
    (done : ∀ s P', PM.le P P' → St cs s₀ P₀ env (ρJ xs.length) (OJ xs.length) s P' → wpAny (model prog w) A (execs rest env) Q E s)
    (hs : ∀ x, foldedSetIterable iter env x = pure x := by intro _; rfl) : wpAny (model prog w) A (execs (.For (.Name x px) iter body [] pos :: rest) env) Q E s :=
  S.forX ρJ OJ (B := pick x τ xs) (Src.tuple hh h fun C i a v P' hx r => by
      have : pick x τ xs i = [(x, τ.at a)] := by unfold pick; rw [hx]
      rw [this]; exact Asg.name r hk) h0 hO (fun i s' P' its E hi l S' => by rw [pick_of hi] at S'; exact turn i hi s' P' its E l S') done hs
theorem EvB.to {t : Sem Bool} {b c : Bool} (e : b = c) (h : EvB prog w A s P t b) : EvB prog w A s P t c := e ▸ h
theorem Ev.to {t : Sem Value} {a b : α} (e : a = b) (h : Ev prog w A s P t τ a) : Ev prog w A s P t τ b := e ▸ h
/-- an if with no more behind it in the block -/
theorem EvB.bool {e : Expr} {b : Bool} (h : Ev prog w A s P (eval e env) Ty.bool b) (he : ∀ whole, isTrue e env whole = (do let v ← whole; standAt e.pos; holding [v] (truthy v)) := by intro _; rfl) : EvB prog w A s P (isTrue e env (eval e env)) b := EvB.val h (fun s1 P1 v e r => by cases r; exact Truth.bool e.sub) he
end
end VS

end PartV20

noncomputable section PartV21
namespace VS
open PySem PySem.Calls PySem.W PyProof.Rows

section
variable {prog : Program} {w : World} {A : Around} {cs : Str → Prop} {env : Env} {α β γ δ : Type} {τ : Ty α} {σ : Ty β} {s : Shared} {P : PM}
theorem op_list_copy {v : Value} {xs : List α} (h : Sub P s) (r : (Ty.list τ).rel P v xs) (hsz : xs.length ≤ sizeLine) : Op prog w A s P (call (.type "list") [v] []) (Ty.list τ) xs := by
  obtain ⟨vs, q, pr⟩ := r
  obtain ⟨a, n, rfl, hp⟩ := id q
  refine call_list_seq a (T := "list") (.inl rfl) (h _ _ hp) rfl rfl (fun h' c' kp hn => ?_) (by rw [List.size_toArray, pr.length]; exact hsz)
  have n0 := get?_size s.heap
  have e : Ext s P { s with heap := h' } (P.put s.heap.objs.size _) := .put (.heap h kp) n0 hn (h.none n0)
  exact ⟨_, e, vs, ⟨_, c', rfl, PM.put_self⟩, pImp (fun _ _ => τ.mono e.le) pr⟩
end
end VS

end PartV21

noncomputable section PartV22
namespace VS
open PySem PySem.Calls PySem.W PyProof.Rows

section
variable {prog : Program} {w : World} {A : Around} {cs : Str → Prop} {env : Env} {α β γ δ : Type} {τ : Ty α} {σ : Ty β} {υ : Ty γ} {s₀ s : Shared} {P₀ P : PM} {ρ : List (Str × Bd)} {O : List (Addr × Ob)} {E : Value → Shared → Prop}

/-! a list of the call's own -/
/-- the values that an own list holds now -/
theorem St.items {D : Addr} {xs : List α} (S : St cs s₀ P₀ env ρ ((D, Ob.list τ xs) :: O) s P) : ∃ vs n, s.heap.get? D = some { cls := .type "list", data := .seq (List.toArray vs) n } ∧ Paired (τ.rel P) vs xs ∧ P D = none := by
  obtain ⟨o, ho, ⟨vs, n, rfl, hp⟩, hP⟩ := S.obj
  exact ⟨vs, n, ho, hp, hP⟩
theorem Ev.lenOwn {D : Addr} {xs : List α} {e : Expr} {np pos : Pos} (S : St cs s₀ P₀ env ρ ((D, Ob.list τ xs) :: O) s P) (hf : Ev prog w A s P (eval (.Name "len" np) env) Ty.raw (.builtin "len")) (he : Ev prog w A s P (eval e env) Ty.raw (.ref D)) (hsz : xs.length ≤ sizeLine)
    (hs : starEach [e] env = (false, eval e env) :: starEach [] env := by rfl) (hp : (backTo pos (starEach [e] env)).any (·.1) = false := by rfl) : Ev prog w A s P (eval (.Call (.Name "len" np) [e] [] pos) env) Ty.int xs.length := by
  obtain ⟨vs, n, ho, hpr, hP⟩ := S.items
  refine Ev.callB hf (EvL.cons he EvL.nil hs) (fun s1 P1 vs' e1 ⟨v, r, hv, rv, hr⟩ => ?_) hs hp
  subst hv; cases hr; cases rv
  have hl := hpr.length
  refine call_len_list (l := D) (items := vs.toArray) ⟨_, e1.keep _ _ ho, rfl, n, rfl⟩ (by have : sizeLine = 16777216 := rfl; simp only [List.size_toArray]; omega) ⟨P1, .toks e1.sub, s1.toks + 1, ?_⟩
  rw [List.size_toArray, hl]
/-- a method call on an own list -/
theorem own_method {D : Addr} {xs : List α} {o : Expr} {name : Str} {id : String} {e : Expr} {apos pos : Pos} {Q : Value → Shared → Prop} (S : St cs s₀ P₀ env ρ ((D, Ob.list τ xs) :: O) s P) (ho : Ev prog w A s P (eval o env) Ty.raw (.ref D))
    (slot : Slot "list" name id) (hty : typeOf (.builtin id) = pure (.type "method_descriptor"))
    (h : ∀ s1 P1, PM.le P P1 → St cs s₀ P₀ env ρ ((D, Ob.list τ xs) :: O) s1 P1 → wpAny (model prog w) A (callWith pos (.builtin id) [.ref D] [(false, eval e env)] []) Q E s1)
    (hbase : attributeBase o name env (eval o env) = eval o env := by rfl) (hline : (apos.endLine == pos.line) = true := by rfl)
    (hfew : ((backTo pos (starEach [e] env)).all (fun x => !x.1) && (backToKw pos (keywordEach [] env)).all (fun x => x.1.isSome) && decide ([e].length + ([] : List Keyword).length + (if ([] : List Keyword).isEmpty then 0 else 1) < 30)) = true := by rfl)
    (htrees : backTo pos (starEach [e] env) = [(false, eval e env)] := by rfl) :
    wpAny (model prog w) A (eval (.Call (.Attribute o name apos) [e] [] pos) env) Q E s :=
  wpAny_Call_method hbase hfew hline PySem.F.plainAttrs_list slot hty (ho.use S.sub fun v s1 P1 e1 r => by
    cases r
    have S1 := S.go e1
    obtain ⟨vs, n, hob, hpr, hP⟩ := S1.items
    refine ⟨⟨_, hob, rfl⟩, fun a ea => ?_, ?_⟩
    · cases ea; exact ⟨_, hob, rfl⟩
    · rw [htrees]; exact h s1 P1 e1.le S1)
theorem upd_seq {h : Heap} {D : Addr} {vs : List Value} {n : Nat} (f : Array Value → Array Value) (ho : h.get? D = some { cls := .type "list", data := .seq (List.toArray vs) n }) :
    (∃ n', (h.update D (Obj.mapSeq f)).get? D = some { cls := .type "list", data := .seq (f vs.toArray) n' }) ∧ ∀ c o, c ≠ D → h.get? c = some o → (h.update D (Obj.mapSeq f)).get? c = some o :=
  ⟨⟨_, Heap.get?_update_self (Obj.mapSeq f) ho rfl⟩, fun c o hc e => (Heap.get?_update_other _ _ (Ne.symm hc)).trans e⟩
theorem pErase {α β : Type} {F : α → β → Prop} : ∀ {l : List α} {k : List β} (i : Nat), Paired F l k → Paired F (l.eraseIdx i) (k.eraseIdx i)
  | _, _, i, .nil => by simpa using Paired.nil
  | _, _, 0, .cons _ r => r
  | _, _, i + 1, .cons h r => .cons h (pErase i r)

theorem St.append' {D : Addr} {xs : List α} {x : α} {o e : Expr} {apos pos : Pos} {Q : Value → Shared → Prop} (S : St cs s₀ P₀ env ρ ((D, Ob.list τ xs) :: O) s P) (ho : Ev prog w A s P (eval o env) Ty.raw (.ref D))
    (he : ∀ s1 P1, PM.le P P1 → St cs s₀ P₀ env ρ ((D, Ob.list τ xs) :: O) s1 P1 → Ev prog w A s1 P1 (eval e env) τ x) (hsz : xs.length ≤ sizeLine)
    (k : ∀ s' P', PM.le P P' → St cs s₀ P₀ env ρ ((D, Ob.list τ (xs ++ [x])) :: O) s' P' → Q .none s')
    (hbase : attributeBase o "append" env (eval o env) = eval o env := by rfl) (hline : (apos.endLine == pos.line) = true := by rfl)
    (hfew : ((backTo pos (starEach [e] env)).all (fun x => !x.1) && (backToKw pos (keywordEach [] env)).all (fun x => x.1.isSome) && decide ([e].length + ([] : List Keyword).length + (if ([] : List Keyword).isEmpty then 0 else 1) < 30)) = true := by rfl)
    (htrees : backTo pos (starEach [e] env) = [(false, eval e env)] := by rfl) :
    wpAny (model prog w) A (eval (.Call (.Attribute o "append" apos) [e] [] pos) env) Q E s :=
  own_method S ho PySem.F.slot_list_append PySem.F.type_list_append (fun s1 P1 l1 S1 => PySem.P.append_list ((he s1 P1 l1 S1).use S1.sub fun v s2 P2 e2 r => by
    have S2 := S1.go e2
    obtain ⟨vs, n, hob, hpr, hP⟩ := S2.items
    refine ⟨vs.toArray, n, by rw [List.size_toArray, hpr.length]; exact hsz, hob, ?_⟩
    obtain ⟨⟨n', hn⟩, kp⟩ := upd_seq (fun xs => xs.push v) hob
    exact k _ P2 (l1.trans e2.le) (S2.change (b' := Ob.list τ (xs ++ [x])) (tk := s2.toks) hn ⟨vs ++ [v], n', by simp, pApp hpr (.cons r .nil)⟩ kp))) hbase hline hfew htrees

theorem St.popAt {D : Addr} {xs : List α} {i : Int} {x : α} {o e : Expr} {apos pos : Pos} {Q : Value → Shared → Prop} (S : St cs s₀ P₀ env ρ ((D, Ob.list τ xs) :: O) s P) (ho : Ev prog w A s P (eval o env) Ty.raw (.ref D))
    (he : ∀ s1 P1, PM.le P P1 → St cs s₀ P₀ env ρ ((D, Ob.list τ xs) :: O) s1 P1 → Ev prog w A s1 P1 (eval e env) Ty.int i) (h0 : 0 ≤ i) (hx : xs[i.toNat]? = some x) (hsz : xs.length ≤ sizeLine)
    (k : ∀ v s' P', PM.le P P' → τ.rel P' v x → St cs s₀ P₀ env ρ ((D, Ob.list τ (xs.eraseIdx i.toNat)) :: O) s' P' → Q v s')
    (hbase : attributeBase o "pop" env (eval o env) = eval o env := by rfl) (hline : (apos.endLine == pos.line) = true := by rfl)
    (hfew : ((backTo pos (starEach [e] env)).all (fun x => !x.1) && (backToKw pos (keywordEach [] env)).all (fun x => x.1.isSome) && decide ([e].length + ([] : List Keyword).length + (if ([] : List Keyword).isEmpty then 0 else 1) < 30)) = true := by rfl)
    (htrees : backTo pos (starEach [e] env) = [(false, eval e env)] := by rfl) :
    wpAny (model prog w) A (eval (.Call (.Attribute o "pop" apos) [e] [] pos) env) Q E s :=
  own_method S ho PySem.F.slot_list_pop PySem.F.type_list_pop (fun s1 P1 l1 S1 => PySem.P.pop_at_list ((he s1 P1 l1 S1).use S1.sub fun v s2 P2 e2 ⟨t, r⟩ => by
    subst r
    have S2 := S1.go e2
    obtain ⟨vs, n, hob, hpr, hP⟩ := S2.items
    obtain ⟨y, hy, ry⟩ := pGet hpr hx
    have hlt : i.toNat < vs.length := (List.getElem?_eq_some_iff.mp hy).1
    have hvl : vs.length ≤ sizeLine := by rw [hpr.length]; exact hsz
    have hs : sizeLine = 16777216 := rfl
    have hi : i < vs.length := by omega
    refine ⟨vs.toArray, n, i, t, i.toNat, y, by rw [List.size_toArray]; exact hvl, rfl, hob, ?_, ?_, by simpa using hy, ?_⟩
    · unfold Builtin.List.listFitsIndex; simp only [Bool.and_eq_true, decide_eq_true_iff]; omega
    · unfold seqIndex?
      simp only [List.size_toArray]
      rw [if_neg (show ¬ i < 0 by omega), if_pos (by simp only [Bool.and_eq_true, decide_eq_true_iff]; omega)]
    · obtain ⟨⟨n', hn⟩, kp⟩ := upd_seq (fun xs => xs.eraseIdxIfInBounds i.toNat) hob
      refine k y _ P2 (l1.trans e2.le) ry (S2.change (b' := Ob.list τ (xs.eraseIdx i.toNat)) (tk := s2.toks) hn ⟨vs.eraseIdx i.toNat, n', ?_, pErase _ hpr⟩ kp)
      simp only [List.eraseIdxIfInBounds_toArray])) hbase hline hfew htrees
end
end VS

end PartV22

noncomputable section PartX1
namespace VS
open PySem PySem.Calls PySem.W PyProof.Rows
/-! what an exception may do to the frames under way: their slots -/
/-- an object, but for its slots -/
def Ob.upto (o : Obj) : Ob := ⟨fun _ o' => ∃ sl, o' = { o with slots := sl }, fun _ h => h⟩
/-- all is kept, but for the slots of the objects at D -/
structure Shk (D : List Addr) (s : Shared) (P : PM) (s' : Shared) (P' : PM) : Prop where
  keep : ∀ b o, b ∉ D → s.heap.get? b = some o → s'.heap.get? b = some o
  upto : ∀ b o, b ∈ D → s.heap.get? b = some o → ∃ sl, s'.heap.get? b = some { o with slots := sl }
  le : PM.le P P'
  fresh : ∀ b o, P' b = some o → P b = some o ∨ s.heap.get? b = none
  sub : Sub P' s'
  gens : s'.gens = s.gens
  os : s'.os = s.os
section
variable {cs : Str → Prop} {s₀ s s' : Shared} {P₀ P P' : PM} {env : Env} {ρ : List (Str × Bd)} {O : List (Addr × Ob)}
theorem own_eq : ∀ {O : List (Addr × Ob)}, (O.map (·.1)).Nodup → ∀ {a : Addr} {b b' : Ob}, (a, b) ∈ O → (a, b') ∈ O → b = b'
  | (c, d) :: r, nd, a, b, b', h, h' => by
    obtain ⟨n1, n2⟩ := List.nodup_cons.mp nd
    rcases List.mem_cons.mp h with e | h
    · cases e
      rcases List.mem_cons.mp h' with e | h'
      · cases e; rfl
      · exact absurd (List.mem_map.mpr ⟨_, h', rfl⟩) n1
    · rcases List.mem_cons.mp h' with e | h'
      · cases e; exact absurd (List.mem_map.mpr ⟨_, h, rfl⟩) n1
      · exact own_eq n2 h h'
theorem St.shk {D : List Addr} (S : St cs s₀ P₀ env ρ O s P) (e : Shk D s P s' P') (hD : ∀ b ∈ D, b = env.locals ∨ ∃ o, (b, Ob.upto o) ∈ O) : St cs s₀ P₀ env ρ O s' P' := by
  have F := S.fs
  have off : ∀ b ∈ D, s₀.heap.get? b = none := fun b hb => (hD b hb).elim (fun q => q ▸ S.newL) fun ⟨o, ho⟩ => (S.own _ ho).2.2.1
  have none' : ∀ b o, s.heap.get? b = some o → P b = none → P' b = none := fun b o ho hp => by
    cases q : P' b with
    | none => rfl
    | some x => rcases e.fresh _ _ q with z | z
                · rw [hp] at z; cases z
                · rw [ho] at z; cases z
  have cell_off : ∀ n c, (n, c) ∈ env.cells → c ∉ D := fun n c hc hm => (hD c hm).elim (F.off n c hc) fun ⟨o, ho⟩ => (S.own _ ho).2.2.2.2 n c hc rfl
  have cellK : ∀ n c v, (n, c) ∈ env.cells → s.heap.IsCell c v → s'.heap.IsCell c v := fun n c v hc ⟨o, ho, hd⟩ => ⟨o, e.keep _ _ (cell_off n c hc) ho, hd⟩
  have nsK : ∀ m, s.heap.Ns env.locals m → s'.heap.Ns env.locals m := fun m ⟨o, es, ep, ho, hd, r⟩ => by
    by_cases hm : env.locals ∈ D
    · obtain ⟨sl, hs⟩ := e.upto _ _ hm ho
      exact ⟨_, es, ep, hs, hd, r⟩
    · exact ⟨o, es, ep, e.keep _ _ hm ho, hd, r⟩
  exact {
    ext := {
      keep := fun b o h => e.keep b o (fun hm => by rw [off b hm] at h; cases h) (S.ext.keep b o h)
      le := S.ext.le.trans e.le
      fresh := fun b o h => (e.fresh b o h).elim (fun h => S.ext.fresh b o h) fun h => .inr (by
        cases q : s₀.heap.get? b with
        | none => rfl
        | some o' => rw [S.ext.keep b o' q] at h; cases h)
      sub := e.sub
      gens := e.gens.trans S.ext.gens
      os := e.os.trans S.ext.os }
    fs := {
      kind := F.kind
      ns := let ⟨m, hm, r⟩ := F.ns; ⟨m, nsK m hm, fun n b hb hk => let ⟨v, a, q⟩ := r n b hb hk; ⟨v, a, b.mono e.le q⟩⟩
      cells := fun n c hc => let ⟨v, hv⟩ := F.cells n c hc; ⟨v, cellK n c v hc hv⟩
      cell := fun n b hb hk => let ⟨c, v, h1, h2, h3⟩ := F.cell n b hb hk; ⟨c, v, h1, cellK n c _ (mem_of_lookup h1) h2, b.mono e.le h3⟩
      apart := F.apart
      off := F.off
      pl := by
        obtain ⟨m, hm, _⟩ := F.ns
        obtain ⟨o, ho⟩ := Heap.Ns.some hm
        exact none' _ o ho F.pl
      pc := fun n c hc => by
        obtain ⟨v, hv⟩ := F.cells n c hc
        obtain ⟨o, ho⟩ := Heap.IsCell.some hv
        exact none' _ o ho (F.pc n c hc) }
    newL := S.newL
    newC := S.newC
    own := fun p hp => by
      obtain ⟨⟨o, ho, r⟩, h2, h3, h4, h5⟩ := S.own p hp
      refine ⟨?_, none' _ o ho h2, h3, h4, h5⟩
      by_cases hm : p.1 ∈ D
      · rcases hD _ hm with q | ⟨x, hx⟩
        · exact absurd q h4
        · have hb : p.2 = Ob.upto x := own_eq S.nodup (a := p.1) hp hx
          obtain ⟨sl, hs⟩ := e.upto _ _ hm ho
          rw [hb] at r ⊢
          obtain ⟨sl0, rfl⟩ := r
          exact ⟨_, hs, sl, rfl⟩
      · exact ⟨o, e.keep _ _ hm ho, p.2.mono e.le r⟩
    nodup := S.nodup }
/-- only the slots of some frames move -/
theorem Shk.of {D : List Addr} {h' : Heap} (hs : Sub P s) (hP : ∀ b ∈ D, P b = none) (x : Heap.SlotsOnly D s.heap h') : Shk D s P { s with heap := h' } P where
  keep := fun b o hb h => (x.2.1 b hb).trans h
  upto := fun b o _ h => x.2.2 b o h
  le := .refl P
  fresh := fun _ _ e => .inl e
  sub := fun b o h => (x.2.1 b fun hm => by rw [hP b hm] at h; cases h).trans (hs b o h)
  gens := rfl
  os := rfl
/-- what the callers' frames are: own objects of the call, of which the slots may move -/
theorem St.hide {D : List (Addr × Obj)} (S : St (fun _ => True) s₀ P₀ env ρ [] s P) (hD : ∀ p ∈ D, s₀.heap.get? p.1 = some p.2 ∧ P₀ p.1 = none) (nd : (D.map (·.1)).Nodup) :
    St (fun _ => True) { s₀ with heap := hideAll s₀.heap (D.map (·.1)) } P₀ env ρ (D.map fun p => (p.1, Ob.upto p.2)) s P where
  ext := {
    keep := fun b o h => S.ext.keep b o (of_hideAll _ h)
    le := S.ext.le
    fresh := fun b o h => (S.ext.fresh b o h).imp id fun h => by
      cases q : (hideAll s₀.heap (D.map (·.1))).get? b with
      | none => rfl
      | some o' => rw [of_hideAll _ q] at h; cases h
    sub := S.ext.sub
    gens := S.ext.gens
    os := S.ext.os }
  fs := S.fs
  newL := by
    cases q : (hideAll s₀.heap (D.map (·.1))).get? env.locals with
    | none => rfl
    | some o' => have := of_hideAll _ q; rw [S.newL] at this; cases this
  newC := fun n c h hc => by
    cases q : (hideAll s₀.heap (D.map (·.1))).get? c with
    | none => rfl
    | some o' => have := of_hideAll _ q; rw [S.newC n c h hc] at this; cases this
  own := fun p hp => by
    obtain ⟨x, hx, rfl⟩ := List.mem_map.mp hp
    obtain ⟨h1, h2⟩ := hD x hx
    refine ⟨⟨x.2, S.ext.keep _ _ h1, x.2.slots, rfl⟩, ?_, hideAll_none _ (List.mem_map.mpr ⟨x, hx, rfl⟩), fun q => ?_, fun n c hc q => ?_⟩
    · cases q : P x.1 with
      | none => rfl
      | some o => rcases S.ext.fresh _ _ q with z | z
                  · rw [h2] at z; cases z
                  · rw [h1] at z; cases z
    · have := S.newL; rw [← q, h1] at this; cases this
    · have := S.newC n c trivial hc; rw [← q, h1] at this; cases this
  nodup := by rw [List.map_map]; exact nd
end
end VS

end PartX1

noncomputable section PartX2
namespace VS
open PySem PySem.Calls PySem.W PyProof.Rows
/-! exceptions, as own objects of the call -/
def Ob.exc (tb ctx : Value) : Ob := ⟨fun _ o => o.cls = .type "IndexError" ∧ ∃ t, o.data = .fields #[t, tb, ctx, .none, .bool false, .none], fun _ h => h⟩
def Ob.tb (fl : Value) : Ob := ⟨fun _ o => ∃ ts, o.data = .fields ts ∧ ts[3]? = some fl, fun _ h => h⟩
/-- the frames under way, of which the call knows all but the slots -/
def FrOk (O : List (Addr × Ob)) (l : List Env) : Prop := ∀ en ∈ l, en.scope.kind ≠ .module ∧ ∃ L o, en.frame = some L ∧ (L, Ob.upto o) ∈ O ∧ ∀ vs, o.data ≠ .fields vs
theorem FrOk.sub {O O' : List (Addr × Ob)} {l : List Env} (h : FrOk O l) (hs : ∀ p ∈ O, p ∈ O') : FrOk O' l := fun en hen => let ⟨a, L, o, b, c, d⟩ := h en hen; ⟨a, L, o, b, hs _ c, d⟩
section
variable {cs : Str → Prop} {s₀ s s' : Shared} {P₀ P P' : PM} {env : Env} {ρ : List (Str × Bd)} {O : List (Addr × Ob)} {M : Model} {A : Around} {E : Value → Shared → Prop} {l : List Env}
/-- a new exception -/
theorem St.raised {h' : Heap} {tk : Nat} {e : Addr} (S : St cs s₀ P₀ env ρ O s P) (x : Heap.NewExc s.heap h' e "IndexError") : St cs s₀ P₀ env ρ ((e, Ob.exc .none .none) :: O) { s with heap := h', toks := tk } P := by
  obtain ⟨ob, t, h1, h2, h3⟩ := x.there
  exact S.adopt (b := Ob.exc .none .none) (.heap S.sub x.keeps) x.new h1 (S.sub.none x.new) ⟨h2, t, h3⟩
theorem St.frames (S : St cs s₀ P₀ env ρ O s P) (hf : env.frame = some env.locals) (F : FrOk O l) : s.heap.FunFrames default (env :: l) := by
  have key : ∀ l, FrOk O l → s.heap.FunFrames default l := by
    intro l
    induction l with
    | nil => intro _; trivial
    | cons en r ih =>
      intro F
      obtain ⟨a, L, o, b, c, d⟩ := F en (.head _)
      obtain ⟨⟨o', ho', sl, rfl⟩, _⟩ := S.own _ c
      exact ⟨a, ⟨L, _, b, Heap.get?_none_of_le (Nat.zero_le _), ho', d⟩, ih fun en h => F en (.tail _ h)⟩
  obtain ⟨m, ⟨o, es, ep, ho, hd, _⟩, _⟩ := S.fs.ns
  exact ⟨by rw [S.fs.kind]; decide, ⟨_, o, hf, Heap.get?_none_of_le (Nat.zero_le _), ho, fun vs q => by rw [hd] at q; cases q⟩, key l F⟩
theorem mem_frames {l : List Env} {b : Addr} (F : FrOk O l) (h : b ∈ l.filterMap (·.frame)) : ∃ o, (b, Ob.upto o) ∈ O := by
  obtain ⟨en, hen, hb⟩ := List.mem_filterMap.mp h
  obtain ⟨_, L, o, q, c, _⟩ := F en hen
  rw [hb] at q; cases q
  exact ⟨o, c⟩
theorem St.framesMem (S : St cs s₀ P₀ env ρ O s P) (hf : env.frame = some env.locals) (F : FrOk O l) : ∀ b ∈ (env :: l).filterMap (·.frame), b = env.locals ∨ ∃ o, (b, Ob.upto o) ∈ O := fun b hb => by
  rw [List.filterMap_cons, hf] at hb
  exact (List.mem_cons.mp hb).imp id fun h => mem_frames F h
theorem St.framesOff (S : St cs s₀ P₀ env ρ O s P) (hf : env.frame = some env.locals) (F : FrOk O l) : ∀ b ∈ (env :: l).filterMap (·.frame), P b = none := fun b hb =>
  (S.framesMem hf F b hb).elim (fun q => q ▸ S.fs.pl) fun ⟨o, ho⟩ => (S.own _ ho).2.1
/-- the frame is written into a new exception -/
theorem St.noteNew {e : Addr} {c : Value} {Q : Unit → Shared → Prop} (S : St cs s₀ P₀ env ρ ((e, Ob.exc .none c) :: O) s P) (hfr : A.frames = some (env :: l)) (hf : env.frame = some env.locals) (F : FrOk O l)
    (k : ∀ T s', St cs s₀ P₀ env ρ ((T, Ob.tb (rawInt env.locals)) :: (e, Ob.exc (.ref T) c) :: O) s' P → Q () s') : wpAny M A (noteFrame (.ref e) env) Q E s := by
  have F' : FrOk ((e, Ob.exc .none c) :: O) l := F.sub fun _ h => .tail _ h
  obtain ⟨oe, he, ⟨hcls, t, hd⟩, hP⟩ := S.obj
  unfold noteFrame
  simp only [hf]
  refine wpAny_bind (wpAny_field he hd (i := 1) (x := .none) rfl ?_)
  rw [if_neg (by decide)]
  refine wpAny_bind (wpAny_frameOf_fun hfr (S.frames hf F') hf fun h₁ hs₁ => ?_)
  have S1 := S.shk (Shk.of S.sub (S.framesOff hf F') hs₁) (S.framesMem hf F')
  refine wpAny_bind (wpAny_entryPlaceOf fun pl hpl => ?_)
  unfold EntryCells.newEntry newFields
  refine wpAny_bind (wpAny_newObj_type ?_ (hpl.sizeOk5 _ _ _ _ _))
  have S2 := St.make S1 (b := Ob.tb (rawInt env.locals)) (o := { cls := .type "traceback", dict := none, data := .fields ([Value.none, .ref env.locals, .none, rawInt env.locals, .none] ++ (if pl.isEmpty then List.replicate 6 Value.none else pl)).toArray }) (tk := s.toks) ⟨_, rfl, by simp⟩
  have S3 := S2.swap
  obtain ⟨oe3, he3, ⟨hcls3, t3, hd3⟩, hP3⟩ := S3.obj
  refine wpAny_setField he3 hd3 (by simp) ?_
  refine k h₁.objs.size _ (St.swap (S3.change (b' := Ob.exc (.ref h₁.objs.size) c) (Heap.get?_update_self _ he3 (Obj.isFreed_of_fields (Obj.data_mapFields hd3 _))) ⟨?_, t3, ?_⟩ fun c' o hc ho => (Heap.get?_update_other _ _ (Ne.symm hc)).trans ho))
  · rw [Obj.cls_mapFields]; exact hcls3
  · rw [Obj.data_mapFields hd3]; rfl
/-- again, while it is under way here -/
theorem St.noteAgain {e T : Addr} {c : Value} {Q : Unit → Shared → Prop} (S : St cs s₀ P₀ env ρ ((T, Ob.tb (rawInt env.locals)) :: (e, Ob.exc (.ref T) c) :: O) s P) (hf : env.frame = some env.locals) (k : Q () s) : wpAny M A (noteFrame (.ref e) env) Q E s := by
  obtain ⟨oT, hT, ⟨ts, hdT, h3⟩, _⟩ := S.obj
  obtain ⟨oe, he, ⟨hcls, t, hd⟩, hP⟩ := S.swap.obj
  exact wpAny_noteFrame_inFlight hf he hd rfl hT hdT h3 k
theorem St.flight {e T : Addr} {c fl : Value} {f : Option Addr} {Q : Unit → Shared → Prop} (S : St cs s₀ P₀ env ρ ((T, Ob.tb fl) :: (e, Ob.exc (.ref T) c) :: O) s P)
    (k : ∀ s', St cs s₀ P₀ env ρ ((T, Ob.tb (f.elim Value.none fun f => rawInt f)) :: (e, Ob.exc (.ref T) c) :: O) s' P → Q () s') : wpAny M A (setFlight (.ref e) f) Q E s := by
  obtain ⟨oT, hT, ⟨ts, hdT, h3⟩, _⟩ := S.obj
  obtain ⟨oe, he, ⟨hcls, t, hd⟩, hP⟩ := S.swap.obj
  have hsz : 3 < ts.size := (Array.getElem?_eq_some_iff.mp h3).1
  unfold setFlight
  refine wpAny_bind (wpAny_field he hd (i := 1) (x := .ref T) rfl ?_)
  rw [if_pos (show (Value.ref T != Value.none) = true from by simp)]
  refine wpAny_setField hT hdT hsz (k _ (S.change (Heap.get?_update_self _ hT (Obj.isFreed_of_fields (Obj.data_mapFields hdT _))) ⟨_, Obj.data_mapFields hdT _, ?_⟩ fun c' o hc ho => (Heap.get?_update_other _ _ (Ne.symm hc)).trans ho))
  simp [hsz]
end
end VS

end PartX2

noncomputable section PartX3
namespace VS
open PySem PySem.Calls PySem.W PyProof.Rows
/-- what is being handled where the call stands: nothing, or an exception of its own that has no context; c is the context that a new one gets -/
def HOk (A : Around) (O : List (Addr × Ob)) (c : Value) : Prop := (A.handled = none ∧ c = .none) ∨ ∃ e1 tb, A.handled = some (.ref e1) ∧ (e1, Ob.exc tb .none) ∈ O ∧ c = .ref e1
theorem entry_unchain : entryFor table "proto.unchain" = some Builtin.«proto.unchain» := entryFor_of_tree (by kernel_rfl)
section
variable {cs : Str → Prop} {s₀ s s' : Shared} {P₀ P P' : PM} {env : Env} {ρ : List (Str × Bd)} {O : List (Addr × Ob)} {prog : Program} {w : World} {A : Around} {E : Value → Shared → Prop} {α β : Type} {τ : Ty α} {c : Value}
theorem St.raiseNew {γ : Type} {e : Addr} {Q : γ → Shared → Prop} (S : St cs s₀ P₀ env ρ ((e, Ob.exc .none .none) :: O) s P) (H : HOk A O c) (k : ∀ s', St cs s₀ P₀ env ρ ((e, Ob.exc .none c) :: O) s' P → E (.ref e) s') :
    wpAny (model prog w) A (PySem.raiseNew (.ref e) : Sem γ) Q E s := by
  rcases H with ⟨hh, rfl⟩ | ⟨e1, tb, hh, hm, rfl⟩
  · exact wpAny_raiseNew_none hh (k _ S)
  · unfold PySem.raiseNew
    refine wpAny_bind (wpAny_handled ?_)
    rw [hh]
    have hne : e1 ≠ e := fun q => (List.nodup_cons.mp S.nodup).1 (List.mem_map.mpr ⟨_, hm, q⟩)
    obtain ⟨oe, he, ⟨hcls, t, hd⟩, hP⟩ := S.obj
    obtain ⟨⟨o1, h1, hcls1, t1, hd1⟩, _⟩ := S.own _ (List.mem_cons_of_mem _ hm)
    show wpAny _ A (if (Value.ref e1 != Value.ref e) = true then _ else _) _ _ _
    rw [if_pos (by simpa using hne)]
    refine wpAny_bind (wpAny_holding (wpAny_runValue ?_))
    refine codeAny_builtin entry_unchain ?_
    show wpAny _ _ (field (.ref e1) 2 >>= _) _ _ s
    refine wpAny_bind (wpAny_field h1 hd1 (x := .none) rfl ?_)
    rw [if_pos (by decide)]
    refine wpAny_bind (wpAny_pure (wpAny_pure ?_))
    refine wpAny_bind ?_
    show wpAny _ _ (setField (.ref e) 2 (.ref e1)) _ _ s
    refine wpAny_setField he hd (by show 2 < 6; omega) (wpAny_throw (k _ (S.change (Heap.get?_update_self _ he (Obj.isFreed_of_fields (Obj.data_mapFields hd _))) ⟨?_, t, ?_⟩ fun c' o hc ho => (Heap.get?_update_other _ _ (Ne.symm hc)).trans ho)))
    · rw [Obj.cls_mapFields]; exact hcls
    · rw [Obj.data_mapFields hd]; rfl
theorem St.raiseWords {γ : Type} {msg : String} {Q : γ → Shared → Prop} (S : St cs s₀ P₀ env ρ O s P) (H : HOk A O c) (k : ∀ e s', St cs s₀ P₀ env ρ ((e, Ob.exc .none c) :: O) s' P → E (.ref e) s') :
    wpAny (model prog w) A (raiseErrorWords "IndexError" msg : Sem γ) Q E s := by
  have hp := plainExc_IndexError
  unfold raiseErrorWords
  refine wpAny_bind (wpAny_mkText (wpAny_bind ?_))
  unfold newExc newTuple
  refine wpAny_bind (wpAny_newObj_type ?_)
  refine wpAny_bind (m := firstArgMember _ _) (wpAny_of_eq (a := Value.none) (by simp only [firstArgMember, hp.first]; rfl) ?_)
  rw [hp.own]
  refine wpAny_newObj_type ?_
  refine St.raiseNew ?_ H fun s' S' => k _ s' S'
  exact S.raised ⟨fun b o hb => Heap.get?_push_of_some _ (Heap.get?_push_of_some _ hb), Heap.get?_none_of_le (by simp), _, .ref s.heap.objs.size, Heap.get?_push_size _ rfl, rfl, by simp⟩
/-- an item beyond the end -/
theorem St.getOut {l : Addr} {items : Array Value} {i : Int} {j : Nat} {t : Tok} {Q : Value → Shared → Prop} (S : St cs s₀ P₀ env ρ O s P) (H : HOk A O c) (hl : s.heap.IsList l items) (hi : i = Int.ofNat j) (hout : items.size ≤ j) (hfit : Builtin.List.listFitsIndex i = true)
    (k : ∀ e s', St cs s₀ P₀ env ρ ((e, Ob.exc .none c) :: O) s' P → E (.ref e) s') : wpAny (model prog w) A (getItem (.ref l) (.int i t)) Q E s := by
  obtain ⟨o, ho, hc, ne, hd⟩ := id hl
  have H' : HOk A.in1 O c := H
  unfold getItem
  refine wpAny_holding ?_
  refine wpAny_bind (wpAny_sequenceKey hl.typeIs (by decide) ?_)
  refine wpAny_bind (wpAny_callSpecial?_slot (name := Str.ofString "__getitem__") hl.typeIs slot_list_getitem
    (wpAny_call_entry slot_list_getitem hl.typeIs entry_list_getitem ?_ (args_list_getitem _ _)))
  show wpAny _ _ (Builtin.List.listSubscript? (.int i t) >>= _) _ _ s
  refine wpAny_bind (wpAny_listSubscript_int hfit ?_)
  clear hfit
  subst hi
  have hx : items[j]? = none := Array.getElem?_eq_none hout
  show wpAny _ _ ((seqItemAt l j >>= fun r => pure (r.map (j, ·))) >>= _) _ _ s
  refine wpAny_bind (wpAny_bind (wpAny_seqItemAt ho hd (wpAny_pure ?_)))
  rw [hx]
  first
    | exact wpAny_bind (wpAny_rule (S.raiseWords H' k))
    | exact wpAny_bind (wpAny_rule (wpAny_bind (S.raiseWords H' k)))
    | exact wpAny_bind (wpAny_bind (wpAny_rule (S.raiseWords H' k)))
    | exact wpAny_rule (S.raiseWords H' k)
end
end VS

end PartX3

noncomputable section PartV23
namespace VS
open PySem PySem.Calls PySem.W PyProof.Rows

section
variable {prog : Program} {w : World} {A : Around} {cs : Str → Prop} {env : Env} {α β γ δ : Type} {τ : Ty α} {σ : Ty β} {υ : Ty γ} {s₀ s : Shared} {P₀ P : PM} {ρ : List (Str × Bd)} {O : List (Addr × Ob)} {E : Value → Shared → Prop} {x : α} {y : β} {z : γ}

/-! += on lists -/
theorem fillsI_list : fillsInplaceSlot (.type "list") "add" (Operator.Add == .Add) = pure false := by
  unfold fillsInplaceSlot
  show (typeLookup (.type "list") (dunderI "add") >>= fun fi => pure (fi.isSome && !isSeqSlot fi)) = pure false
  rw [PySem.F.slot_list_iadd.lookup]; rfl
theorem seqI_list : seqSlot? (.type "list") (dunderI "add") = pure (some (.builtin "list.__iadd__")) := PySem.seqSlot_of PySem.F.slot_list_iadd.lookup (by decide +kernel)
theorem own_iadd {D b : Addr} {its its2 : Array Value} {n n2 : Nat} {Q : Value → Shared → Prop} (hl : s.heap.get? D = some { cls := .type "list", dict := none, data := .seq its n, slots := #[] }) (hb : s.heap.get? b = some { cls := .type "list", dict := none, data := .seq its2 n2, slots := #[] })
    (hsz : its.size + its2.size ≤ sizeLine) (h : Q (.ref D) { s with heap := s.heap.update D (Obj.mapSeq fun x => x ++ its2) }) : wpAny (model prog w) A (inplaceOp .Add (.ref D) (.ref b)) Q E s := by
  unfold inplaceOp
  refine wpAny_holding ?_
  refine wpAny_bind (wpAny_typeOf (T := "list") ⟨_, hl, rfl⟩ (wpAny_bind (wpAny_of_eq fillsI_list ?_)))
  show wpAny _ A (if false = true then _ else _) Q E s
  rw [if_neg Bool.false_ne_true]
  refine wpAny_bind (wpAny_binaryOp1_none (T := "list") (nm := "add") ⟨_, hl, rfl⟩ ⟨_, hb, rfl⟩ PySem.noFill_list_add ?_)
  refine wpAny_bind (wpAny_of_eq seqI_list ?_)
  refine wpAny_bind (wpAny_rule ?_)
  refine call_meets PySem.F.slot_list_iadd ⟨_, hl, rfl⟩ PySem.F.entry_list_iadd (PySem.F.args_list_iadd_2 _ _) (PySem.AutoSeq1.list___iadd___list_list_0 D its n b its2 n2 (extend_door hsz) (by omega) (by omega)) ⟨hl, hb, h⟩

/-- a name's own list is added to -/
theorem St.iaddOwn {D : Addr} {nm : Str} {xs ys : List α} {value : Expr} {np pos : Pos} {k : NameKind} {Q : Flow → Shared → Prop} (S : St cs s₀ P₀ env ρ ((D, Ob.list τ xs) :: O) s P) (hb : ρ.lookup nm = some (Ty.raw.at (.ref D))) (hkn : env.kindOf nm = some k)
    (h : Ev prog w A s P (eval value env) (Ty.list τ) ys) (hk : Storable cs env nm) (hsz : xs.length + ys.length ≤ sizeLine)
    (kq : ∀ s' P', PM.le P P' → St cs s₀ P₀ env ((nm, Ty.raw.at (.ref D)) :: ρ) ((D, Ob.list τ (xs ++ ys)) :: O) s' P' → Q .next s')
    (hk' : k = .local ∨ k = .cell ∨ k = .free := by decide) (hn : (nm == ("__classdict__" : Str)) = false := by decide) : wpAny (model prog w) A (exec (.AugAssign (.Name nm np) .Add value pos) env) Q E s := by
  obtain ⟨v, hv, r⟩ := S.fs.var hb hkn hk'
  cases r
  refine wpAny_AugAssign_Name (hv.load (h.use S.sub fun u s1 P1 e1 ru => ?_) hn)
  have S1 := S.go e1
  obtain ⟨vs, n, hob, hpr, hP⟩ := S1.items
  obtain ⟨b, ws, n2, rfl, hw, hpw⟩ := Ty.seqAt ru
  refine own_iadd hob (e1.sub _ _ hw) (by simp only [List.size_toArray]; rw [hpr.length, hpw.length]; exact hsz) ?_
  obtain ⟨⟨n', hn'⟩, kp⟩ := upd_seq (fun x => x ++ ws.toArray) hob
  have S2 := S1.change (b' := Ob.list τ (xs ++ ys)) (tk := s1.toks) hn' ⟨vs ++ ws, n', by simp, pApp hpr hpw⟩ kp
  exact S2.store (b := Ty.raw.at (.ref D)) rfl hk fun s3 S3 => kq s3 P1 e1.le S3

/-! to look at an own object as if it were frozen -/
theorem Ext.own {s1 s2 : Shared} {P1 P2 : PM} {D : Addr} {o : Obj} (e : Ext s1 (P1.put D o) s2 P2) (hP : P1 D = none) : Ext s1 P1 s2 P1 where
  keep := e.keep
  le := .refl _
  fresh := fun a x h => .inl h
  sub := fun a x h => e.sub _ _ (e.le _ _ (PM.le_put hP _ _ h))
  gens := e.gens
  os := e.os
theorem Ext.lift {s1 : Shared} {P1 : PM} {D : Addr} {o : Obj} (e : Ext s P s1 P1) (ho : s.heap.get? D = some o) (hP : P D = none) : Ext s (P.put D o) s1 (P1.put D o) ∧ P1 D = none := by
  have h1 : P1 D = none := by
    cases q : P1 D with
    | none => rfl
    | some o' => rcases e.fresh _ _ q with z | z
                 · rw [hP] at z; cases z
                 · rw [ho] at z; cases z
  refine ⟨{ keep := e.keep, le := fun a x h => ?_, fresh := fun a x h => ?_, sub := fun a x h => ?_, gens := e.gens, os := e.os }, h1⟩
  · by_cases q : a = D
    · subst q; rw [PM.put_self] at h ⊢; exact h
    · rw [PM.put_ne q] at h ⊢; exact e.le _ _ h
  · by_cases q : a = D
    · subst q; rw [PM.put_self] at h; left; rw [PM.put_self]; exact h
    · rw [PM.put_ne q] at h ⊢; exact e.fresh _ _ h
  · by_cases q : a = D
    · subst q; rw [PM.put_self] at h; cases h; exact e.keep _ _ ho
    · rw [PM.put_ne q] at h; exact e.sub _ _ h
theorem EvB.own {D : Addr} {o : Obj} {t : Sem Bool} {b : Bool} (ho : s.heap.get? D = some o) (hP : P D = none) (h : EvB prog w A s (P.put D o) t b) : EvB prog w A s P t b := fun s1 P1 e => by
  obtain ⟨e', h1⟩ := e.lift ho hP
  exact wpAny_mono (h s1 _ e') (fun c s2 ⟨hc, P2, e2⟩ => ⟨hc, P1, e2.own h1⟩) fun _ _ f => f
theorem Ev.rawTo {t : Sem Value} {v : Value} (h : Ev prog w A s P t Ty.raw v) (r : τ.rel P v x) : Ev prog w A s P t τ x := fun s1 P1 e =>
  wpAny_mono (h s1 P1 e) (fun u s2 ⟨P2, e2, q⟩ => by cases q; exact ⟨P2, e2, τ.mono (e.le.trans e2.le) r⟩) fun _ _ f => f
/-- a test that looks at an own list -/
theorem EvB.ownList {D : Addr} {xs : List α} {t : Sem Bool} {b : Bool} (S : St cs s₀ P₀ env ρ ((D, Ob.list τ xs) :: O) s P)
    (h : ∀ P', PM.le P P' → St cs s₀ P₀ env ρ O s P' → (Ty.list τ).rel P' (.ref D) xs → EvB prog w A s P' t b) : EvB prog w A s P t b := by
  obtain ⟨o, ho, r, hP⟩ := S.obj
  refine EvB.own ho hP ?_
  obtain ⟨o', r', S', l'⟩ := S.freeze
  have : o' = o := by
    have := S'.sub _ _ (PM.put_self (P := P) (a := D) (o := o'))
    rw [ho] at this; cases this; rfl
  subst this
  exact h _ l' S' (Ob.listFin P o' D r hP)

/-! a list display that is the call's own -/
theorem St.ownDisplay {elts : List Expr} {nm : Str} {np p pos : Pos} {xs : List α} {R : PM → List Value → Prop} {rest : List Stmt} {Q : Flow → Shared → Prop} (S : St cs s₀ P₀ env ρ O s P) (h : EvL prog w A s P (spliced (backTo p (starEach elts env))) R)
    (hr : ∀ P1 vs, R P1 vs → Paired (τ.rel P1) vs xs) (hn : xs.length ≤ 1000) (hk : Storable cs env nm)
    (k : ∀ D s' P', PM.le P P' → St cs s₀ P₀ env ((nm, Ty.raw.at (.ref D)) :: ρ) ((D, Ob.list τ xs) :: O) s' P' → wpAny (model prog w) A (execs rest env) Q E s')
    (hs : swapsWith (.List elts p) (some (.Name nm np)) pos.line env = pure false := by rfl) : wpAny (model prog w) A (execs (.Assign [.Name nm np] (.List elts p) pos :: rest) env) Q E s :=
  wpAny_execs_cons (wpAny_Assign_Name (wpAny_List (h.use (.refl S.sub) fun vs s2 P2 e2 r => ⟨by rw [(hr _ _ r).length]; exact Nat.le_trans hn (by decide), by
    have S2 := S.go e2
    have S3 := S2.make (b := Ob.list τ xs) (o := { cls := .type "list", data := .seq vs.toArray }) (tk := s2.toks) ⟨vs, _, rfl, hr _ _ r⟩
    exact S3.store (b := Ty.raw.at (.ref _)) rfl hk fun s4 S4 => k _ s4 P2 e2.le S4⟩)) hs)

/-! several names at once -/
theorem St.assign2 {n1 n2 : Str} {p1 p2 tp pos : Pos} {k : Nat} {value : Expr} {Q : Flow → Shared → Prop} (S : St cs s₀ P₀ env ρ O s P) (hh : A.handled = none) (h : Ev prog w A s P (eval value env) (Ty.pair τ σ) (x, y)) (k1 : Storable cs env n1) (k2 : Storable cs env n2)
    (kq : ∀ s' P', PM.le P P' → St cs s₀ P₀ env ((n2, σ.at y) :: (n1, τ.at x) :: ρ) O s' P' → Q .next s')
    (hs : swapsWithSole [.Tuple [.Name n1 p1, .Name n2 p2] k tp] value pos.line env = pure false := by rfl) (hw : swappedStores [.Tuple [.Name n1 p1, .Name n2 p2] k tp] value env = pure none := by rfl) :
    wpAny (model prog w) A (exec (.Assign [.Tuple [.Name n1 p1, .Name n2 p2] k tp] value pos) env) Q E s :=
  Assign_Tuple (h.use S.sub fun v s1 P1 e1 ⟨v1, v2, q, r1, r2⟩ => wpAny_mono (Asg.two hh q (Asg.name (b := τ.at x) r1 k1) (Asg.name (b := σ.at y) r2 k2) rfl _ _ _ _ _ _ (S.go e1)) (fun _ s2 S2 => kq s2 P1 e1.le S2) fun _ _ e => e) hs hw
theorem St.assign3v {n1 n2 n3 : Str} {p1 p2 p3 tp : Pos} {k : Nat} {v : Value} {Q : Unit → Shared → Prop} (S : St cs s₀ P₀ env ρ O s P) (hh : A.handled = none) (r : (Ty.trip τ σ υ).rel P v (x, y, z)) (k1 : Storable cs env n1) (k2 : Storable cs env n2) (k3 : Storable cs env n3)
    (kq : ∀ s', St cs s₀ P₀ env ((n3, υ.at z) :: (n2, σ.at y) :: (n1, τ.at x) :: ρ) O s' P → Q () s') : wpAny (model prog w) A (PySem.assign (.Tuple [.Name n1 p1, .Name n2 p2, .Name n3 p3] k tp) env v) Q E s := by
  obtain ⟨v1, v2, v3, q, r1, r2, r3⟩ := r
  exact wpAny_mono (Asg.three hh q (Asg.name (b := τ.at x) r1 k1) (Asg.name (b := σ.at y) r2 k2) (Asg.name (b := υ.at z) r3 k3) rfl _ _ _ _ _ _ S) (fun _ s2 S2 => kq s2 S2) fun _ _ e => e
end
end VS

end PartV23

noncomputable section PartV25
namespace VS
open PySem PySem.Calls PySem.W PyProof.Rows

namespace FM
theorem mro_map : mroOf (.type "map") = pure [.type "map", .type "object"] := by rw [mroOf_type]; kernel_rfl
theorem lookup_map_new : typeLookup (.type "map") "__new__" = pure (some (.builtin "map.__new__")) := by rw [typeLookup_type, builtinLookup_eq_fast]; kernel_rfl
theorem slot_map_init : Slot "map" "__init__" "object.__init__" :=
  .of (owner := "object") (n := "__init__") (by rw [typeLookup_type, builtinLookup_eq_fast]; kernel_rfl) (by decide +kernel) (by decide +kernel) (by decide +kernel)
    (by first | exact .inl (by decide +kernel) | exact .inr (by decide +kernel)) (by rw [isSubtype_type]; kernel_rfl)
theorem called_map : TypeCalled "map" "map.__new__" "object.__init__" :=
  ⟨by decide +kernel, by decide +kernel, ⟨_, _, mro_map⟩, madeBy_type mro_map lookup_map_new (by decide +kernel), by decide +kernel, by rw [isSubtype_type]; kernel_rfl, slot_map_init⟩
theorem typeCall_map_2 (a b : Value) : checkTypeCall "map" ⟨[a, b], []⟩ = pure () := by kernel_rfl
theorem newCall_map_2 (a b : Value) : checkBuiltinCall "map.__new__" ⟨[.type "map", a, b], []⟩ = pure () := by kernel_rfl
theorem entry_map_new : entryFor table "map.__new__" = some Builtin.«map.__new__» := entryFor_of_tree (by kernel_rfl)
theorem slot_map_next : Slot "map" "__next__" "map.__next__" :=
  .of (owner := "map") (n := "__next__") (by rw [typeLookup_type, builtinLookup_eq_fast]; kernel_rfl) (by decide +kernel) (by decide +kernel) (by decide +kernel)
    (by first | exact .inl (by decide +kernel) | exact .inr (by decide +kernel)) (by rw [isSubtype_type]; kernel_rfl)
theorem entry_map_next : entryFor table "map.__next__" = some Builtin.«map.__next__» := entryFor_of_tree (by kernel_rfl)
theorem slot_map_iter : Slot "map" "__iter__" "map.__iter__" :=
  .of (owner := "map") (n := "__iter__") (by rw [typeLookup_type, builtinLookup_eq_fast]; kernel_rfl) (by decide +kernel) (by decide +kernel) (by decide +kernel)
    (by first | exact .inl (by decide +kernel) | exact .inr (by decide +kernel)) (by rw [isSubtype_type]; kernel_rfl)
theorem entry_map_iter : entryFor table "map.__iter__" = some Builtin.«dict_keyiterator.__iter__» :=
  entryFor_alias (id' := "dict_keyiterator.__iter__") (by kernel_rfl) (by first | rfl | decide +kernel | (unfold String.splitOn; simp +decide [String.splitOnAux])) (by decide +kernel) (by kernel_rfl)
end FM
end VS

end PartV25

noncomputable section PartV26
namespace VS
open PySem PySem.Calls PySem.W PyProof.Rows

/-- a stretch of the run without a frame: its base and its own objects -/
structure Hs (s₀ : Shared) (P₀ : PM) (O : List (Addr × Ob)) (s : Shared) (P : PM) : Prop where
  ext : Ext s₀ P₀ s P
  own : ∀ p ∈ O, (∃ o, s.heap.get? p.1 = some o ∧ p.2.rel P o) ∧ P p.1 = none ∧ s₀.heap.get? p.1 = none
  nodup : (O.map (·.1)).Nodup

section
variable {s₀ s s' : Shared} {P₀ P P' : PM} {O O1 : List (Addr × Ob)}
theorem Hs.start (h : Sub P s) : Hs s P [] s P := ⟨.refl h, fun _ h => (nomatch h), .nil⟩
theorem Hs.sub (S : Hs s₀ P₀ O s P) : Sub P s := S.ext.sub
theorem Hs.go (S : Hs s₀ P₀ O s P) (e : Ext s P s' P') : Hs s₀ P₀ O s' P' where
  ext := S.ext.trans e
  own := fun p hp => by
    obtain ⟨⟨o, ho, r⟩, h2, h3⟩ := S.own p hp
    refine ⟨⟨o, e.keep _ _ ho, p.2.mono e.le r⟩, ?_, h3⟩
    cases q : P' p.1 with
    | none => rfl
    | some o' => rcases e.fresh _ _ q with h | h
                 · rw [h2] at h; cases h
                 · rw [ho] at h; cases h
  nodup := S.nodup
theorem Hs.perm {O' : List (Addr × Ob)} (S : Hs s₀ P₀ O s P) (h : O.Perm O') : Hs s₀ P₀ O' s P :=
  { S with own := fun p hp => S.own p (h.mem_iff.mpr hp), nodup := (h.map _).nodup_iff.mp S.nodup }
theorem Hs.drop {p : Addr × Ob} (S : Hs s₀ P₀ (p :: O) s P) : Hs s₀ P₀ O s P := { S with own := fun p hp => S.own p (.tail _ hp), nodup := (List.nodup_cons.mp S.nodup).2 }
theorem Hs.obj {a : Addr} {b : Ob} (S : Hs s₀ P₀ ((a, b) :: O) s P) : ∃ o, s.heap.get? a = some o ∧ b.rel P o ∧ P a = none := by
  obtain ⟨⟨o, h1, h2⟩, h3, _⟩ := S.own (a, b) (.head _)
  exact ⟨o, h1, h2, h3⟩
theorem Hs.base (S : Hs s₀ P₀ O s P) {a : Addr} (h : s.heap.get? a = none) : s₀.heap.get? a = none := gone S.ext h
theorem Hs.adoptAll {s2 : Shared} {P2 : PM} (S : Hs s₀ P₀ O s P) (e : Ext s P s2 P2) (N : News s s2 P2 O1) : Hs s₀ P₀ (O1 ++ O) s2 P2 := by
  have S1 := S.go e
  refine { S1 with own := fun p hp => ?_, nodup := ?_ }
  · rcases List.mem_append.mp hp with hp | hp
    · obtain ⟨h1, h2, h3⟩ := N.own p hp
      exact ⟨h1, h2, S.base h3⟩
    · exact S1.own p hp
  · rw [List.map_append]
    refine List.nodup_append.mpr ⟨N.nodup, S1.nodup, fun a ha b hb e => ?_⟩
    obtain ⟨p, hp, rfl⟩ := List.mem_map.mp ha
    obtain ⟨q, hq, e'⟩ := List.mem_map.mp hb
    obtain ⟨⟨o, ho, _⟩, _⟩ := S.own q hq
    have := (N.own p hp).2.2
    rw [e, ← e', ho] at this; cases this
theorem Hs.make (S : Hs s₀ P₀ O s P) {o : Obj} {b : Ob} {tk : Nat} (r : b.rel P o) (hf : o.isFreed = false := by rfl) : Hs s₀ P₀ ((s.heap.objs.size, b) :: O) { s with heap := s.heap.push o, toks := tk } P :=
  S.adoptAll (O1 := [(s.heap.objs.size, b)]) (.heap S.sub fun _ _ e => Heap.get?_push_of_some _ e) ⟨fun p hp => by
    cases List.mem_singleton.mp hp
    exact ⟨⟨o, Heap.get?_push_size _ hf, r⟩, S.sub.none (get?_size _), get?_size _⟩, by simp⟩
theorem Hs.change {a : Addr} {b b' : Ob} {h' : Heap} {tk : Nat} {o' : Obj} (S : Hs s₀ P₀ ((a, b) :: O) s P) (ho : h'.get? a = some o') (r : b'.rel P o') (kp : ∀ c o, c ≠ a → s.heap.get? c = some o → h'.get? c = some o) :
    Hs s₀ P₀ ((a, b') :: O) { s with heap := h', toks := tk } P := by
  obtain ⟨⟨o, hoa, ra⟩, h2, h3⟩ := S.own (a, b) (.head _)
  obtain ⟨nd1, nd2⟩ := List.nodup_cons.mp S.nodup
  exact {
    ext := {
      keep := fun c o e => kp c o (fun q => by rw [q, h3] at e; cases e) (S.ext.keep c o e)
      le := S.ext.le
      fresh := S.ext.fresh
      sub := fun c o e => kp c o (fun q => by rw [q, h2] at e; cases e) (S.ext.sub c o e)
      gens := S.ext.gens
      os := S.ext.os }
    own := fun p hp => by
      rcases List.mem_cons.mp hp with rfl | hp
      · exact ⟨⟨o', ho, r⟩, h2, h3⟩
      · obtain ⟨⟨o₁, ho₁, r₁⟩, g2, g3⟩ := S.own p (.tail _ hp)
        exact ⟨⟨o₁, kp _ _ (fun q => nd1 (List.mem_map.mpr ⟨p, hp, q⟩)) ho₁, r₁⟩, g2, g3⟩
    nodup := List.nodup_cons.mpr ⟨nd1, nd2⟩ }
theorem Hs.leave {a : Addr} {b : Ob} {h' : Heap} {tk : Nat} (S : Hs s₀ P₀ ((a, b) :: O) s P) (kp : ∀ c o, c ≠ a → s.heap.get? c = some o → h'.get? c = some o) : Hs s₀ P₀ O { s with heap := h', toks := tk } P := by
  obtain ⟨⟨o, hoa, ra⟩, h2, h3⟩ := S.own (a, b) (.head _)
  obtain ⟨nd1, nd2⟩ := List.nodup_cons.mp S.nodup
  exact {
    ext := {
      keep := fun c o e => kp c o (fun q => by rw [q, h3] at e; cases e) (S.ext.keep c o e)
      le := S.ext.le
      fresh := S.ext.fresh
      sub := fun c o e => kp c o (fun q => by rw [q, h2] at e; cases e) (S.ext.sub c o e)
      gens := S.ext.gens
      os := S.ext.os }
    own := fun p hp => by
      obtain ⟨⟨o₁, ho₁, r₁⟩, g2, g3⟩ := S.own p (.tail _ hp)
      exact ⟨⟨o₁, kp _ _ (fun q => nd1 (List.mem_map.mpr ⟨p, hp, q⟩)) ho₁, r₁⟩, g2, g3⟩
    nodup := nd2 }
theorem Hs.freeze {a : Addr} {b : Ob} (S : Hs s₀ P₀ ((a, b) :: O) s P) : ∃ o, b.rel P o ∧ Hs s₀ P₀ O s (P.put a o) ∧ PM.le P (P.put a o) ∧ P a = none := by
  obtain ⟨⟨o, ho, r⟩, h2, h3⟩ := S.own (a, b) (.head _)
  obtain ⟨nd1, nd2⟩ := List.nodup_cons.mp S.nodup
  have le := PM.le_put (o := o) h2
  refine ⟨o, r, ⟨S.ext.put' h3 ho h2, fun p hp => ?_, nd2⟩, le, h2⟩
  obtain ⟨⟨o₁, ho₁, r₁⟩, g2, g3⟩ := S.own p (.tail _ hp)
  exact ⟨⟨o₁, ho₁, p.2.mono le r₁⟩, by rw [PM.put_ne fun q => nd1 (List.mem_map.mpr ⟨p, hp, q⟩)]; exact g2, g3⟩
end

/-- what an iterator gives, one by one -/
structure Pull (prog : Program) (w : World) (A : Around) (s₀ : Shared) (P₀ : PM) {α : Type} (Ps : PM) (it : Value) (τ : Ty α) (xs : List α) (Own : Nat → List (Addr × Ob)) : Prop where
  item : ∀ (O : List (Addr × Ob)) (s : Shared) (P : PM) (i : Nat) (hi : i < xs.length) (E : Value → Shared → Prop), PM.le Ps P → Hs s₀ P₀ (Own i ++ O) s P →
    wpAny (model prog w) A (pyNext it) (fun r s' => ∃ v P', r = some v ∧ PM.le P P' ∧ τ.rel P' v xs[i] ∧ Hs s₀ P₀ (Own (i + 1) ++ O) s' P') E s
  done : ∀ (O : List (Addr × Ob)) (s : Shared) (P : PM) (E : Value → Shared → Prop), PM.le Ps P → Hs s₀ P₀ (Own xs.length ++ O) s P →
    wpAny (model prog w) A (pyNext it) (fun r s' => r = none ∧ ∃ P', PM.le P P' ∧ Hs s₀ P₀ O s' P') E s

section
variable {prog : Program} {w : World} {A : Around} {α : Type} {τ : Ty α} {xs : List α} {s₀ s : Shared} {P₀ P Ps : PM} {O : List (Addr × Ob)} {Own : Nat → List (Addr × Ob)}
theorem pull_loop {R : Result → Shared → Prop} {it res : Value} {D : Addr} (Pl : Pull prog w A.in1 s₀ P₀ Ps it τ xs Own) (hn : xs.length ≤ sizeLine)
    (hR : ∀ s' P', PM.le Ps P' → Hs s₀ P₀ ((D, Ob.list τ xs) :: O) s' P' → R (.ok (.ret res)) s') :
    ∀ (k i : Nat) (s : Shared) (P : PM), xs.length - i = k → i ≤ xs.length → PM.le Ps P → Hs s₀ P₀ (Own i ++ (D, Ob.list τ (xs.take i)) :: O) s P → codeAny (model prog w) A (.builtin "list.extend.loop" ⟨[.ref D, it, res], []⟩) R s := by
  intro k
  induction k with
  | zero =>
    intro i s P hk hi hle S
    obtain rfl : i = xs.length := by omega
    refine codeAny_builtin PySem.F.entry_extend_loop ?_
    rw [Around.under_plainId PySem.F.plain_extend_loop _]
    show wpAny _ A.in1 (pyNext it >>= _) _ _ s
    refine wpAny_bind (wpAny_mono (Pl.done _ _ _ _ hle S) (fun r s1 ⟨hr, P1, l1, S1⟩ => ?_) fun _ _ e => e)
    subst hr
    rw [List.take_length] at S1
    exact wpAny_pure (hR s1 P1 (hle.trans l1) S1)
  | succ k ih =>
    intro i s P hk hi hle S
    have hlt : i < xs.length := by omega
    refine codeAny_builtin PySem.F.entry_extend_loop ?_
    rw [Around.under_plainId PySem.F.plain_extend_loop _]
    show wpAny _ A.in1 (pyNext it >>= _) _ _ s
    refine wpAny_bind (wpAny_mono (Pl.item _ _ _ i hlt _ hle S) (fun r s1 ⟨v, P1, hr, l1, rv, S1⟩ => ?_) fun _ _ e => e)
    subst hr
    have S2 := S1.perm List.perm_middle
    obtain ⟨o, ho, ⟨vs, n, rfl, hp⟩, hP⟩ := S2.obj
    show wpAny _ A.in1 (updateSeq D (·.push v) >>= _) _ _ _
    have hl : vs.length = i := by rw [hp.length, List.length_take]; omega
    refine wpAny_bind ?_
    refine wpAny_updateSeq ho rfl (wpAny_pure ⟨plainId_quiet PySem.F.plain_extend_loop _, ih (i + 1) _ P1 (by omega) hlt (hle.trans l1) ?_⟩) (by simp only [List.size_toArray]; omega) (by simp only [Array.size_push, List.size_toArray]; omega)
    obtain ⟨⟨n', hn'⟩, kp⟩ := upd_seq (fun xs => xs.push v) ho
    refine (S2.change (b' := Ob.list τ (xs.take (i + 1))) (tk := s1.toks) hn' ⟨vs ++ [v], n', by simp, ?_⟩ kp).perm List.perm_middle.symm
    rw [List.take_succ_eq_append_getElem hlt]
    exact pApp hp (.cons rv .nil)

theorem collect_pull {it0 : Addr} {T : String} {Q : List Value → Shared → Prop} {E : Value → Shared → Prop} (S : Hs s₀ P₀ O s P) (hn : xs.length ≤ sizeLine) (hT1 : (Value.type T == Value.type "list") = false) (hT2 : (Value.type T == Value.type "tuple") = false)
    (typ : ∀ s' D, Hs s₀ P₀ ((D, Ob.list τ []) :: O) s' P → s'.TypeIs (.ref it0) T ∧ D ≠ it0)
    (iter : ∀ s' D E, Hs s₀ P₀ ((D, Ob.list τ []) :: O) s' P → wpAny (model prog w) A.in1 (pyIter (.ref it0)) (fun it s2 => ∃ P2 Own O2, PM.le P P2 ∧ Hs s₀ P₀ (Own 0 ++ (D, Ob.list τ []) :: O2) s2 P2 ∧ Pull prog w A.in1 s₀ P₀ P2 it τ xs Own ∧
      (∀ E, wpAny (model prog w) A.in1 (Builtin.List.listLengthHint (.ref it0)) (fun _ s3 => ∃ P3, PM.le P2 P3 ∧ Hs s₀ P₀ (Own 0 ++ (D, Ob.list τ []) :: O2) s3 P3) E s2) ∧
      (∀ vs s' P', PM.le P2 P' → Hs s₀ P₀ O2 s' P' → Paired (τ.rel P') vs xs → Q vs s')) E s') : wpAny (model prog w) A (collect (.ref it0)) Q E s := by
  unfold collect
  refine wpAny_bind (wpAny_runValue (codeAny_builtin PySem.F.entry_proto_collect ?_))
  rw [Around.under_plainId PySem.F.plain_proto_collect _]
  show wpAny _ A.in1 (newList [] >>= fun l => again (.builtin "list.__iadd__" ⟨[l, .ref it0], []⟩)) _ _ s
  have S1 := S.make (b := Ob.list τ []) (o := { cls := .type "list", data := .seq ([] : List Value).toArray }) (tk := s.toks) ⟨[], _, rfl, .nil⟩
  generalize hD : s.heap.objs.size = D at S1
  refine wpAny_bind (wpAny_newObj_type ?_)
  rw [hD]
  refine wpAny_pure ⟨plainId_quiet PySem.F.plain_list_iadd _, codeAny_builtin PySem.F.entry_list_iadd ?_⟩
  rw [Around.under_plainId PySem.F.plain_list_iadd _]
  generalize ({ s with heap := s.heap.push { cls := .type "list", data := .seq ([] : List Value).toArray }, toks := s.toks } : Shared) = s1 at S1 ⊢
  show wpAny _ A.in1 (Builtin.List.listExtendWith (.ref D) (.ref it0) (.ref D)) _ _ s1
  obtain ⟨ht, hne⟩ := typ _ _ S1
  unfold Builtin.List.listExtendWith
  refine wpAny_bind (wpAny_typeOf ht ?_)
  have h1 : Builtin.List.listSameRef (.ref D) (.ref it0) = false := by simp [Builtin.List.listSameRef, hne]
  simp only [h1, hT1, hT2, Bool.or_false, Bool.false_eq_true, if_false]
  refine wpAny_bind (wpAny_mono (iter _ _ _ S1) (fun it s2 ⟨P2, Own, O2, l2, S2, Pl, hint, fin⟩ => ?_) fun _ _ e => e)
  refine wpAny_bind (wpAny_holding (wpAny_mono (hint _) (fun room s3 ⟨P3, l3, S3⟩ => ?_) fun _ _ e => e))
  have Pl' : Pull prog w A.in1 s₀ P₀ P3 it τ xs Own := ⟨fun O s P i hi E hle => Pl.item O s P i hi E (l3.trans hle), fun O s P E hle => Pl.done O s P E (l3.trans hle)⟩
  have endp : ∀ s4 : Shared, Hs s₀ P₀ (Own 0 ++ (D, Ob.list τ []) :: O2) s4 P3 → codeAny (model prog w) A (.builtin "list.extend.loop" ⟨[.ref D, it, .ref D], []⟩)
      (fun r s' => match r with | .ok (.ret v) => wpAny (model prog w) A (match v with | .ref a => (do match (← load a).data with | .seq xs _ => pure xs.toList | _ => unsupported "internal:collect") | _ => unsupported "internal:collect") Q E s' | .ok _ => False | .error e => E e s') s4 := fun s4 S4 => by
    refine pull_loop Pl' hn (fun s' P' l' S' => ?_) xs.length 0 s4 P3 (by omega) (Nat.zero_le _) (.refl _) S4
    obtain ⟨o, ho, ⟨vs, n, rfl, hp⟩, hP⟩ := S'.obj
    dsimp only
    refine wpAny_bind (wpAny_load ho (wpAny_pure ?_))
    exact fin vs s' P' (l3.trans l') S'.drop hp
  refine wpAny_ite_split (fun _ => ?_) (fun _ => wpAny_pure ⟨plainId_quiet PySem.F.plain_extend_loop _, endp s3 S3⟩)
  refine wpAny_bind (wpAny_rule ?_)
  refine wpAny_bind ?_
  have S3' := S3.perm List.perm_middle
  obtain ⟨o, ho, ⟨vs, n, rfl, hp⟩, hP⟩ := S3'.obj
  cases hp
  show wpAny _ _ (updateSeq D (·.push .none) >>= fun _ => updateSeq D (·.pop)) _ _ _
  refine wpAny_bind (wpAny_updateSeq ho rfl ?_)
  have hS₂ := Heap.get?_update_self (Obj.mapSeq (·.push Value.none)) ho rfl
  refine wpAny_updateSeq (hz := by seq_fits) hS₂ rfl ?_
  have hS₃ := Heap.get?_update_self (Obj.mapSeq (·.pop)) hS₂ rfl
  refine wpAny_pure ⟨plainId_quiet PySem.F.plain_extend_loop _, endp _ ((S3'.change (b' := Ob.list τ []) (tk := s3.toks) hS₃ ⟨[], _, rfl, .nil⟩ fun c o hne e => ?_).perm List.perm_middle.symm)⟩
  exact (Heap.get?_update_other _ _ (Ne.symm hne)).trans ((Heap.get?_update_other _ _ (Ne.symm hne)).trans e)
end
end VS

end PartV26

noncomputable section PartV27
namespace VS
open PySem PySem.Calls PySem.W PyProof.Rows
open AutoSeq1 (wpAny_loadPart')

namespace FM
theorem sub_map : isSubtype (.type "map") (.type "map") = pure true := by rw [isSubtype_type]; kernel_rfl
theorem own_map : Manifest.owners.lookup (String.ofList ['p', 'a', 'm'].reverse) = some Manifest.sig_map := by kernel_rfl
theorem args_map_next_1 (a : Value) : argsOk "map.__next__" ⟨[a], []⟩ := by
  unfold argsOk; rw [signature?_of (id := "map.__next__") (n := ['_', '_', 't', 'x', 'e', 'n', '_', '_']) (o := ['p', 'a', 'm']) (by kernel_rfl) own_map]; kernel_rfl
theorem args_map_iter_1 (a : Value) : argsOk "map.__iter__" ⟨[a], []⟩ := by
  unfold argsOk; rw [signature?_of (id := "map.__iter__") (n := ['_', '_', 'r', 'e', 't', 'i', '_', '_']) (o := ['p', 'a', 'm']) (by kernel_rfl) own_map]; kernel_rfl
theorem map_no_len : typeLookup (.type "map") "__len__" = pure none := by rw [typeLookup_type, builtinLookup_eq_fast]; kernel_rfl
theorem map_no_hint : typeLookup (.type "map") "__length_hint__" = pure none := by rw [typeLookup_type, builtinLookup_eq_fast]; kernel_rfl
end FM
def itObj (l : Addr) : Obj := { cls := .type "list_iterator", data := .fields #[.ref l, .int 0 0] }
def mapObj (T : Addr) (f : Value) : Obj := { cls := .type "map", data := .fields #[.ref T, f] }
def tup1 (J : Addr) : Obj := { cls := .type "tuple", data := .seq #[.ref J] }
theorem meets_map_new (f : Value) (l : Addr) (items : Array Value) (n : Nat) :
    Meets (Builtin.«map.__new__» ⟨[.type "map", f, .ref l], []⟩) (fun _ R s => s.heap.get? l = some { cls := .type "list", dict := none, data := .seq items n, slots := #[] } ∧
      R (.ok (.ret (.ref ((s.heap.push (itObj l)).push (tup1 s.heap.objs.size)).objs.size)))
        { s with heap := ((s.heap.push (itObj l)).push (tup1 s.heap.objs.size)).push (mapObj (s.heap.push (itObj l)).objs.size f) }) :=
  .of_wp fun prog w A R s h => by
    obtain ⟨hp, g, d, tk, os⟩ := s; obtain ⟨hl, h⟩ := h
    have hsub := FM.sub_map
    have hL : Heap.IsList (Shared.heap ⟨hp, g, d, tk, os⟩) l items := ⟨_, hl, rfl, n, rfl⟩
    wp_walk using wpAny_loadPart' hl, wpAny_pyIter_list hL
    exact ⟨_, rfl, h⟩
section
variable {prog : Program} {w : World} {A : Around} {E : Value → Shared → Prop} {s : Shared}
theorem map_next_item {M T J : Addr} {f : Value} {R : Fin → Shared → Prop} (hM : s.heap.get? M = some (mapObj T f)) (hT : s.heap.get? T = some (tup1 J))
    (h : wpAny (model prog w) A (Builtin.SmallTypes.nextOf (.ref J)) (fun x s1 => s1.heap.get? M = some (mapObj T f) ∧ wpAny (model prog w) A (call f [x] []) (fun y s2 => R (.done (.ret y)) s2) E s1) E s) :
    wpAny (model prog w) A (Builtin.«map.__next__» ⟨[.ref M], []⟩) R E s := by
  show wpAny _ _ (field (.ref M) 0 >>= _) _ _ _
  refine wpAny_bind (wpAny_field hM rfl (x := .ref T) rfl ?_)
  show wpAny _ _ (seqItems? (.ref T) >>= _) _ _ s
  refine wpAny_bind (wpAny_seqItems hT rfl ?_)
  dsimp only
  refine wpAny_bind ?_
  simp only [List.forIn_toArray, List.forIn_cons, List.forIn_nil]
  refine wpAny_bind (wpAny_bind (wpAny_holding (wpAny_mono h (fun x s1 ⟨hM1, h1⟩ => wpAny_pure ?_) fun _ _ e => e)))
  dsimp only
  refine wpAny_pure ?_
  refine wpAny_bind (wpAny_field hM1 rfl (x := f) rfl ?_)
  refine wpAny_bind (wpAny_holding (wpAny_mono h1 (fun y s2 h2 => ?_) fun _ _ e => e))
  exact wpAny_bind (wpAny_letGo (wpAny_pure h2))
end
section
variable {prog : Program} {w : World} {A : Around} {α β : Type} {τ : Ty α} {σ : Ty β} {s₀ s : Shared} {P₀ P Ps : PM} {O : List (Addr × Ob)} {K : Frag} {p : Program} {lo : List Str} {mg mb : Str → Option Value} {n : Nat}
theorem pull_map {M T J l : Addr} {f : Value} {xs : List α} {vs : List Value} {ep : Nat} {g : α → β} (R : Room (n + 1) A) (W : Wd K p lo mg mb s₀.heap)
    (hM : Ps M = some (mapObj T f)) (hT : Ps T = some (tup1 J)) (hl : Ps l = some { cls := .type "list", data := .seq vs.toArray ep }) (hp : Paired (τ.rel Ps) vs xs)
    (sp : ∀ x ∈ xs, ∀ P v, τ.rel P v x → Returns prog w K p lo mg mb n f [v] P σ (g x)) :
    Pull prog w A s₀ P₀ Ps (.ref M) σ (xs.map g) (fun i => [(J, Ob.listIter l i)]) where
  item O t Q i hi E hle S := by
    rw [List.length_map] at hi
    obtain ⟨o, ho, ⟨hc, hd⟩, hn⟩ := S.obj
    have hM' := S.sub _ _ (hle _ _ hM)
    have hTM : t.TypeIs (.ref M) "map" := ⟨_, hM', rfl⟩
    have hL : t.heap.IsList l vs.toArray := ⟨_, S.sub _ _ (hle _ _ hl), rfl, ep, rfl⟩
    obtain ⟨v, hv, rv⟩ := pGet hp (List.getElem?_eq_getElem hi)
    unfold pyNext
    refine wpAny_bind (wpAny_attempt (wpAny_callSpecial?_slot (name := Str.ofString "__next__") hTM FM.slot_map_next
      (wpAny_call_entry FM.slot_map_next hTM FM.entry_map_next ?_ (FM.args_map_next_1 _))))
    refine map_next_item hM' (S.sub _ _ (hle _ _ hT)) (wpAny_nextOf_list_item ⟨o, ho, hc, hd⟩ hL (by simpa using hv) fun h' hit' hs' => ?_)
    obtain ⟨o', ho', hc', hd'⟩ := hit'
    have S1 := S.change (b' := Ob.listIter l (i + 1)) (tk := t.toks) ho' ⟨hc', hd'⟩ fun c o hne e => (hs'.2 c hne).trans e
    refine ⟨S1.sub _ _ (hle _ _ hM), ?_⟩
    refine (sp _ (List.getElem_mem hi) Q v (τ.mono hle rv) A.in1 _ R.in1 (W.keeps S1.ext.keep) S1.sub).use fun y s2 P2 e2 r2 => ?_
    refine ⟨y, rfl, wpAny_pure ⟨y, P2, rfl, e2.le, ?_, S1.go e2⟩⟩
    rw [List.getElem_map]; exact r2
  done O t Q E hle S := by
    rw [List.length_map] at S
    obtain ⟨o, ho, ⟨hc, hd⟩, hn⟩ := S.obj
    have hM' := S.sub _ _ (hle _ _ hM)
    have hTM : t.TypeIs (.ref M) "map" := ⟨_, hM', rfl⟩
    have hL : t.heap.IsList l vs.toArray := ⟨_, S.sub _ _ (hle _ _ hl), rfl, ep, rfl⟩
    unfold pyNext
    refine wpAny_bind (wpAny_attempt (wpAny_callSpecial?_slot (name := Str.ofString "__next__") hTM FM.slot_map_next
      (wpAny_call_entry FM.slot_map_next hTM FM.entry_map_next ?_ (FM.args_map_next_1 _))))
    refine map_next_item hM' (S.sub _ _ (hle _ _ hT)) (wpAny_nextOf_list_end (by exact R.in1.handled) ⟨o, ho, hc, hd⟩ hL (by simp [hp.length]) fun h' x hx' he' => ?_)
    obtain ⟨oo, hoo, hcc⟩ := he'
    refine wpAny_bind (wpAny_isInstance (T := "StopIteration") (b := true) ⟨oo, hoo, hcc⟩ isSubtype_stop ?_)
    exact wpAny_pure ⟨rfl, Q, .refl _, S.leave (tk := t.toks) fun c o hne e => hx' c o hne e⟩
end
end VS

end PartV27

noncomputable section PartV28
namespace VS
open PySem PySem.Calls PySem.W PyProof.Rows
open AutoSeq1 (wpAny_loadPart')

section
variable {prog : Program} {w : World} {A : Around} {α β : Type} {τ : Ty α} {σ : Ty β} {s₀ s : Shared} {P₀ P Ps : PM} {O : List (Addr × Ob)} {K : Frag} {p : Program} {lo : List Str} {mg mb : Str → Option Value} {n : Nat} {env : Env}

theorem tuple_pull {it0 : Addr} {T : String} {xs : List α} {Q : Value → Shared → Prop} {E : Value → Shared → Prop} (S : Hs s₀ P₀ O s P) (hn : xs.length ≤ sizeLine) (hT1 : (Value.type T == Value.type "list") = false) (hT2 : (Value.type T == Value.type "tuple") = false)
    (hT0 : s.TypeIs (.ref it0) T)
    (hcol : ∀ Q' : List Value → Shared → Prop, (∀ vs s' P', PM.le P P' → Hs s₀ P₀ [] s' P' → Paired (τ.rel P') vs xs → Q' vs s') → wpAny (model prog w) A.in1.in1 (collect (.ref it0)) Q' (fun e s' => E e s') s)
    (hQ : ∀ v s' P', PM.le P P' → Hs s₀ P₀ [] s' P' → (Ty.tuple τ).rel P' v xs → Q v s') : wpAny (model prog w) A (call (.type "tuple") [.ref it0]) Q E s := by
  refine callType_codes (Q₁ := fun obj s₁ => s₁.TypeIs obj "tuple" ∧ Q obj s₁) PySem.F.called_tuple (PySem.F.typeCall_tuple_1 _) PySem.F.entry_object_init ?_ fun obj s₁ h₁ => ?_
  · refine codeAny_of_tree ?_
    show wpAny _ A.in1.in1 (do checkBuiltinCall "tuple.__new__" ⟨[.type "tuple", .ref it0], []⟩; again (.builtin "tuple.__new__" ⟨[.type "tuple", .ref it0], []⟩)) _ _ s
    refine wpAny_bind (wpAny_of_eq (PySem.F.newCall_tuple_1 _) (wpAny_pure ⟨plainId_quiet PySem.F.plain_tuple_new _, codeAny_builtin PySem.F.entry_tuple_new ?_⟩))
    rw [Around.under_plainId PySem.F.plain_tuple_new _]
    have hsub := sub_tuple_self
    have hinit := init_tuple_lookup
    have hmh := madeHere_tuple
    wp_walk using wpAny_typeOf hT0, hcol
    intro vs s' P' l' S' hp
    show wpAny _ _ (Builtin.Tuple.tupleExact vs.toArray >>= fun v => ret v) _ _ _
    unfold Builtin.Tuple.tupleExact
    refine wpAny_bind (wpAny_newObj_type ?_ (by show vs.toArray.size ≤ sizeLine; rw [List.size_toArray, hp.length]; exact hn))
    refine wpAny_pure ?_
    have S2 := S'.make (b := Ob.exact { cls := .type "tuple", data := .seq vs.toArray }) (o := { cls := .type "tuple", data := .seq vs.toArray }) (tk := s'.toks) rfl
    obtain ⟨o, ho, S3, l3, hP⟩ := S2.freeze
    have ho' : o = _ := ho
    subst ho'
    exact ⟨⟨_, Heap.get?_push_size _ rfl, rfl⟩, hQ _ _ _ (l'.trans l3) S3 ⟨vs, ⟨_, _, rfl, PM.put_self⟩, pImp (fun _ _ => τ.mono l3) hp⟩⟩
  · exact ⟨h₁.1, PySem.F.args_object_init_2 obj _, object_init_meets PySem.F.called_tuple.init.lookup PySem.F.called_tuple.made (by decide) prog w A.in1 _ s₁ ⟨h₁.1, rfl, h₁.2⟩⟩

theorem hint_map {A : Around} {M : Addr} {Q : Bool → Shared → Prop} {E : Value → Shared → Prop} (hT : s.TypeIs (.ref M) "map") (h : ∀ b, Q b s) : wpAny (model prog w) A (Builtin.List.listLengthHint (.ref M)) Q E s := by
  unfold Builtin.List.listLengthHint
  refine wpAny_bind (wpAny_specialOf hT FM.map_no_len ?_)
  show wpAny _ A (specialOf (Value.ref M) (Str.ofString "__length_hint__") >>= _) _ _ _
  refine wpAny_bind (wpAny_specialOf hT FM.map_no_hint ?_)
  exact wpAny_pure (h _)
theorem iter_map {A : Around} {M T : Addr} {f : Value} {Q : Value → Shared → Prop} {E : Value → Shared → Prop} (hM : s.heap.get? M = some (mapObj T f)) (h : Q (.ref M) s) : wpAny (model prog w) A (pyIter (.ref M)) Q E s := by
  have hT : s.TypeIs (.ref M) "map" := ⟨_, hM, rfl⟩
  refine wpAny_pyIter_slot hT FM.slot_map_iter (wpAny_call_entry FM.slot_map_iter hT FM.entry_map_iter ?_ (FM.args_map_iter_1 _))
  show wpAny _ _ (ret (.ref M)) _ _ s
  exact wpAny_pure ⟨_, rfl, "map", _, hT, FM.slot_map_next.lookup, h⟩

theorem Ev.tupleMap {fe le : Expr} {np np2 p1 p2 : Pos} {f : Value} {xs : List α} {g : α → β} (W : Wd K p lo mg mb s.heap) (R : Room (n + 5) A) (hf1 : Ev prog w A s P (eval (.Name "tuple" np) env) Ty.raw (.type "tuple")) (hf2 : Ev prog w A s P (eval (.Name "map" np2) env) Ty.raw (.type "map"))
    (hfn : Ev prog w A s P (eval fe env) Ty.raw f) (hl : Ev prog w A s P (eval le env) (Ty.list τ) xs) (hn : xs.length ≤ sizeLine)
    (sp : ∀ x ∈ xs, ∀ P v, τ.rel P v x → Returns prog w K p lo mg mb n f [v] P σ (g x))
    (he1 : starEach [.Call (.Name "map" np2) [fe, le] [] p2] env = (false, eval (.Call (.Name "map" np2) [fe, le] [] p2) env) :: starEach [] env := by rfl) (hp1 : (backTo p1 (starEach [.Call (.Name "map" np2) [fe, le] [] p2] env)).any (·.1) = false := by rfl)
    (he2 : starEach [fe, le] env = (false, eval fe env) :: starEach [le] env := by rfl) (he3 : starEach [le] env = (false, eval le env) :: starEach [] env := by rfl) (hp2 : (backTo p2 (starEach [fe, le] env)).any (·.1) = false := by rfl) :
    Ev prog w A s P (eval (.Call (.Name "tuple" np) [.Call (.Name "map" np2) [fe, le] [] p2] [] p1) env) (Ty.tuple σ) (xs.map g) := fun s1 P1 ex =>
  wpAny_Call_NameR ((hf1.at ex).use fun v s2 P2 e2 r => by
    cases r
    refine PySem.callWith_type hp1 ?_
    have q : backTo p1 (starEach [.Call (.Name "map" np2) [fe, le] [] p2] env) = (false, eval (.Call (.Name "map" np2) [fe, le] [] p2) env) :: backTo p1 (starEach [] env) := by rw [he1]; rfl
    rw [q]
    refine evalArgs_plain ?_
    rw [← q]
    refine wpAny_items_cons ?_ he1
    have e02 := ex.trans e2
    refine callT_wp e2.sub (hf2.mono e02) (EvL.cons (hfn.mono e02) (EvL.cons (hl.mono e02) EvL.nil he3) he2) (fun s3 P3 vs e3 ⟨v, r, hv, rv, v2, r2, hv2, rv2, hr⟩ => ?_) he2 hp2
    subst hv; subst hv2; cases hr; cases rv
    obtain ⟨l, ws, ep, rfl, hl', hpr⟩ := Ty.seqAt rv2
    refine callType_new FM.called_map (by decide) (FM.typeCall_map_2 _ _) (FM.newCall_map_2 _ _) (fun obj => PySem.F.args_object_init_3 obj _ _) FM.entry_map_new (meets_map_new f l ws.toArray ep) ⟨e3.sub _ _ hl', ?_⟩
    have S0 : Hs s3 P3 [] s3 P3 := Hs.start e3.sub
    have S1 := S0.make (b := Ob.listIter l 0) (o := itObj l) (tk := s3.toks) ⟨rfl, rfl⟩
    have x2 := Ext.push (o := tup1 s3.heap.objs.size) (tk := s3.toks) S1.sub
    have S2 := S1.go x2
    have x3 := Ext.push (o := mapObj (s3.heap.push (itObj l)).objs.size f) (tk := s3.toks) S2.sub
    have S3 := S2.go x3
    refine ⟨⟨_, Heap.get?_push_size _ rfl, rfl⟩, ?_⟩
    refine wpAny_items_nil ?_
    dsimp only at x2 x3 S3 ⊢
    generalize hM0 : ((s3.heap.push (itObj l)).push (tup1 s3.heap.objs.size)).objs.size = M at S3 x3 ⊢
    generalize hT0 : (s3.heap.push (itObj l)).objs.size = T at S3 x3 x2 ⊢
    have hM : ((P3.put T (tup1 s3.heap.objs.size)).put M (mapObj T f)) M = some (mapObj T f) := PM.put_self
    have hT : ((P3.put T (tup1 s3.heap.objs.size)).put M (mapObj T f)) T = some (tup1 s3.heap.objs.size) := x3.le _ _ PM.put_self
    have hl4 := x3.le _ _ (x2.le _ _ hl')
    have hp4 := pImp (fun _ _ => τ.mono (x2.le.trans x3.le)) hpr
    have S4 := S3
    have W3 : Wd K p lo mg mb s3.heap := W.keeps (e02.trans e3).keep
    refine tuple_pull (xs := xs.map g) (τ := σ) S4 (by rw [List.length_map]; exact hn) (by decide) (by decide) (T := "map") ⟨_, S4.sub _ _ hM, rfl⟩ (fun Q' k => ?_) fun v s5 P5 l5 S5 r5 => ⟨P5, (e2.trans e3).trans S5.ext, r5⟩
    refine collect_pull (T := "map") (xs := xs.map g) (τ := σ) S4 (by rw [List.length_map]; exact hn) (by decide) (by decide) (fun s' D S' => ⟨⟨_, S'.sub _ _ hM, rfl⟩, fun q => ?_⟩) fun s' D E S' => ?_
    · obtain ⟨_, _, _, hD⟩ := S'.obj
      rw [q, hM] at hD; cases hD
    · refine iter_map (S'.sub _ _ hM) ⟨_, fun i => [(s3.heap.objs.size, Ob.listIter l i)], [], .refl _, S'.perm (.swap _ _ _), pull_map (n := n) ⟨R.handled, ?_, ?_⟩ W3 hM hT hl4 hp4 sp, fun E => ?_, fun vs s5 P5 l5 S5 hp5 => k vs s5 P5 l5 S5 hp5⟩
      · have := R.depth; show A.depth + (n + 1) < 990; omega
      · have := R.units; show A.units + 1 + 1 + 1 + 40 * (n + 1) < 9800; omega
      · exact hint_map ⟨_, S'.sub _ _ hM, rfl⟩ fun b => ⟨_, .refl _, S'.perm (.swap _ _ _)⟩)
end
end VS

end PartV28

noncomputable section PartV29
namespace VS
open PySem PySem.Calls PySem.W PyProof.Rows
open AutoSeq1 (wpAny_loadPart')
open MeetsSeq MeetsSeq2 MeetsSeq3

def opStr (gt : Bool) (x y : Str) : Bool := if gt then decide (y.cps.toList < x.cps.toList) else decide (x.cps.toList < y.cps.toList)
def lcmp (gt : Bool) : List Str → List Str → Bool
  | x :: xs, y :: ys => if x = y then lcmp gt xs ys else opStr gt x y
  | [], ys => if gt then false else !ys.isEmpty
  | _ :: _, [] => gt
def opOf (gt : Bool) : CmpOp := if gt then .Gt else .Lt
theorem rc_str {prog : Program} {w : World} {A : Around} {E : Value → Shared → Prop} {s : Shared} {x y : Str} {t u : Tok} {Q : Value → Shared → Prop} (gt : Bool) (h : Q (.bool (opStr gt x y)) s) : wpAny (model prog w) A (richCompare (opOf gt) (.str x t) (.str y u)) Q E s := by
  cases gt with
  | false => exact PySem.P.lt_str h
  | true => exact PySem.P.gt_str h
theorem sv_len (xs : List (Str × Tok)) : (strValues xs).toArray.size = xs.length := by simp [strValues]
theorem sv_at (p r : List (Str × Tok)) (x : Str) (t : Tok) : (strValues (p ++ (x, t) :: r)).toArray[((p.length : Nat) : Int).toNat]? = some (.str x t) := by
  simp [strValues]
theorem sv_end (p : List (Str × Tok)) : (strValues p).toArray[((p.length : Nat) : Int).toNat]? = none := by
  simp [strValues]
set_option maxHeartbeats 4000000 in
theorem lcmp_loop (gt : Bool) (l b : Addr) (n n2 : Nat) : ∀ (r1 r2 p1 p2 : List (Str × Tok)), p1.length = p2.length → Meets (Builtin.«list.__eq__.loop» ⟨[.ref l, .ref b, rawInt p1.length, rawInt (if gt then 4 else 0)], []⟩)
      (fun A R s => s.heap.get? l = some { cls := .type "list", dict := none, data := .seq (strValues (p1 ++ r1)).toArray n, slots := #[] } ∧ s.heap.get? b = some { cls := .type "list", dict := none, data := .seq (strValues (p2 ++ r2)).toArray n2, slots := #[] } ∧
        R (.ok (.ret (.bool (lcmp gt (r1.map (·.1)) (r2.map (·.1)))))) s) := by
  intro r1
  induction r1 with
  | nil =>
    intro r2 p1 p2 hpl prog w A R s h
    obtain ⟨hp, g, d, tk, os⟩ := s; obtain ⟨hl, hb, h⟩ := h
    rw [List.append_nil] at hl
    have e1 := sv_end p1
    have s1 := sv_len p1
    have s2 := sv_len (p2 ++ r2)
    cases gt with
    | false =>
      simp only [Bool.false_eq_true, if_false]
      wp_walk using wpAny_loadPart' hl, wpAny_loadPart' hb
      rw [e1]
      wp_walk using wpAny_loadPart' hl, wpAny_loadPart' hb
      show R (.ok (.ret (.bool (decide ((strValues p1).toArray.size < (strValues (p2 ++ r2)).toArray.size))))) _
      rw [s1, s2]
      have : decide (p1.length < (p2 ++ r2).length) = lcmp false [] (r2.map (·.1)) := by
        rw [List.length_append, ← hpl]
        cases r2 <;> simp [lcmp]
      rw [this]; exact h
    | true =>
      simp only [if_true]
      wp_walk using wpAny_loadPart' hl, wpAny_loadPart' hb
      rw [e1]
      wp_walk using wpAny_loadPart' hl, wpAny_loadPart' hb
      show R (.ok (.ret (.bool (decide ((strValues p1).toArray.size > (strValues (p2 ++ r2)).toArray.size))))) _
      rw [s1, s2]
      have : decide (p1.length > (p2 ++ r2).length) = lcmp true [] (r2.map (·.1)) := by
        rw [List.length_append, ← hpl]
        cases r2 <;> simp [lcmp] <;> omega
      rw [this]; exact h
  | cons x r1 ih =>
    intro r2 p1 p2 hpl
    obtain ⟨x, t⟩ := x
    cases r2 with
    | nil =>
      intro prog w A R s h
      obtain ⟨hp, g, d, tk, os⟩ := s; obtain ⟨hl, hb, h⟩ := h
      rw [List.append_nil] at hb
      have e1 := sv_at p1 r1 x t
      have e2 := sv_end p2
      have s1 := sv_len (p1 ++ (x, t) :: r1)
      have s2 := sv_len p2
      rw [← hpl] at e2
      cases gt with
      | false =>
        simp only [Bool.false_eq_true, if_false]
        wp_walk using wpAny_loadPart' hl, wpAny_loadPart' hb
        rw [e1, e2]
        wp_walk using wpAny_loadPart' hl, wpAny_loadPart' hb
        show R (.ok (.ret (.bool (decide ((strValues (p1 ++ (x, t) :: r1)).toArray.size < (strValues p2).toArray.size))))) _
        rw [s1, s2]
        have : decide ((p1 ++ (x, t) :: r1).length < p2.length) = lcmp false (((x, t) :: r1).map (·.1)) ([] : List Str) := by
          rw [List.length_append, hpl]
          simp [lcmp]
        rw [this]; exact h
      | true =>
        simp only [if_true]
        wp_walk using wpAny_loadPart' hl, wpAny_loadPart' hb
        rw [e1, e2]
        wp_walk using wpAny_loadPart' hl, wpAny_loadPart' hb
        show R (.ok (.ret (.bool (decide ((strValues (p1 ++ (x, t) :: r1)).toArray.size > (strValues p2).toArray.size))))) _
        rw [s1, s2]
        have : decide ((p1 ++ (x, t) :: r1).length > p2.length) = lcmp true (((x, t) :: r1).map (·.1)) ([] : List Str) := by
          rw [List.length_append, hpl]
          simp [lcmp]
        rw [this]; exact h
    | cons y r2 =>
      obtain ⟨y, u⟩ := y
      intro prog w A R s h
      obtain ⟨hp, g, d, tk, os⟩ := s; obtain ⟨hl, hb, h⟩ := h
      have e1 := sv_at p1 r1 x t
      have e2 := sv_at p2 r2 y u
      rw [← hpl] at e2
      have hc : ((p1.length : Int) + 1) = (((p1 ++ [(x, t)]).length : Nat) : Int) := by simp
      have hc' : (p1 ++ [(x, t)]).length = (p2 ++ [(y, u)]).length := by simp [hpl]
      cases gt with
      | false =>
        simp only [Bool.false_eq_true, if_false]
        wp_walk using wpAny_loadPart' hl, wpAny_loadPart' hb
        rw [e1, e2]
        refine wpAny_bind (eqAt_str prog w _ _ ?_)
        by_cases q : x = y
        · rw [decide_eq_true q]
          wp_walk
          rw [hc]
          exact ⟨plainId_quiet plain_eq_loop _, codeAny_builtin entry_eq_loop (by
            rw [Around.under_plainId plain_eq_loop _]
            refine ih r2 (p1 ++ [(x, t)]) (p2 ++ [(y, u)]) hc' prog w A R _ ⟨by rw [List.append_assoc]; exact hl, by rw [List.append_assoc]; exact hb, ?_⟩
            have : lcmp false (((x, t) :: r1).map (·.1)) (((y, u) :: r2).map (·.1)) = lcmp false (r1.map (·.1)) (r2.map (·.1)) := by simp [lcmp, q]
            rw [← this]; exact h)⟩
        · rw [decide_eq_false q]
          wp_walk using wpAny_loadPart' hl, wpAny_loadPart' hb
          rw [e1, e2]
          dsimp only
          refine wpAny_bind (rc_str false (wpAny_pure ?_))
          have : lcmp false (((x, t) :: r1).map (·.1)) (((y, u) :: r2).map (·.1)) = opStr false x y := by simp [lcmp, q]
          rw [this] at h; exact h
      | true =>
        simp only [if_true]
        wp_walk using wpAny_loadPart' hl, wpAny_loadPart' hb
        rw [e1, e2]
        refine wpAny_bind (eqAt_str prog w _ _ ?_)
        by_cases q : x = y
        · rw [decide_eq_true q]
          wp_walk
          rw [hc]
          exact ⟨plainId_quiet plain_eq_loop _, codeAny_builtin entry_eq_loop (by
            rw [Around.under_plainId plain_eq_loop _]
            refine ih r2 (p1 ++ [(x, t)]) (p2 ++ [(y, u)]) hc' prog w A R _ ⟨by rw [List.append_assoc]; exact hl, by rw [List.append_assoc]; exact hb, ?_⟩
            have : lcmp true (((x, t) :: r1).map (·.1)) (((y, u) :: r2).map (·.1)) = lcmp true (r1.map (·.1)) (r2.map (·.1)) := by simp [lcmp, q]
            rw [← this]; exact h)⟩
        · rw [decide_eq_false q]
          wp_walk using wpAny_loadPart' hl, wpAny_loadPart' hb
          rw [e1, e2]
          dsimp only
          refine wpAny_bind (rc_str true (wpAny_pure ?_))
          have : lcmp true (((x, t) :: r1).map (·.1)) (((y, u) :: r2).map (·.1)) = opStr true x y := by simp [lcmp, q]
          rw [this] at h; exact h
end VS

end PartV29

noncomputable section PartV30
namespace VS
open PySem PySem.Calls PySem.W PyProof.Rows
open AutoSeq1 (wpAny_loadPart')
open MeetsSeq MeetsSeq2 MeetsSeq3

theorem meets_list_lt (l b : Addr) (xs ys : List (Str × Tok)) (n n2 : Nat) : Meets (Builtin.«list.__lt__» ⟨[.ref l, .ref b], []⟩)
      (fun A R s => s.heap.get? l = some { cls := .type "list", dict := none, data := .seq (strValues xs).toArray n, slots := #[] } ∧ s.heap.get? b = some { cls := .type "list", dict := none, data := .seq (strValues ys).toArray n2, slots := #[] } ∧
        R (.ok (.ret (.bool (lcmp false (xs.map (·.1)) (ys.map (·.1)))))) s) := by
  intro prog w A R s h
  obtain ⟨hp, g, d, tk, os⟩ := s; obtain ⟨hl, hb, h⟩ := h
  have f3 := AutoSeq1.sub_list_list
  wp_walk using wpAny_loadPart' hl, wpAny_loadPart' hb
  exact ⟨plainId_quiet plain_eq_loop _, codeAny_builtin entry_eq_loop (by
    rw [Around.under_plainId plain_eq_loop _]
    exact lcmp_loop false l b n n2 xs ys [] [] rfl prog w A R _ ⟨hl, hb, h⟩)⟩
theorem meets_list_gt (l b : Addr) (xs ys : List (Str × Tok)) (n n2 : Nat) : Meets (Builtin.«list.__gt__» ⟨[.ref l, .ref b], []⟩)
      (fun A R s => s.heap.get? l = some { cls := .type "list", dict := none, data := .seq (strValues xs).toArray n, slots := #[] } ∧ s.heap.get? b = some { cls := .type "list", dict := none, data := .seq (strValues ys).toArray n2, slots := #[] } ∧
        R (.ok (.ret (.bool (lcmp true (xs.map (·.1)) (ys.map (·.1)))))) s) := by
  intro prog w A R s h
  obtain ⟨hp, g, d, tk, os⟩ := s; obtain ⟨hl, hb, h⟩ := h
  have f3 := AutoSeq1.sub_list_list
  wp_walk using wpAny_loadPart' hl, wpAny_loadPart' hb
  exact ⟨plainId_quiet plain_eq_loop _, codeAny_builtin entry_eq_loop (by
    rw [Around.under_plainId plain_eq_loop _]
    exact lcmp_loop true l b n n2 xs ys [] [] rfl prog w A R _ ⟨hl, hb, h⟩)⟩

section
variable {prog : Program} {w : World} {A : Around} {s : Shared} {P : PM} {E : Value → Shared → Prop}
theorem strs_of {P : PM} {vs : List Value} {xs : List Str} (pr : Paired (Ty.str.rel P) vs xs) : ∃ l : List (Str × Tok), vs = strValues l ∧ l.map (·.1) = xs := by
  induction pr with
  | nil => exact ⟨[], rfl, rfl⟩
  | @cons v x vs xs h _ ih =>
    obtain ⟨l, e1, e2⟩ := ih
    obtain ⟨t, rfl⟩ := h
    exact ⟨(x, t) :: l, by rw [e1]; rfl, by rw [← e2]; rfl⟩
theorem rc_lists (gt : Bool) {u v : Value} {xs ys : List Str} {Q : Value → Shared → Prop} (h : Sub P s) (hu : A.units < cLine) (r1 : (Ty.list Ty.str).rel P u xs) (r2 : (Ty.list Ty.str).rel P v ys) (hQ : Q (.bool (lcmp gt xs ys)) s) :
    wpAny (model prog w) A (richCompare (opOf gt) u v) Q E s := by
  obtain ⟨vs, ⟨a, n, rfl, ha⟩, pa⟩ := r1
  obtain ⟨ws, ⟨b, m, rfl, hb⟩, pb⟩ := r2
  obtain ⟨la, rfl, rfl⟩ := strs_of pa
  obtain ⟨lb, rfl, rfl⟩ := strs_of pb
  have ta : s.TypeIs (.ref a) "list" := ⟨_, h _ _ ha, rfl⟩
  have tb : s.TypeIs (.ref b) "list" := ⟨_, h _ _ hb, rfl⟩
  cases gt with
  | false => exact wpAny_richCompare_same_room (op := .Lt) ta tb PySem.F.slot_list_lt (call_meets PySem.F.slot_list_lt ta PySem.F.entry_list_lt (PySem.F.args_list_lt_2 _ _) (meets_list_lt a b la lb n m) ⟨h _ _ ha, h _ _ hb, (by intro q; cases q), hQ⟩) hu
  | true => exact wpAny_richCompare_same_room (op := .Gt) ta tb PySem.F.slot_list_gt (call_meets PySem.F.slot_list_gt ta PySem.F.entry_list_gt (PySem.F.args_list_gt_2 _ _) (meets_list_gt a b la lb n m) ⟨h _ _ ha, h _ _ hb, (by intro q; cases q), hQ⟩) hu
end
end VS

end PartV30

noncomputable section PartV31
namespace VS
open PySem PySem.Calls PySem.W PyProof.Rows
open AutoSeq1 (wpAny_loadPart')

def Ob.best {α : Type} (τ : Ty α) (x : α) : Ob := ⟨fun P o => ∃ vb n, o = { cls := .type "list", data := .seq #[vb, vb] n } ∧ τ.rel P vb x, fun h ⟨vb, n, e, r⟩ => ⟨vb, n, e, τ.mono h r⟩⟩
def mm (gt : Bool) (a b : List Str) : List Str := if lcmp gt b a then b else a
section
variable {prog : Program} {w : World} {A : Around} {s s₀ : Shared} {P P₀ : PM} {E : Value → Shared → Prop}

theorem min_end {R : Result → Shared → Prop} {I S l : Addr} {items : Array Value} {n : Nat} {x : List Str} (hh : A.handled = none) (H : Hs s₀ P₀ [(I, Ob.listIter l items.size), (S, Ob.best (Ty.list Ty.str) x)] s P) (hl : P l = some { cls := .type "list", data := .seq items n })
    (hR : ∀ v s' P', PM.le P P' → Hs s₀ P₀ [] s' P' → (Ty.list Ty.str).rel P' v x → R (.ok (.ret v)) s') : codeAny (model prog w) A (.builtin "min.loop" ⟨[.ref I, .none, .ref S], []⟩) R s := by
  obtain ⟨oS, hS, ⟨vb, c, rfl, rb⟩, hPS⟩ := (H.perm (.swap _ _ _)).obj
  obtain ⟨oI, hI, ⟨hIc, hId⟩, hPI⟩ := H.obj
  refine codeAny_builtin PySem.F.entry_min_loop ?_
  rw [Around.under_plainId PySem.F.plain_min_loop _]
  show wpAny _ A.in1 (seqItems? (.ref S) >>= _) _ _ s
  refine wpAny_bind (wpAny_seqItems hS rfl ?_)
  show wpAny _ A.in1 (tryCatch (pyNext (.ref I)) _ >>= _) _ _ s
  refine wpAny_bind (wpAny_tryCatch (wpAny_pyNext_list_end hh ⟨oI, hI, hIc, hId⟩ ⟨_, H.sub _ _ hl, rfl, n, rfl⟩ (by simp) fun h' hx => ?_))
  have H1 := H.leave (h' := h') (tk := s.toks) fun c o hne e => hx c o hne e
  obtain ⟨oS', hS', _, _⟩ := H1.obj
  have hne : S ≠ I := fun q => by have := H.nodup; simp [q] at this
  have hS2 := hx _ _ hne hS
  show wpAny _ A.in1 (updateSeq S (fun _ => #[]) >>= _) _ _ _
  refine wpAny_bind ?_
  refine wpAny_updateSeq hS2 rfl (wpAny_bind (wpAny_letGo (wpAny_pure ?_)))
  refine hR vb _ P (.refl _) (H1.leave (tk := s.toks) fun c o hne e => (Heap.get?_update_other _ _ (Ne.symm hne)).trans e) rb
theorem min_next {R : Result → Shared → Prop} {I S l : Addr} {i : Nat} {items : Array Value} {n : Nat} {x y : List Str} {v : Value} (hu : A.units + 1 < cLine) (H : Hs s₀ P₀ [(I, Ob.listIter l i), (S, Ob.best (Ty.list Ty.str) x)] s P) (hl : P l = some { cls := .type "list", data := .seq items n }) (hv : items[i]? = some v) (rv : (Ty.list Ty.str).rel P v y)
    (hR : ∀ s' P', PM.le P P' → Hs s₀ P₀ [(I, Ob.listIter l (i + 1)), (S, Ob.best (Ty.list Ty.str) (mm false x y))] s' P' → codeAny (model prog w) A (.builtin "min.loop" ⟨[.ref I, .none, .ref S], []⟩) R s') : codeAny (model prog w) A (.builtin "min.loop" ⟨[.ref I, .none, .ref S], []⟩) R s := by
  have hname : (toString "min" ++ toString ".loop" : String) = "min.loop" := by decide
  obtain ⟨oS, hS, ⟨vb, c, rfl, rb⟩, hPS⟩ := (H.perm (.swap _ _ _)).obj
  obtain ⟨oI, hI, ⟨hIc, hId⟩, hPI⟩ := H.obj
  have hne : S ≠ I := fun q => by have := H.nodup; simp [q] at this
  refine codeAny_builtin PySem.F.entry_min_loop ?_
  rw [Around.under_plainId PySem.F.plain_min_loop _]
  show wpAny _ A.in1 (seqItems? (.ref S) >>= _) _ _ s
  refine wpAny_bind (wpAny_seqItems hS rfl ?_)
  show wpAny _ A.in1 (tryCatch (pyNext (.ref I)) _ >>= _) _ _ s
  refine wpAny_bind (wpAny_tryCatch (wpAny_pyNext_list_item ⟨oI, hI, hIc, hId⟩ ⟨_, H.sub _ _ hl, rfl, n, rfl⟩ hv fun h' ⟨o', ho', hc', hd'⟩ hs' => ?_))
  have H1 := H.change (b' := Ob.listIter l (i + 1)) (tk := s.toks) ho' ⟨hc', hd'⟩ fun c o hne e => (hs'.2 c hne).trans e
  have hS' := (hs'.2 S hne).trans hS
  show wpAny _ A.in1 (tryCatch (holding [v, v] (richCompare (opOf false) v vb >>= _)) _ >>= _) _ _ _
  refine wpAny_bind (wpAny_tryCatch (wpAny_holding (wpAny_bind (rc_lists false H1.sub hu rv rb ?_))))
  refine wpAny_bind (wpAny_holding (wpAny_truthy_bool ?_))
  refine wpAny_bind (wpAny_letGo (wpAny_pure ?_))
  cases hb : lcmp false y x with
  | true =>
    simp only [if_true]
    refine wpAny_bind ?_
    refine wpAny_updateSeq hS' rfl (wpAny_bind (wpAny_letGo ?_))
    rw [hname]
    refine wpAny_pure ⟨plainId_quiet PySem.F.plain_min_loop _, hR _ P (.refl _) ?_⟩
    have hm : mm false x y = y := by unfold mm; rw [hb]; rfl
    rw [hm]
    exact ((H1.perm (.swap _ _ _)).change (b' := Ob.best (Ty.list Ty.str) y) (tk := s.toks) (Heap.get?_update_self _ hS' rfl) ⟨v, _, rfl, rv⟩ fun c o hne e => (Heap.get?_update_other _ _ (Ne.symm hne)).trans e).perm (.swap _ _ _)
  | false =>
    simp only [Bool.false_eq_true, if_false]
    refine wpAny_bind (wpAny_letGo ?_)
    rw [hname]
    refine wpAny_pure ⟨plainId_quiet PySem.F.plain_min_loop _, hR _ P (.refl _) ?_⟩
    have hm : mm false x y = x := by unfold mm; rw [hb]; rfl
    rw [hm]
    exact H1
theorem op_min2 {v : Value} {a b : List Str} (h : Sub P s) (hh : A.handled = none) (hu : A.units + 1 < cLine) (r : (Ty.list (Ty.list Ty.str)).rel P v [a, b]) : Op prog w A s P (call (.builtin "min") [v] []) (Ty.list Ty.str) (mm false a b) := by
  obtain ⟨vs, ⟨l, n, rfl, hl⟩, pr⟩ := r
  obtain ⟨va, vb, rfl, ra, rb⟩ : ∃ va vb, vs = [va, vb] ∧ (Ty.list Ty.str).rel P va a ∧ (Ty.list Ty.str).rel P vb b := by
    cases pr with | cons h1 r => cases r with | cons h2 r => cases r; exact ⟨_, _, rfl, h1, h2⟩
  have hname : (toString "min" ++ toString ".loop" : String) = "min.loop" := by decide
  refine call_function_tree PySem.F.kind_min PySem.F.plain_min PySem.F.entry_min (PySem.F.args_min1 _) ?_
  show wpAny _ A.in1 (Builtin.Builtins.bindParams "min" ["key", "default"] 0 ⟨[], []⟩ >>= _) _ _ s
  refine wpAny_bind (wpAny_of_eq (show Builtin.Builtins.bindParams "min" ["key", "default"] 0 ⟨[], []⟩ = pure [none, none] from rfl) ?_)
  refine wpAny_bind (wpAny_pure ?_)
  have H0 := Hs.start h
  have H1 := H0.make (b := Ob.listIter l 0) (o := itObj l) (tk := s.toks) ⟨rfl, rfl⟩
  have H2 := H1.make (b := Ob.exact { cls := .type "list", data := .seq #[] }) (o := { cls := .type "list", data := .seq #[] }) (tk := s.toks) rfl
  refine wpAny_bind (wpAny_pyIter_list ⟨_, h _ _ hl, rfl, n, rfl⟩ ?_)
  refine wpAny_bind (wpAny_newObj_type ?_)
  rw [hname]
  refine wpAny_pure ⟨plainId_quiet PySem.F.plain_min_loop _, ?_⟩
  have hI0 : s.heap.objs.size ≠ (s.heap.push (itObj l)).objs.size := by rw [Heap.size_push]; exact Nat.ne_of_lt (Nat.lt_succ_self _)
  dsimp only at H2 ⊢
  change Hs s P [((s.heap.push (itObj l)).objs.size, Ob.exact { cls := .type "list", data := .seq #[] }), (s.heap.objs.size, Ob.listIter l 0)] { s with heap := (s.heap.push (itObj l)).push { cls := .type "list", data := .seq #[] } } P at H2
  change codeAny (model prog w) A (.builtin "min.loop" ⟨[.ref s.heap.objs.size, .none, .ref (s.heap.push (itObj l)).objs.size], []⟩) _ { s with heap := (s.heap.push (itObj l)).push { cls := .type "list", data := .seq #[] } }
  generalize ({ s with heap := (s.heap.push (itObj l)).push { cls := .type "list", data := .seq #[] } } : Shared) = s1 at H2 ⊢
  generalize (s.heap.push (itObj l)).objs.size = S at H2 hI0 ⊢
  generalize s.heap.objs.size = I at H2 hI0 ⊢
  obtain ⟨oS, hS, hSe, hPS⟩ := H2.obj
  have hSe' : oS = _ := hSe
  subst hSe'
  obtain ⟨oI, hI, ⟨hIc, hId⟩, hPI⟩ := (H2.perm (.swap _ _ _)).obj
  refine codeAny_builtin PySem.F.entry_min_loop ?_
  rw [Around.under_plainId PySem.F.plain_min_loop _]
  show wpAny _ A.in1 (seqItems? (.ref S) >>= _) _ _ s1
  refine wpAny_bind (wpAny_seqItems hS rfl ?_)
  show wpAny _ A.in1 (tryCatch (pyNext (.ref I)) _ >>= _) _ _ s1
  refine wpAny_bind (wpAny_tryCatch (wpAny_pyNext_list_item (x := va) ⟨oI, hI, hIc, hId⟩ ⟨_, H2.sub _ _ hl, rfl, n, rfl⟩ rfl fun h' ⟨o', ho', hc', hd'⟩ hs' => ?_))
  have H3 := (H2.perm (.swap _ _ _)).change (b' := Ob.listIter l 1) (tk := s1.toks) ho' ⟨hc', hd'⟩ fun c o hne e => (hs'.2 c hne).trans e
  have hS' := (hs'.2 S (Ne.symm hI0)).trans hS
  show wpAny _ A.in1 (updateSeq S (fun _ => #[va, va]) >>= _) _ _ _
  refine wpAny_bind ?_
  refine wpAny_updateSeq hS' rfl ?_
  rw [hname]
  have H4 := ((H3.perm (.swap _ _ _)).change (b' := Ob.best (Ty.list Ty.str) a) (tk := s1.toks) (Heap.get?_update_self (Obj.mapSeq fun _ => #[va, va]) hS' rfl) ⟨va, _, rfl, ra⟩ fun c o hne e => (Heap.get?_update_other _ _ (Ne.symm hne)).trans e).perm (.swap _ _ _)
  refine wpAny_pure ⟨plainId_quiet PySem.F.plain_min_loop _, min_next hu H4 hl rfl rb fun s5 P5 l5 H5 => min_end (items := [va, vb].toArray) hh H5 (l5 _ _ hl) fun v s6 P6 l6 H6 r6 => ?_⟩
  exact ⟨P6, H6.ext, r6⟩

theorem max_end {R : Result → Shared → Prop} {I S l : Addr} {items : Array Value} {n : Nat} {x : List Str} (hh : A.handled = none) (H : Hs s₀ P₀ [(I, Ob.listIter l items.size), (S, Ob.best (Ty.list Ty.str) x)] s P) (hl : P l = some { cls := .type "list", data := .seq items n })
    (hR : ∀ v s' P', PM.le P P' → Hs s₀ P₀ [] s' P' → (Ty.list Ty.str).rel P' v x → R (.ok (.ret v)) s') : codeAny (model prog w) A (.builtin "max.loop" ⟨[.ref I, .none, .ref S], []⟩) R s := by
  obtain ⟨oS, hS, ⟨vb, c, rfl, rb⟩, hPS⟩ := (H.perm (.swap _ _ _)).obj
  obtain ⟨oI, hI, ⟨hIc, hId⟩, hPI⟩ := H.obj
  refine codeAny_builtin PySem.F.entry_max_loop ?_
  rw [Around.under_plainId PySem.F.plain_max_loop _]
  show wpAny _ A.in1 (seqItems? (.ref S) >>= _) _ _ s
  refine wpAny_bind (wpAny_seqItems hS rfl ?_)
  show wpAny _ A.in1 (tryCatch (pyNext (.ref I)) _ >>= _) _ _ s
  refine wpAny_bind (wpAny_tryCatch (wpAny_pyNext_list_end hh ⟨oI, hI, hIc, hId⟩ ⟨_, H.sub _ _ hl, rfl, n, rfl⟩ (by simp) fun h' hx => ?_))
  have H1 := H.leave (h' := h') (tk := s.toks) fun c o hne e => hx c o hne e
  obtain ⟨oS', hS', _, _⟩ := H1.obj
  have hne : S ≠ I := fun q => by have := H.nodup; simp [q] at this
  have hS2 := hx _ _ hne hS
  show wpAny _ A.in1 (updateSeq S (fun _ => #[]) >>= _) _ _ _
  refine wpAny_bind ?_
  refine wpAny_updateSeq hS2 rfl (wpAny_bind (wpAny_letGo (wpAny_pure ?_)))
  refine hR vb _ P (.refl _) (H1.leave (tk := s.toks) fun c o hne e => (Heap.get?_update_other _ _ (Ne.symm hne)).trans e) rb
theorem max_next {R : Result → Shared → Prop} {I S l : Addr} {i : Nat} {items : Array Value} {n : Nat} {x y : List Str} {v : Value} (hu : A.units + 1 < cLine) (H : Hs s₀ P₀ [(I, Ob.listIter l i), (S, Ob.best (Ty.list Ty.str) x)] s P) (hl : P l = some { cls := .type "list", data := .seq items n }) (hv : items[i]? = some v) (rv : (Ty.list Ty.str).rel P v y)
    (hR : ∀ s' P', PM.le P P' → Hs s₀ P₀ [(I, Ob.listIter l (i + 1)), (S, Ob.best (Ty.list Ty.str) (mm true x y))] s' P' → codeAny (model prog w) A (.builtin "max.loop" ⟨[.ref I, .none, .ref S], []⟩) R s') : codeAny (model prog w) A (.builtin "max.loop" ⟨[.ref I, .none, .ref S], []⟩) R s := by
  have hname : (toString "max" ++ toString ".loop" : String) = "max.loop" := by decide
  obtain ⟨oS, hS, ⟨vb, c, rfl, rb⟩, hPS⟩ := (H.perm (.swap _ _ _)).obj
  obtain ⟨oI, hI, ⟨hIc, hId⟩, hPI⟩ := H.obj
  have hne : S ≠ I := fun q => by have := H.nodup; simp [q] at this
  refine codeAny_builtin PySem.F.entry_max_loop ?_
  rw [Around.under_plainId PySem.F.plain_max_loop _]
  show wpAny _ A.in1 (seqItems? (.ref S) >>= _) _ _ s
  refine wpAny_bind (wpAny_seqItems hS rfl ?_)
  show wpAny _ A.in1 (tryCatch (pyNext (.ref I)) _ >>= _) _ _ s
  refine wpAny_bind (wpAny_tryCatch (wpAny_pyNext_list_item ⟨oI, hI, hIc, hId⟩ ⟨_, H.sub _ _ hl, rfl, n, rfl⟩ hv fun h' ⟨o', ho', hc', hd'⟩ hs' => ?_))
  have H1 := H.change (b' := Ob.listIter l (i + 1)) (tk := s.toks) ho' ⟨hc', hd'⟩ fun c o hne e => (hs'.2 c hne).trans e
  have hS' := (hs'.2 S hne).trans hS
  show wpAny _ A.in1 (tryCatch (holding [v, v] (richCompare (opOf true) v vb >>= _)) _ >>= _) _ _ _
  refine wpAny_bind (wpAny_tryCatch (wpAny_holding (wpAny_bind (rc_lists true H1.sub hu rv rb ?_))))
  refine wpAny_bind (wpAny_holding (wpAny_truthy_bool ?_))
  refine wpAny_bind (wpAny_letGo (wpAny_pure ?_))
  cases hb : lcmp true y x with
  | true =>
    simp only [if_true]
    refine wpAny_bind ?_
    refine wpAny_updateSeq hS' rfl (wpAny_bind (wpAny_letGo ?_))
    rw [hname]
    refine wpAny_pure ⟨plainId_quiet PySem.F.plain_max_loop _, hR _ P (.refl _) ?_⟩
    have hm : mm true x y = y := by unfold mm; rw [hb]; rfl
    rw [hm]
    exact ((H1.perm (.swap _ _ _)).change (b' := Ob.best (Ty.list Ty.str) y) (tk := s.toks) (Heap.get?_update_self _ hS' rfl) ⟨v, _, rfl, rv⟩ fun c o hne e => (Heap.get?_update_other _ _ (Ne.symm hne)).trans e).perm (.swap _ _ _)
  | false =>
    simp only [Bool.false_eq_true, if_false]
    refine wpAny_bind (wpAny_letGo ?_)
    rw [hname]
    refine wpAny_pure ⟨plainId_quiet PySem.F.plain_max_loop _, hR _ P (.refl _) ?_⟩
    have hm : mm true x y = x := by unfold mm; rw [hb]; rfl
    rw [hm]
    exact H1
theorem op_max2 {v : Value} {a b : List Str} (h : Sub P s) (hh : A.handled = none) (hu : A.units + 1 < cLine) (r : (Ty.list (Ty.list Ty.str)).rel P v [a, b]) : Op prog w A s P (call (.builtin "max") [v] []) (Ty.list Ty.str) (mm true a b) := by
  obtain ⟨vs, ⟨l, n, rfl, hl⟩, pr⟩ := r
  obtain ⟨va, vb, rfl, ra, rb⟩ : ∃ va vb, vs = [va, vb] ∧ (Ty.list Ty.str).rel P va a ∧ (Ty.list Ty.str).rel P vb b := by
    cases pr with | cons h1 r => cases r with | cons h2 r => cases r; exact ⟨_, _, rfl, h1, h2⟩
  have hname : (toString "max" ++ toString ".loop" : String) = "max.loop" := by decide
  refine call_function_tree PySem.F.kind_max PySem.F.plain_max PySem.F.entry_max (PySem.F.args_max1 _) ?_
  show wpAny _ A.in1 (Builtin.Builtins.bindParams "max" ["key", "default"] 0 ⟨[], []⟩ >>= _) _ _ s
  refine wpAny_bind (wpAny_of_eq (show Builtin.Builtins.bindParams "max" ["key", "default"] 0 ⟨[], []⟩ = pure [none, none] from rfl) ?_)
  refine wpAny_bind (wpAny_pure ?_)
  have H0 := Hs.start h
  have H1 := H0.make (b := Ob.listIter l 0) (o := itObj l) (tk := s.toks) ⟨rfl, rfl⟩
  have H2 := H1.make (b := Ob.exact { cls := .type "list", data := .seq #[] }) (o := { cls := .type "list", data := .seq #[] }) (tk := s.toks) rfl
  refine wpAny_bind (wpAny_pyIter_list ⟨_, h _ _ hl, rfl, n, rfl⟩ ?_)
  refine wpAny_bind (wpAny_newObj_type ?_)
  rw [hname]
  refine wpAny_pure ⟨plainId_quiet PySem.F.plain_max_loop _, ?_⟩
  have hI0 : s.heap.objs.size ≠ (s.heap.push (itObj l)).objs.size := by rw [Heap.size_push]; exact Nat.ne_of_lt (Nat.lt_succ_self _)
  dsimp only at H2 ⊢
  change Hs s P [((s.heap.push (itObj l)).objs.size, Ob.exact { cls := .type "list", data := .seq #[] }), (s.heap.objs.size, Ob.listIter l 0)] { s with heap := (s.heap.push (itObj l)).push { cls := .type "list", data := .seq #[] } } P at H2
  change codeAny (model prog w) A (.builtin "max.loop" ⟨[.ref s.heap.objs.size, .none, .ref (s.heap.push (itObj l)).objs.size], []⟩) _ { s with heap := (s.heap.push (itObj l)).push { cls := .type "list", data := .seq #[] } }
  generalize ({ s with heap := (s.heap.push (itObj l)).push { cls := .type "list", data := .seq #[] } } : Shared) = s1 at H2 ⊢
  generalize (s.heap.push (itObj l)).objs.size = S at H2 hI0 ⊢
  generalize s.heap.objs.size = I at H2 hI0 ⊢
  obtain ⟨oS, hS, hSe, hPS⟩ := H2.obj
  have hSe' : oS = _ := hSe
  subst hSe'
  obtain ⟨oI, hI, ⟨hIc, hId⟩, hPI⟩ := (H2.perm (.swap _ _ _)).obj
  refine codeAny_builtin PySem.F.entry_max_loop ?_
  rw [Around.under_plainId PySem.F.plain_max_loop _]
  show wpAny _ A.in1 (seqItems? (.ref S) >>= _) _ _ s1
  refine wpAny_bind (wpAny_seqItems hS rfl ?_)
  show wpAny _ A.in1 (tryCatch (pyNext (.ref I)) _ >>= _) _ _ s1
  refine wpAny_bind (wpAny_tryCatch (wpAny_pyNext_list_item (x := va) ⟨oI, hI, hIc, hId⟩ ⟨_, H2.sub _ _ hl, rfl, n, rfl⟩ rfl fun h' ⟨o', ho', hc', hd'⟩ hs' => ?_))
  have H3 := (H2.perm (.swap _ _ _)).change (b' := Ob.listIter l 1) (tk := s1.toks) ho' ⟨hc', hd'⟩ fun c o hne e => (hs'.2 c hne).trans e
  have hS' := (hs'.2 S (Ne.symm hI0)).trans hS
  show wpAny _ A.in1 (updateSeq S (fun _ => #[va, va]) >>= _) _ _ _
  refine wpAny_bind ?_
  refine wpAny_updateSeq hS' rfl ?_
  rw [hname]
  have H4 := ((H3.perm (.swap _ _ _)).change (b' := Ob.best (Ty.list Ty.str) a) (tk := s1.toks) (Heap.get?_update_self (Obj.mapSeq fun _ => #[va, va]) hS' rfl) ⟨va, _, rfl, ra⟩ fun c o hne e => (Heap.get?_update_other _ _ (Ne.symm hne)).trans e).perm (.swap _ _ _)
  refine wpAny_pure ⟨plainId_quiet PySem.F.plain_max_loop _, max_next hu H4 hl rfl rb fun s5 P5 l5 H5 => max_end (items := [va, vb].toArray) hh H5 (l5 _ _ hl) fun v s6 P6 l6 H6 r6 => ?_⟩
  exact ⟨P6, H6.ext, r6⟩
end
end VS

end PartV31

noncomputable section PartX4
namespace VS
open PySem PySem.Calls PySem.W PyProof.Rows
section
variable {cs : Str → Prop} {s₀ s s' : Shared} {P₀ P P' : PM} {env : Env} {ρ : List (Str × Bd)} {O : List (Addr × Ob)} {prog : Program} {w : World} {A : Around} {E : Value → Shared → Prop} {α β : Type} {τ : Ty α} {c : Value}
/-- an exception of the call's own, new or under way here -/
def Rsd (cs : Str → Prop) (s₀ : Shared) (P₀ : PM) (env : Env) (ρ : List (Str × Bd)) (O : List (Addr × Ob)) (c : Value) (P : PM) (e : Value) (s : Shared) : Prop :=
  ∃ a, e = .ref a ∧ (St cs s₀ P₀ env ρ ((a, Ob.exc .none c) :: O) s P ∨ ∃ T, St cs s₀ P₀ env ρ ((T, Ob.tb (rawInt env.locals)) :: (a, Ob.exc (.ref T) c) :: O) s P)
/-- what the frames are for a call's body -/
structure Frs (A : Around) (env : Env) (O : List (Addr × Ob)) (l : List Env) : Prop where
  frames : A.frames = some (env :: l)
  own : env.frame = some env.locals
  ok : FrOk O l
theorem Frs.sub {O' : List (Addr × Ob)} {l : List Env} (h : Frs A env O l) (hs : ∀ p ∈ O, p ∈ O') : Frs A env O' l := ⟨h.frames, h.own, h.ok.sub hs⟩
theorem Frs.mark {l : List Env} {h : Option Value} (F : Frs A env O l) : Frs (A.mark h) env O l := ⟨F.frames, F.own, F.ok⟩
variable {l : List Env}
theorem Rsd.note {e : Value} {Q : Unit → Shared → Prop} (R : Rsd cs s₀ P₀ env ρ O c P e s) (F : Frs A env O l)
    (k : ∀ a T s', e = .ref a → St cs s₀ P₀ env ρ ((T, Ob.tb (rawInt env.locals)) :: (a, Ob.exc (.ref T) c) :: O) s' P → Q () s') : wpAny (model prog w) A (noteFrame e env) Q E s := by
  obtain ⟨a, rfl, S | ⟨T, S⟩⟩ := R
  · exact S.noteNew F.frames F.own F.ok fun T s' S' => k a T s' rfl S'
  · exact S.noteAgain F.own (k a T s rfl S)
/-- the frame is written in, and the exception lands -/
theorem Rsd.land {e : Value} {K : Shared → Prop} {E' : Value → Shared → Prop} (R : Rsd cs s₀ P₀ env ρ O c P e s) (F : Frs A env O l)
    (k : ∀ a T s', e = .ref a → St cs s₀ P₀ env ρ ((T, Ob.tb .none) :: (a, Ob.exc (.ref T) c) :: O) s' P → K s') : wpAny (model prog w) A (noteFrame e env) (fun _ s2 => wpAny (model prog w) A (setFlight e none) (fun _ s3 => K s3) E' s2) E s :=
  R.note F fun a T s' he S' => by subst he; exact S'.flight (f := none) fun s2 S2 => k a T s2 rfl S2
/-- through a loop's own code -/
theorem Rsd.pass {A2 : Around} {e : Value} (R : Rsd cs s₀ P₀ env ρ O c P e s) (F : Frs A env O l) (k : ∀ s', Rsd cs s₀ P₀ env ρ O c P e s' → E e s') : notedBy (model prog w) A env (cameBackBy (model prog w) A2 env E) e s := by
  refine R.note F fun a T s' he S' => ?_
  subst he
  obtain ⟨oe, he, ⟨hcls, t, hd⟩, hP⟩ := S'.swap.obj
  refine wpAny_bind (wpAny_field he hd (i := 1) (x := .ref T) rfl ?_)
  rw [if_neg (show ¬ (Value.ref T == Value.none) = true from by simp)]
  rw [F.own]
  first
    | exact wpAny_bind (wpAny_pure (S'.flight (f := some env.locals) fun s2 S2 => k s2 ⟨a, rfl, .inr ⟨T, S2⟩⟩))
    | exact S'.flight (f := some env.locals) fun s2 S2 => k s2 ⟨a, rfl, .inr ⟨T, S2⟩⟩
/-- passed on behind a finally -/
theorem St.passOn {a T : Addr} {what : String} {Q : Flow → Shared → Prop} (S : St cs s₀ P₀ env ρ ((T, Ob.tb .none) :: (a, Ob.exc (.ref T) c) :: O) s P) (F : Frs A env O l) (k : ∀ s', Rsd cs s₀ P₀ env ρ O c P (.ref a) s' → E (.ref a) s') :
    wpAny (model prog w) A (PySem.passOn what (.ref a) env : Sem Flow) Q E s := by
  obtain ⟨oe, he, ⟨hcls, t, hd⟩, hP⟩ := S.swap.obj
  unfold PySem.passOn
  refine wpAny_bind (wpAny_field he hd (i := 1) (x := .ref T) rfl ?_)
  rw [if_neg (show ¬ (Value.ref T == Value.none) = true from by simp)]
  rw [F.own]
  first
    | exact wpAny_bind (wpAny_pure (wpAny_bind (S.flight (f := some env.locals) fun s2 S2 => wpAny_throw (k s2 ⟨a, rfl, .inr ⟨T, S2⟩⟩))))
    | exact wpAny_bind (S.flight (f := some env.locals) fun s2 S2 => wpAny_throw (k s2 ⟨a, rfl, .inr ⟨T, S2⟩⟩))
/-- an item beyond the end -/
theorem St.subOut {value slice : Expr} {pos : Pos} {xs : List α} {j : Nat} {Q : Value → Shared → Prop} (S : St cs s₀ P₀ env ρ O s P) (H : HOk A O c) (h1 : Ev prog w A s P (eval value env) (Ty.list τ) xs) (h2 : Ev prog w A s P (eval slice env) Ty.int (j : Int))
    (hout : xs.length ≤ j) (hj : j ≤ sizeLine) (k : ∀ e s' P', PM.le P P' → Rsd cs s₀ P₀ env ρ O c P' e s' → E e s')
    (hs : ∀ v i t, subscripted slice false v (.int i t) = operate [v, .int i t] (getItem v (.int i t)) := by intro _ _ _; with_unfolding_all rfl) : wpAny (model prog w) A (eval (.Subscript value slice pos) env) Q E s := by
  refine Subscript_ (h1.use S.sub fun a s2 P2 e2 ra => (h2.mono e2).use (S.go e2).sub fun b s3 P3 e3 rb => ?_)
  obtain ⟨t, rfl⟩ := rb
  have S3 := (S.go e2).go e3
  obtain ⟨vs, q, pr⟩ := (Ty.list τ).mono e3.le ra
  have hl := pr.length
  obtain ⟨b, n, rfl, hp⟩ := id q
  have L := q.isList S3.sub
  have hfit : Builtin.List.listFitsIndex (j : Int) = true := fitsIndex_both (by omega) (by have : sizeLine = 16777216 := rfl; omega)
  refine tail_any L.typeIs slot_list_getitem.lookup ?_ (hs _ _ _)
  exact S3.getOut H L (j := j) rfl (by simpa [hl] using hout) hfit fun e s' S' => k _ s' P3 (e2.le.trans e3.le) ⟨e, rfl, .inl S'⟩
end
end VS

end PartX4

noncomputable section PartX5
namespace VS
open PySem PySem.Calls PySem.W PyProof.Rows
/-- the callers' frames, as own objects -/
abbrev upD (D : List (Addr × Obj)) : List (Addr × Ob) := D.map fun p => (p.1, Ob.upto p.2)
/-- the frames of the stack are those at D -/
def FrAt (D : List (Addr × Obj)) (l : List Env) : Prop := ∀ en ∈ l, en.scope.kind ≠ .module ∧ ∃ L o, en.frame = some L ∧ (L, o) ∈ D ∧ ∀ vs, o.data ≠ .fields vs
theorem FrAt.ok {D : List (Addr × Obj)} {l : List Env} (h : FrAt D l) : FrOk (upD D) l := fun en hen => let ⟨a, L, o, b, c, d⟩ := h en hen; ⟨a, L, o, b, List.mem_map.mpr ⟨_, c, rfl⟩, d⟩
section
variable (prog : Program) (w : World)
/-- a call that may look at the frames under way -/
def ReturnsF {α : Type} (K : Frag) (p : Program) (lo : List Str) (mg mb : Str → Option Value) (n : Nat) (f : Value) (vs : List Value) (P : PM) (τ : Ty α) (x : α) : Prop :=
  ∀ A s l D, Room n A → A.frames = some l → FrAt D l → (∀ p ∈ D, s.heap.get? p.1 = some p.2 ∧ P p.1 = none) → (D.map (·.1)).Nodup → Wd K p lo mg mb (hideAll s.heap (D.map (·.1))) → Sub P s →
    wpAny (model prog w) A (call f vs []) (fun v s' => ∃ P', Shk (D.map (·.1)) s P s' P' ∧ τ.rel P' v x) (fun _ _ => False) s
end
section
variable {cs : Str → Prop} {s₀ s s' : Shared} {P₀ P P' : PM} {env : Env} {ρ : List (Str × Bd)} {O : List (Addr × Ob)} {prog : Program} {w : World} {A : Around} {α β : Type} {τ : Ty α} {x : α} {K : Frag} {p : Program} {lo : List Str} {mg mb : Str → Option Value} {n : Nat}
theorem St.shaken {D : List (Addr × Obj)} (hD : ∀ p ∈ D, s₀.heap.get? p.1 = some p.2) (S : St cs { s₀ with heap := hideAll s₀.heap (D.map (·.1)) } P₀ env ρ O s P) (h : ∀ q ∈ upD D, q ∈ O) : Shk (D.map (·.1)) s₀ P₀ s P where
  keep := fun b o hb ho => S.ext.keep b o (hideAll_get _ ho hb)
  upto := fun b o hb ho => by
    obtain ⟨q, hq, rfl⟩ := List.mem_map.mp hb
    obtain ⟨⟨o', ho', sl, rfl⟩, _⟩ := S.own _ (h _ (List.mem_map.mpr ⟨q, hq, rfl⟩))
    rw [hD q hq] at ho; cases ho
    exact ⟨sl, ho'⟩
  le := S.ext.le
  fresh := fun b o hb => (S.ext.fresh b o hb).imp id fun hn => by
    by_cases hm : b ∈ D.map (·.1)
    · obtain ⟨q, hq, rfl⟩ := List.mem_map.mp hm
      have := (S.own _ (h _ (List.mem_map.mpr ⟨q, hq, rfl⟩))).2.1
      rw [this] at hb; cases hb
    · cases z : s₀.heap.get? b with
      | none => rfl
      | some o' => rw [hideAll_get _ z hm] at hn; cases hn
  sub := S.ext.sub
  gens := S.ext.gens
  os := S.ext.os
theorem Returns.defF {f : Addr} {oc : Value} {od : Option Addr} {sl : Array (Option Value)} {fd : FuncData} {body : List Stmt} {vs : List Value} {ρ : List (Str × Bd)}
    (hf : K.lookup f = some ⟨oc, od, .func fd, sl⟩) (hb : fd.body = .stmts body) (hclo : fd.closure = []) (hcd : codeIn K fd.code fd.qualname = true)
    (bs : List (Str × Value)) (hbind : bindArgs fd ⟨vs, []⟩ = pure bs) (hbs : BindsAre P bs ρ)
    (nd : nodupB (ρ.map (·.1)) = true) (kd : (ρ.all fun y => fd.scope.names.lookup y.1 == some .local || fd.scope.names.lookup y.1 == some .cell) = true) (ndc : nodupB ((cellsFrom 0 fd.scope.names []).map (·.1)) = true)
    (h : ∀ A s₀ P₀ s L l D, Room n A → Frs A (callEnvC fd L f) D l → Wd K p lo mg mb s₀.heap → St (fun _ => True) s₀ P₀ (callEnvC fd L f) ρ D s P₀ →
      wpAny (model prog w) A (execs body (callEnvC fd L f)) (fun fl s' => ∃ v P' ρ' O', fl = .ret v ∧ St (fun _ => True) s₀ P₀ (callEnvC fd L f) ρ' O' s' P' ∧ (∀ q ∈ D, q ∈ O') ∧ τ.rel P' v x) (fun _ _ => False) s)
    (hco : fd.scope.isCoroutine = false := by rfl) (hgen : fd.scope.isGenerator = false := by rfl) (hk : fd.scope.kind = .function := by rfl) :
    ReturnsF prog w K p lo mg mb (n + 1) (.ref f) vs P τ x := by
  intro A s l D R hfr hl hD hnd W hs
  have own := fun (b : Addr) (o : Obj) (e : K.lookup b = some o) => of_hideAll _ (W.own b o e)
  have cr : s.heap.CodeRec fd.code fd.qualname := by
    obtain ⟨c, o, vs', t, e1, e2, e3, e4⟩ := codeRec_of W.own hcd
    exact ⟨c, o, vs', t, e1, of_hideAll _ e2, e3, e4⟩
  have nl : s.heap.NoLimit := (W.top.nolimit).keeps fun b o e => of_hideAll _ e
  refine wpAny_call (codeAny_call_function R.lt (own _ _ hf) rfl hco hgen hb cr ?_)
  rw [hbind, hclo]
  refine wpAny_pure ?_
  have nm : ∀ y ∈ bs, ∃ b, (y.1, b) ∈ ρ := fun y hy => by
    have : y.1 ∈ bs.map (·.1) := List.mem_map.mpr ⟨y, hy, rfl⟩
    rw [hbs.names] at this
    obtain ⟨z, hz, ez⟩ := List.mem_map.mp this
    exact ⟨z.2, ez ▸ hz⟩
  have kd' : (bs.all fun y => fd.scope.names.lookup y.1 == some .local || fd.scope.names.lookup y.1 == some .cell) = true := List.all_eq_true.mpr fun y hy => by
    obtain ⟨b, hb⟩ := nm y hy
    exact List.all_eq_true.mp kd _ hb
  refine wpAny_newFunctionEnv_cells hk (kinds_of kd' _) fun env he s'' y => ?_
  subst he
  refine ⟨nl.keeps y.toInCall.keep, codeAny_func ?_⟩
  have ndc' : ((cellsFrom (s.heap.objs.size + 1) fd.scope.names []).map (·.1)).Nodup := cellsFrom_names fd.scope.names 0 (s.heap.objs.size + 1) [] [] rfl ▸ nodup_of ndc
  have S : St (fun _ => True) s P (callEnvC fd s.heap.objs.size f) ρ [] s'' P := St.start (env := callEnvC fd s.heap.objs.size f) hk y hs hbs (nodup_of nd) ndc' fun z hz => by
    have := List.all_eq_true.mp kd z hz
    rcases Bool.or_eq_true_iff.mp this with q | q
    · have q' : fd.scope.names.lookup z.1 = some .local := by simpa using q
      exact .inl q'
    · have q' : fd.scope.names.lookup z.1 = some .cell := by simpa using q
      exact .inr ⟨q', cell_there _ q'⟩
  refine wpAny_mono (h (A.deeper (callEnvC fd s.heap.objs.size f)) _ P s'' s.heap.objs.size l (upD D) (Room.deeper R) ⟨Around.frames_deeper hfr, rfl, hl.ok⟩ W (S.hide hD hnd)) (fun fl s3 ⟨v, P3, ρ3, O3, e3, S3, h3, r3⟩ => ?_) fun _ _ q => q.elim
  subst e3
  exact ⟨P3, St.shaken (fun q hq => (hD q hq).1) S3 h3, r3⟩
theorem St.extend' {D : Addr} {xs ys : List α} {o e : Expr} {apos pos : Pos} {Q : Value → Shared → Prop} {E : Value → Shared → Prop} (S : St cs s₀ P₀ env ρ ((D, Ob.list τ xs) :: O) s P) (ho : Ev prog w A s P (eval o env) Ty.raw (.ref D))
    (he : ∀ s1 P1, PM.le P P1 → St cs s₀ P₀ env ρ ((D, Ob.list τ xs) :: O) s1 P1 → Ev prog w A s1 P1 (eval e env) (Ty.list τ) ys) (hsz : xs.length + ys.length ≤ sizeLine)
    (k : ∀ s' P', PM.le P P' → St cs s₀ P₀ env ρ ((D, Ob.list τ (xs ++ ys)) :: O) s' P' → Q .none s')
    (hbase : attributeBase o "extend" env (eval o env) = eval o env := by rfl) (hline : (apos.endLine == pos.line) = true := by rfl)
    (hfew : ((backTo pos (starEach [e] env)).all (fun x => !x.1) && (backToKw pos (keywordEach [] env)).all (fun x => x.1.isSome) && decide ([e].length + ([] : List Keyword).length + (if ([] : List Keyword).isEmpty then 0 else 1) < 30)) = true := by rfl)
    (htrees : backTo pos (starEach [e] env) = [(false, eval e env)] := by rfl) :
    wpAny (model prog w) A (eval (.Call (.Attribute o "extend" apos) [e] [] pos) env) Q E s :=
  own_method S ho PySem.F.slot_list_extend PySem.F.type_list_extend (fun s1 P1 l1 S1 => PySem.seqMethod1_meets PySem.F.slot_list_extend PySem.F.entry_list_extend (((he s1 P1 l1 S1).use S1.sub fun v s2 P2 e2 r => by
    have S2 := S1.go e2
    obtain ⟨vs, n, hob, hpr, hP⟩ := S2.items
    obtain ⟨b, ws, n2, rfl, hw, hpw⟩ := Ty.seqAt r
    obtain ⟨⟨n', hn⟩, kp⟩ := upd_seq (fun xs => xs ++ ws.toArray) hob
    have hz : vs.toArray.size + ws.toArray.size ≤ sizeLine := by simp only [List.size_toArray]; rw [hpr.length, hpw.length]; exact hsz
    refine ⟨⟨_, hob, rfl⟩, PySem.F.args_list_extend_2 _ _, _, PySem.AutoSeq1.list_extend_list_list_0 D vs.toArray n b ws.toArray n2 (extend_door hz) (by omega) (by omega), hob, e2.sub _ _ hw, ?_⟩
    exact k _ P2 (l1.trans e2.le) (S2.change (b' := Ob.list τ (xs ++ ys)) (tk := s2.toks) hn ⟨vs ++ ws, n', by simp, pApp hpr hpw⟩ kp)))) hbase hline hfew htrees
end
end VS

end PartX5

noncomputable section PartW1
namespace VS
open PySem PySem.Calls PySem.W PyProof.Rows

section
variable {prog : Program} {w : World} {lo : List Str} {p : Program} {mg mb : Str → Option Value} {P : PM}

theorem spec_fspath {v : Value} {x : Str} (r : Ty.str.rel P v x) : Returns prog w (KF w.params) p lo mg mb 3 (.ref 94) [v] P Ty.str x := by
  refine Returns.def (ρ := [("path", Ty.str.at x)]) rfl rfl rfl rfl (bind_pure rfl (.cons r .nil)) rfl rfl rfl ?_
  intro A s₀ P₀ s L R W S
  refine S.assigns (τ := Ty.raw) (x := .type "str") ?_ (.inl rfl) fun s1 P1 _ S1 => ?_
  · refine Ev.callT (Ev.built (S.wd W) rfl b_type rfl rfl rfl rfl) (EvL.cons (Ev.name S.fs rfl rfl) EvL.nil) ?_
    rintro s1 P1 vs e ⟨v, r, rfl, ⟨t, rfl⟩, rfl⟩
    exact op_type_str e.sub
  refine S1.ifT ?_ fun s2 P2 _ S2 => ?_
  · refine EvB.val (τ := Ty.bool) (x := true) (Ev.callB (Ev.built (S1.wd W) rfl b_issubclass rfl rfl rfl rfl) (EvL.cons (Ev.name S1.fs rfl rfl) (EvL.cons (Ev.tupV2 (Ev.built (S1.wd W) rfl b_str rfl rfl rfl rfl) (Ev.built (S1.wd W) rfl b_bytes rfl rfl rfl rfl)) EvL.nil)) ?_) fun s1 P1 v e r => (by cases r; exact Truth.bool e.sub)
    rintro s1 P1 vs e ⟨v, r, rfl, rfl, v2, r2, rfl, h2, rfl⟩
    exact op_issub e.sub h2
  exact S2.ret (Ev.name S2.fs rfl rfl)

theorem spec_sep {v : Value} {x : Str} (r : Ty.str.rel P v x) : Returns prog w (KF w.params) p lo mg mb 3 (.ref 108) [v] P Ty.str "/" := by
  refine Returns.def (ρ := [("path", Ty.str.at x)]) rfl rfl rfl rfl (bind_pure rfl (.cons r .nil)) rfl rfl rfl ?_
  intro A s₀ P₀ s L R W S
  refine S.ifF ?_ fun s2 P2 _ S2 => ?_
  · refine EvB.val (τ := Ty.bool) (x := false) (Ev.callB (Ev.built (S.wd W) rfl b_isinstance rfl rfl rfl rfl) (EvL.cons (Ev.name S.fs rfl rfl) (EvL.cons (Ev.built (S.wd W) rfl b_bytes rfl rfl rfl rfl) EvL.nil)) ?_) fun s1 P1 v e r => (by cases r; exact Truth.bool e.sub)
    rintro s1 P1 vs e ⟨v, r, rfl, ⟨t, rfl⟩, v2, r2, rfl, rfl, rfl⟩
    exact op_isi_bytes e.sub
  exact S2.ret Ev.cStr
end
end VS

end PartW1

noncomputable section PartW2
namespace VS
open PySem PySem.Calls PySem.W PyProof.Rows

section
variable {prog : Program} {w : World} {lo : List Str} {p : Program} {mg mb : Str → Option Value} {P : PM}

def jn (x y : Str) : Str := if Txt.endswith x "/" then x ++ y else x ++ (("/" : Str) ++ y)
theorem spec_join {v1 v2 : Value} {x y : Str} (r1 : Ty.str.rel P v1 x) (r2 : Ty.str.rel P v2 y) (hy : Txt.startswith y "/" = false) (hx : x.length ≠ 0) (hsz : x.length + y.length + 1 ≤ sizeLine) :
    Returns prog w (KF w.params) p lo mg mb 5 (.ref 115) [v1, v2] P Ty.str (jn x y) := by
  refine Returns.def (ρ := [("a", Ty.str.at x), ("p", (Ty.tuple Ty.str).at [y])]) rfl rfl rfl rfl (bind_var (by with_unfolding_all rfl) r1 r2) rfl rfl rfl ?_
  intro A s₀ P₀ s L R W S
  refine S.assigns (Ev.def1 (S.wd W) (R.le (by decide)) (Ev.name S.fs rfl rfl) fun P v r => spec_fspath r) (.inl rfl) fun s1 P1 _ S1 => ?_
  refine S1.assigns (Ev.def1 (S1.wd W) (R.le (by decide)) (Ev.name S1.fs rfl rfl) fun P v r => spec_sep r) (.inl rfl) fun s2 P2 _ S2 => ?_
  refine S2.assigns (Ev.name S2.fs rfl rfl) (.inl rfl) fun s3 P3 _ S3 => ?_
  refine wpAny_execs_cons (wpAny_Try_except ?_)
  refine S3.forT R.handled (fun i => [("sep", Ty.str.at "/"), ("path", Ty.str.at (if i = 0 then x else jn x y))]) (fun _ => []) (Ev.name S3.fs rfl rfl) (.inl rfl) ⟨rfl, rfl, trivial⟩ rfl ?_ ?_
  · intro i hi s4 P4 its E l4 S4
    obtain rfl : i = 0 := by simpa using hi
    replace S4 := S4.only (L := [("b", Ty.str.at y), ("sep", Ty.str.at "/"), ("path", Ty.str.at x)]) ⟨rfl, rfl, rfl, trivial⟩
    rw [show (if 0 + 1 = 0 then x else jn x y) = jn x y from rfl]
    refine S4.assigns (Ev.def1 (S4.wd W) (R.le (by decide)) (Ev.name S4.fs rfl rfl) fun P v r => spec_fspath r) (.inl rfl) fun s5 P5 l5 S5 => ?_
    refine S5.ifF (EvB.or2 (b := false) (c := false) (EvB.to hy (EvB.bool (Ev.strM (Ev.name S5.fs rfl rfl) (Ev.name S5.fs rfl rfl) PySem.F.slot_str_startswith PySem.F.type_str_startswith fun s1 P1 t u h => op_startswith h))) fun _ => EvB.not (b := true) (EvB.val (Ev.name S5.fs rfl rfl) fun s1 P1 v e r => ?_)) fun s6 P6 l6 S6 => ?_
    · obtain ⟨t, rfl⟩ := r
      have := truth_str (prog := prog) (w := w) (A := A) (x := x) (t := t) e.sub (by omega)
      rwa [show (x.length != 0) = true by simpa using hx] at this
    · cases hc : Txt.endswith x "/" with
      | true =>
        refine S6.ifT (EvB.to hc (EvB.bool (Ev.strM (Ev.name S6.fs rfl rfl) (Ev.name S6.fs rfl rfl) PySem.F.slot_str_endswith PySem.F.type_str_endswith fun s1 P1 t u h => op_endswith h))) fun s7 P7 l7 S7 => ?_
        refine wpAny_execs_cons (S7.augAssign rfl rfl (Ev.name S7.fs rfl rfl) (fun s1 P1 a b e ⟨t, ra⟩ ⟨u, rb⟩ => by subst ra; subst rb; exact op_iadd_str e.sub (by omega)) (.inl rfl) fun s8 P8 l8 S8 => ?_)
        refine execs_nil' (execs_nil' (execs_nil' ⟨P8, ((l5.trans l6).trans l7).trans l8, S8.only ⟨rfl, ?_, trivial⟩⟩))
        show some _ = some _
        rw [jn, hc]; rfl
      | false =>
        refine S6.ifF (EvB.to hc (EvB.bool (Ev.strM (Ev.name S6.fs rfl rfl) (Ev.name S6.fs rfl rfl) PySem.F.slot_str_endswith PySem.F.type_str_endswith fun s1 P1 t u h => op_endswith h))) fun s7 P7 l7 S7 => ?_
        have hs1 : Str.length "/" = 1 := rfl
        refine wpAny_execs_cons (S7.augAssign rfl rfl (Ev.addS (Ev.name S7.fs rfl rfl) (Ev.name S7.fs rfl rfl) (by rw [hs1]; omega)) (fun s1 P1 a b e ⟨t, ra⟩ ⟨u, rb⟩ => by subst ra; subst rb; exact op_iadd_str e.sub (by rw [Str.length_append, hs1]; omega)) (.inl rfl) fun s8 P8 l8 S8 => ?_)
        refine execs_nil' (execs_nil' (execs_nil' ⟨P8, ((l5.trans l6).trans l7).trans l8, S8.only ⟨rfl, ?_, trivial⟩⟩))
        show some _ = some _
        rw [jn, hc]; rfl
  · intro s4 P4 l4 S4
    exact execs_nil' (execs_nil' (S4.ret (Ev.name S4.fs rfl rfl)))
end
end VS

end PartW2

noncomputable section PartW3
namespace VS
open PySem PySem.Calls PySem.W PyProof.Rows

section
variable {prog : Program} {w : World} {lo : List Str} {p : Program} {mg mb : Str → Option Value} {P : PM}

def bnm (x : Str) : Str := Txt.slice x (some (Txt.rfind x "/" + 1)) none
theorem spec_basename {v : Value} {x : Str} (r : Ty.str.rel P v x) (hsz : x.length ≤ sizeLine) : Returns prog w (KF w.params) p lo mg mb 5 (.ref 122) [v] P Ty.str (bnm x) := by
  refine Returns.def (ρ := [("p", Ty.str.at x)]) rfl rfl rfl rfl (bind_pure rfl (.cons r .nil)) rfl rfl rfl ?_
  intro A s₀ P₀ s L R W S
  refine S.assigns (Ev.def1 (S.wd W) (R.le (by decide)) (Ev.name S.fs rfl rfl) fun P v r => spec_fspath r) (.inl rfl) fun s1 P1 _ S1 => ?_
  refine S1.assigns (Ev.def1 (S1.wd W) (R.le (by decide)) (Ev.name S1.fs rfl rfl) fun P v r => spec_sep r) (.inl rfl) fun s2 P2 _ S2 => ?_
  refine S2.assigns (Ev.addI (Ev.strM (Ev.name S2.fs rfl rfl) (Ev.name S2.fs rfl rfl) PySem.F.slot_str_rfind PySem.F.type_str_rfind fun s1 P1 t u h => op_rfind h) Ev.cInt) (.inl rfl) fun s3 P3 _ S3 => ?_
  exact S3.ret (Ev.sliceS (Ev.name S3.fs rfl rfl) (EvP.some (Ev.name S3.fs rfl rfl)) EvP.none hsz)

theorem mulOk_slash {n : Nat} (h : n ≤ sizeLine) : MulOk "/" (n : Int) := by
  have hs : sizeLine = 16777216 := rfl
  have hl : Str.length "/" = 1 := rfl
  refine ⟨?_, fun h1 _ => ?_, fun _ _ => ?_⟩
  · simp only [Bool.or_eq_false_iff, decide_eq_false_iff_not]
    omega
  · have : (1 : Int) ≤ (2 ^ 63 - 1) / (n : Int) := Int.le_ediv_of_mul_le (by omega) (by omega)
    rw [hl]; omega
  · rw [hl]
    unfold Builtin.Str.tooLong
    simp only [decide_eq_false_iff_not]
    omega

def headOf (x : Str) : Str := Txt.slice x none (some (Txt.rfind x "/" + 1))
def dnm (x : Str) : Str := if (headOf x).length != 0 && !decide (headOf x = Txt.mul "/" (headOf x).length) then Txt.rstripChars (headOf x) "/" else headOf x
theorem spec_dirname {v : Value} {x : Str} (r : Ty.str.rel P v x) (hsz : x.length ≤ sizeLine) : Returns prog w (KF w.params) p lo mg mb 5 (.ref 129) [v] P Ty.str (dnm x) := by
  refine Returns.def (ρ := [("p", Ty.str.at x)]) rfl rfl rfl rfl (bind_pure rfl (.cons r .nil)) rfl rfl rfl ?_
  intro A s₀ P₀ s L R W S
  have hh : (headOf x).length ≤ sizeLine := Nat.le_trans (Txt.slice_le x _ _) hsz
  refine S.assigns (Ev.def1 (S.wd W) (R.le (by decide)) (Ev.name S.fs rfl rfl) fun P v r => spec_fspath r) (.inl rfl) fun s1 P1 _ S1 => ?_
  refine S1.assigns (Ev.def1 (S1.wd W) (R.le (by decide)) (Ev.name S1.fs rfl rfl) fun P v r => spec_sep r) (.inl rfl) fun s2 P2 _ S2 => ?_
  refine S2.assigns (Ev.addI (Ev.strM (Ev.name S2.fs rfl rfl) (Ev.name S2.fs rfl rfl) PySem.F.slot_str_rfind PySem.F.type_str_rfind fun s1 P1 t u h => op_rfind h) Ev.cInt) (.inl rfl) fun s3 P3 _ S3 => ?_
  refine S3.assigns (Ev.sliceS (Ev.name S3.fs rfl rfl) EvP.none (EvP.some (Ev.name S3.fs rfl rfl)) hsz) (.inl rfl) fun s4 P4 _ S4 => ?_
  refine S4.ifs (b := (headOf x).length != 0 && !decide (headOf x = Txt.mul "/" (headOf x).length)) (EvB.and2 (EvB.val (Ev.name S4.fs rfl rfl) fun s1 P1 v e r => Truth.str e.sub r hh) fun _ => EvB.neS (Ev.name S4.fs rfl rfl) ?_) ?_ ?_
  · refine Ev.binOp (τ := Ty.str) (σ := Ty.int) (x := ("/" : Str)) (y := ((headOf x).length : Int)) (Ev.name S4.fs rfl rfl) (Ev.callB (Ev.built (S4.wd W) rfl b_len rfl rfl rfl rfl) (EvL.cons (Ev.name S4.fs rfl rfl) EvL.nil) ?_) fun s1 P1 a b e ⟨t, ra⟩ ⟨u, rb⟩ => ?_
    · rintro s1 P1 vs e ⟨v, r, rfl, ⟨t, rfl⟩, rfl⟩
      exact op_len_str e.sub hh
    · subst ra; subst rb
      exact op_mul_str e.sub (mulOk_slash hh)
  · intro hb s5 P5 _ S5
    refine S5.assigns (Ev.strM (Ev.name S5.fs rfl rfl) (Ev.name S5.fs rfl rfl) PySem.F.slot_str_rstrip PySem.F.type_str_rstrip fun s1 P1 t u h => op_rstrip h hh) (.inl rfl) fun s6 P6 _ S6 => ?_
    refine execs_nil' (S6.ret (Ev.to ?_ (Ev.name S6.fs rfl rfl)))
    rw [dnm, hb]; rfl
  · intro hb s5 P5 _ S5
    refine execs_nil' (S5.ret (Ev.to ?_ (Ev.name S5.fs rfl rfl)))
    rw [dnm, hb]; rfl
end
end VS

end PartW3

noncomputable section PartP1
namespace VS
open PySem PyProof.Rows

abbrev L (x : Str) : List Nat := x.cps.toList
def ofL (l : List Nat) : Str := ⟨l.toArray⟩
theorem L_ofL (l : List Nat) : L (ofL l) = l := rfl
theorem ofL_L (x : Str) : ofL (L x) = x := by cases x; simp [ofL, L]
theorem str_ext {x y : Str} (h : L x = L y) : x = y := by rw [← ofL_L x, ← ofL_L y, h]
theorem len_L (x : Str) : x.length = (L x).length := by simp [Str.length, L]
theorem L_app (x y : Str) : L (x ++ y) = L x ++ L y := by
  show ((x.cps ++ y.cps).toList) = _
  simp
theorem L_slash : L ("/" : Str) = [47] := rfl

theorem sub_iff (x y : Str) (i : Nat) : Builtin.Str.subAt x y i = true ↔ ((L x).drop i).take (L y).length = L y := by
  unfold Builtin.Str.subAt
  rw [beq_iff_eq, ← Array.toList_inj, Array.toList_extract, List.extract_eq_take_drop, len_L]
  simp
theorem sw_iff (x y : Str) : Txt.startswith x y = true ↔ L y <+: L x := by
  unfold Txt.startswith
  rw [Bool.and_eq_true, decide_eq_true_iff, sub_iff, List.drop_zero, List.prefix_iff_eq_take, len_L, len_L]
  constructor
  · rintro ⟨_, h⟩; exact h.symm
  · intro h
    refine ⟨?_, h.symm⟩
    have := congrArg List.length h
    rw [List.length_take] at this
    omega
theorem ew_iff (x y : Str) : Txt.endswith x y = true ↔ L y <:+ L x := by
  unfold Txt.endswith
  rw [Bool.and_eq_true, decide_eq_true_iff, sub_iff, List.suffix_iff_eq_drop, len_L, len_L]
  constructor
  · rintro ⟨h0, h⟩
    rw [List.take_of_length_le (by rw [List.length_drop]; omega)] at h
    exact h.symm
  · intro h
    have h2 := congrArg List.length h
    rw [List.length_drop] at h2
    refine ⟨by omega, ?_⟩
    rw [← h, List.take_length]

theorem rfind_last {x : Str} {pre t : List Nat} (h : L x = pre ++ 47 :: t) (ht : 47 ∉ t) : Txt.rfind x "/" = (pre.length : Int) := by
  have hl : x.length = pre.length + (t.length + 1) := by rw [len_L, h]; simp
  have at0 : StrLaws.At x "/" x.length pre.length := by
    refine ⟨by rw [hl]; show pre.length + 1 ≤ _; omega, ?_⟩
    rw [sub_iff, h, L_slash]
    simp
  rcases rfind_whole x "/" with ⟨_, h2⟩ | ⟨i, h1, h2, h3⟩
  · exact absurd at0 (h2 _)
  · rw [h1]
    have : ¬ i < pre.length := fun q => h3 _ q at0
    have : ¬ pre.length < i := fun q => by
      obtain ⟨h4, h5⟩ := h2
      rw [sub_iff, L_slash, h] at h5
      have e : (pre ++ 47 :: t).drop i = t.drop (i - pre.length - 1) := by
        rw [List.drop_append, List.drop_of_length_le (by omega), List.nil_append]
        obtain ⟨k, hk⟩ : ∃ k, i - pre.length = k + 1 := ⟨i - pre.length - 1, by omega⟩
        rw [hk, List.drop_succ_cons]; rfl
      rw [e] at h5
      have : (47 : Nat) ∈ t.drop (i - pre.length - 1) := List.mem_of_mem_take (i := [47].length) (by rw [h5]; exact .head _)
      exact ht (List.mem_of_mem_drop this)
    omega

theorem slice_from {x : Str} {k : Nat} (h : k ≤ (L x).length) : Txt.slice x (some (k : Int)) none = ofL ((L x).drop k) := by
  rw [slice_from_eq (b := (x.length : Int)) (by omega) (by rw [len_L]; omega) rfl]
  rw [show ((x.length : Int) - (k : Int)).toNat = x.length - k by omega, Int.toNat_natCast, List.take_of_length_le (by rw [List.length_drop, len_L]; exact Nat.le_refl _)]
  rfl
theorem slice_to {x : Str} {k : Nat} (h : k ≤ (L x).length) : Txt.slice x none (some (k : Int)) = ofL ((L x).take k) := by
  have := slice_closes_toL (x := x) (j := (k : Int)) (by omega) (by rw [len_L]; omega)
  rw [beq_iff_eq] at this
  rw [this]
  simp [ofL]
theorem rstrip_slash (x : Str) : Txt.rstripChars x "/" = ofL ((L x).take ((L x).length - ((L x).reverse.takeWhile (· == 47)).length)) := by
  unfold Txt.rstripChars
  rw [stripBy_eq]
  show Builtin.Str.strSub x (stripLo _ false x) (stripHi _ true x (stripLo _ false x)) = _
  unfold stripLo stripHi Builtin.Str.strSub
  apply str_ext
  rw [L_ofL]
  simp only [if_true, Bool.false_eq_true, if_false, List.drop_zero]
  rw [show (("/" : Str).cps.contains) = (fun c => c == 47) from ?_]
  · show (Array.extract _ _ _).toList = _
    rw [Array.toList_extract, List.extract_eq_take_drop, len_L]
    simp
  · funext c
    show (#[47] : Array Nat).contains c = _
    simp [Array.contains]

/-! paths -/
structure Good (one two : Str) : Prop where
  ne : one ≠ two
  o1 : 47 ∉ L one
  o2 : L one ≠ []
  o3 : (L one).length ≤ 3
  o4 : one ≠ "."
  t1 : 47 ∉ L two
  t2 : L two ≠ []
  t3 : (L two).length ≤ 3
  t4 : two ≠ "."

def nm (one two : Str) (b : Bool) : Str := if b then two else one
def segL (one two : Str) (m : List Bool) : List Nat := m.flatMap fun b => 47 :: L (nm one two b)
def path (one two : Str) (m : List Bool) : Str := ofL (if m.isEmpty then [47] else segL one two m)

section
variable {one two : Str} (G : Good one two)
include G
theorem nm_free (b : Bool) : 47 ∉ L (nm one two b) := by cases b <;> first | exact G.o1 | exact G.t1
theorem nm_ne (b : Bool) : L (nm one two b) ≠ [] := by cases b <;> first | exact G.o2 | exact G.t2
theorem nm_len (b : Bool) : (L (nm one two b)).length ≤ 3 := by cases b <;> first | exact G.o3 | exact G.t3
theorem nm_inj {b c : Bool} (h : nm one two b = nm one two c) : b = c := by
  cases b <;> cases c <;> first | rfl | exact absurd h G.ne | exact absurd h.symm G.ne
theorem nm_dot (b : Bool) : nm one two b ≠ "." := by cases b <;> first | exact G.o4 | exact G.t4
omit G in
theorem seg_snoc (m : List Bool) (b : Bool) : segL one two (m ++ [b]) = segL one two m ++ 47 :: L (nm one two b) := by
  unfold segL; rw [List.flatMap_append]; simp
omit G in
theorem path_snoc (m : List Bool) (b : Bool) : L (path one two (m ++ [b])) = segL one two m ++ 47 :: L (nm one two b) := by
  unfold path; rw [L_ofL, if_neg (by simp), seg_snoc]
omit G in
theorem path_nil : path one two [] = "/" := rfl
omit G in
theorem path_of {m : List Bool} (h : m ≠ []) : L (path one two m) = segL one two m := by
  unfold path; rw [L_ofL, if_neg (by simpa using h)]
theorem seg_len (m : List Bool) : (segL one two m).length ≤ 4 * m.length := by
  induction m with
  | nil => simp [segL]
  | cons b r ih =>
    unfold segL at ih ⊢
    rw [List.flatMap_cons, List.length_append, List.length_cons, List.length_cons]
    have := nm_len G b
    omega
theorem path_len (m : List Bool) : (path one two m).length ≤ 1 + 4 * m.length := by
  rw [len_L]
  by_cases h : m = []
  · subst h; simp [path_nil, L_slash]
  · rw [path_of h]; have := seg_len G m; omega
omit G in
theorem path_head (m : List Bool) : ∃ t, L (path one two m) = 47 :: t := by
  by_cases h : m = []
  · subst h; exact ⟨[], rfl⟩
  · rw [path_of h]
    cases m with
    | nil => exact absurd rfl h
    | cons b r => exact ⟨_, by unfold segL; rw [List.flatMap_cons, List.cons_append]⟩
omit G in
theorem path_pos (m : List Bool) : (path one two m).length ≠ 0 := by
  obtain ⟨t, h⟩ := path_head (one := one) (two := two) m
  rw [len_L, h]; simp
omit G in
theorem tw {l r : List Nat} (hl : 47 ∉ l) (hr : r = [] ∨ ∃ t, r = 47 :: t) : (l ++ r).takeWhile (· != 47) = l ∧ (l ++ r).drop l.length = r := by
  refine ⟨?_, by simp⟩
  rw [List.takeWhile_append_of_pos (by intro a ha; simp; rintro rfl; exact hl ha)]
  rcases hr with rfl | ⟨t, rfl⟩ <;> simp
omit G in
theorem seg_head (m : List Bool) : segL one two m = [] ∨ ∃ t, segL one two m = 47 :: t := by
  cases m with
  | nil => exact .inl rfl
  | cons b r => exact .inr ⟨_, by unfold segL; rw [List.flatMap_cons, List.cons_append]⟩
omit G in
theorem seg_cons (b : Bool) (m : List Bool) : segL one two (b :: m) = 47 :: (L (nm one two b) ++ segL one two m) := by
  unfold segL; rw [List.flatMap_cons, List.cons_append]
theorem seg_inj {m n : List Bool} (h : segL one two m = segL one two n) : m = n := by
 induction m generalizing n with
 | nil => cases n with
   | nil => rfl
   | cons c n => rw [seg_cons] at h; cases h
 | cons b m ih => cases n with
  | nil => rw [seg_cons] at h; cases h
  | cons c n =>
    rw [seg_cons, seg_cons] at h
    injection h with _ h
    have h1 := tw (nm_free G b) (seg_head (one := one) (two := two) m)
    have h2 := tw (nm_free G c) (seg_head (one := one) (two := two) n)
    have e := h1.1
    rw [h, h2.1] at e
    have e' := nm_inj G (str_ext e)
    subst e'
    have e2 := h1.2
    rw [h, h2.2] at e2
    rw [ih e2.symm]
theorem path_inj {m n : List Bool} (h : path one two m = path one two n) : m = n := by
  have h' := congrArg L h
  by_cases hm : m = []
  · by_cases hn : n = []
    · rw [hm, hn]
    · subst hm
      rw [path_nil, L_slash, path_of hn] at h'
      cases n with
      | nil => rfl
      | cons c n =>
        rw [seg_cons] at h'
        injection h' with _ h'
        have := nm_ne G c
        exact absurd (List.append_eq_nil_iff.mp h'.symm).1 this
  · by_cases hn : n = []
    · subst hn
      rw [path_nil, L_slash, path_of hm] at h'
      cases m with
      | nil => rfl
      | cons c n =>
        rw [seg_cons] at h'
        injection h' with _ h'
        have := nm_ne G c
        exact absurd (List.append_eq_nil_iff.mp h').1 this
    · rw [path_of hm, path_of hn] at h'
      exact seg_inj G h'
omit G in
theorem snoc_or (m : List Bool) : m = [] ∨ ∃ n b, m = n ++ [b] := by
  cases h : m.reverse with
  | nil => exact .inl (by simpa using h)
  | cons b r => exact .inr ⟨r.reverse, b, by rw [← List.reverse_reverse m, h, List.reverse_cons]⟩
theorem seg_last (m : List Bool) (h : m ≠ []) : ∃ l c, segL one two m = l ++ [c] ∧ c ≠ 47 := by
  rcases snoc_or m with rfl | ⟨n, b, rfl⟩
  · exact absurd rfl h
  · rw [seg_snoc]
    have h1 := nm_ne G b
    have h2 := nm_free G b
    rcases e : (L (nm one two b)).reverse with _ | ⟨c, r⟩
    · exact absurd (by simpa using e) h1
    · have e' : L (nm one two b) = r.reverse ++ [c] := by rw [← List.reverse_reverse (L (nm one two b)), e, List.reverse_cons]
      refine ⟨segL one two n ++ 47 :: r.reverse, c, by rw [e']; simp, fun q => h2 (by rw [e', q]; simp)⟩

theorem ends_path (m : List Bool) : Txt.endswith (path one two m) "/" = m.isEmpty := by
  rw [Bool.eq_iff_iff, ew_iff, L_slash]
  by_cases h : m = []
  · subst h; simp [path_nil, L_slash]
  · obtain ⟨l, c, e, hc⟩ := seg_last G m h
    rw [path_of h, e]
    constructor
    · rintro ⟨t, ht⟩
      have := List.append_inj_right' ht rfl
      cases this; exact absurd rfl hc
    · intro q; exact absurd (by simpa using q) h
theorem jn_path (m : List Bool) (b : Bool) : jn (path one two m) (nm one two b) = path one two (m ++ [b]) := by
  apply str_ext
  rw [path_snoc]
  unfold jn
  rw [ends_path G]
  by_cases h : m = []
  · subst h
    rw [if_pos (by rfl), L_app, path_nil, L_slash]; rfl
  · rw [if_neg (by simpa using h), L_app, L_app, path_of h, L_slash]; rfl
theorem starts_nm (b : Bool) : Txt.startswith (nm one two b) "/" = false := by
  rw [← Bool.not_eq_true, sw_iff, L_slash]
  rintro ⟨t, ht⟩
  exact nm_free G b (by rw [← ht]; exact .head _)
omit G in
theorem starts_path (m : List Bool) : Txt.startswith (path one two m) "/" = true := by
  obtain ⟨t, h⟩ := path_head (one := one) (two := two) m
  rw [sw_iff, L_slash, h]
  exact ⟨t, rfl⟩
theorem rfind_path (m : List Bool) (b : Bool) : Txt.rfind (path one two (m ++ [b])) "/" = ((segL one two m).length : Int) := rfind_last (path_snoc m b) (nm_free G b)
omit G in
theorem rfind_root : Txt.rfind (path one two []) "/" = 0 := rfind_last (pre := []) (t := []) rfl (by simp)
theorem bnm_path (m : List Bool) (b : Bool) : bnm (path one two (m ++ [b])) = nm one two b := by
  unfold bnm
  rw [rfind_path G, show ((segL one two m).length : Int) + 1 = (((segL one two m).length + 1 : Nat) : Int) from rfl, slice_from (by rw [path_snoc]; simp), path_snoc]
  apply str_ext
  rw [L_ofL, List.drop_append, List.drop_of_length_le (by omega), List.nil_append, Nat.add_sub_cancel_left]; rfl
omit G in
theorem bnm_root : L (bnm (path one two [])) = [] := by
  unfold bnm
  rw [rfind_root, show (0 : Int) + 1 = ((1 : Nat) : Int) from rfl, slice_from (by rw [path_nil, L_slash]; decide)]
  rfl
theorem headOf_path (m : List Bool) (b : Bool) : L (headOf (path one two (m ++ [b]))) = segL one two m ++ [47] := by
  unfold headOf
  rw [rfind_path G, show ((segL one two m).length : Int) + 1 = (((segL one two m).length + 1 : Nat) : Int) from rfl, slice_to (by rw [path_snoc]; simp), L_ofL, path_snoc]
  rw [List.take_append, List.take_of_length_le (by omega), Nat.add_sub_cancel_left]; rfl
omit G in
theorem headOf_root : L (headOf (path one two [])) = [47] := by
  unfold headOf
  rw [rfind_root, show (0 : Int) + 1 = ((1 : Nat) : Int) from rfl, slice_to (by rw [path_nil, L_slash]; decide)]
  rfl
omit G in
theorem mul_slash (n : Int) : ∀ c ∈ L (Txt.mul "/" n), c = 47 := by
  unfold Txt.mul
  split
  · intro c hc; cases hc
  · split
    · intro c hc; rw [L_slash] at hc; simpa using hc
    · intro c hc
      have key : ∀ (k : Nat) (acc : Array Nat), (∀ c ∈ acc.toList, c = 47) → ∀ c ∈ ((List.replicate k (("/" : Str).cps)).foldl (· ++ ·) acc).toList, c = 47 := by
        intro k
        induction k with
        | zero => intro acc h; exact h
        | succ k ih =>
          intro acc h
          rw [List.replicate_succ, List.foldl_cons]
          refine ih _ fun c hc => ?_
          rw [Array.toList_append] at hc
          rcases List.mem_append.mp hc with q | q
          · exact h c q
          · have : (("/" : Str).cps).toList = [47] := rfl
            rw [this] at q; simpa using q
      exact key _ #[] (by simp) c hc
theorem dnm_path (m : List Bool) (b : Bool) : dnm (path one two (m ++ [b])) = path one two m := by
  have e := headOf_path G m b
  unfold dnm
  by_cases h : m = []
  · subst h
    have e1 : headOf (path one two ([] ++ [b])) = "/" := str_ext e
    rw [e1, if_neg]; rfl
    decide
  · obtain ⟨l, c, e2, hc⟩ := seg_last G m h
    rw [if_pos]
    · apply str_ext
      rw [rstrip_slash, L_ofL, e, path_of h, e2]
      have : ((l ++ [c] ++ [47]).reverse.takeWhile (· == 47)).length = 1 := by simp [hc]
      rw [this, List.length_append, List.length_singleton, Nat.add_sub_cancel, List.take_left']
      rfl
    · have hl : (headOf (path one two (m ++ [b]))).length ≠ 0 := by rw [len_L, e]; simp
      have hm : headOf (path one two (m ++ [b])) ≠ Txt.mul "/" (headOf (path one two (m ++ [b]))).length := fun q => by
        have := mul_slash ((headOf (path one two (m ++ [b]))).length : Int) c (by rw [← q, e, e2]; simp)
        exact hc this
      simp [hl, hm]
omit G in
theorem dnm_root : dnm (path one two []) = path one two [] := by
  unfold dnm
  have e1 : headOf (path one two []) = "/" := str_ext headOf_root
  rw [e1, if_neg]; rfl
  decide
end
end VS

end PartP1

noncomputable section PartW4
namespace VS
open PySem PySem.Calls PySem.W PyProof.Rows

abbrev Mark := List Bool
def Ty.mark (one two : Str) : Ty Mark := ⟨fun P v m => ∃ t, v = .str (path one two m) t, fun _ h => h⟩
section
variable {prog : Program} {w : World} {A : Around} {env : Env} {s : Shared} {P : PM} {one two : Str} {lo : List Str} {p : Program} {mg mb : Str → Option Value}

theorem Ev.markS {t : Sem Value} {m : Mark} (h : Ev prog w A s P t (Ty.mark one two) m) : Ev prog w A s P t Ty.str (path one two m) := h
theorem Ev.markB {t : Sem Value} {m : Mark} (h : Ev prog w A s P t Ty.str (path one two m)) : Ev prog w A s P t (Ty.mark one two) m := h
theorem pair_mark {P : PM} {vs : List Value} {ms : List Mark} (h : Paired ((Ty.mark one two).rel P) vs ms) : Paired (Ty.str.rel P) vs (ms.map (path one two)) := by
  induction h with
  | nil => exact .nil
  | cons a r ih => exact .cons a ih
theorem Ev.marksS {t : Sem Value} {ms : List Mark} (h : Ev prog w A s P t (Ty.list (Ty.mark one two)) ms) : Ev prog w A s P t (Ty.list Ty.str) (ms.map (path one two)) := fun s1 P1 e =>
  wpAny_mono (h s1 P1 e) (fun v s2 ⟨P2, e2, vs, q, r⟩ => ⟨P2, e2, vs, q, pair_mark r⟩) fun _ _ f => f
theorem contains_path (G : Good one two) (ms : List Mark) (m : Mark) : (ms.map (path one two)).contains (path one two m) = ms.contains m := by
  induction ms with
  | nil => rfl
  | cons a r ih =>
    rw [List.map_cons, List.contains_cons, List.contains_cons, ih]
    congr 1
    by_cases h : m = a
    · subst h; simp
    · have h' : path one two m ≠ path one two a := fun q => h (path_inj G q)
      rw [beq_eq_false_iff_ne.mpr h, beq_eq_false_iff_ne.mpr h']
theorem EvB.inM {l r : Expr} {pos : Pos} {whole : Sem Value} {m : Mark} {ms : List Mark} (G : Good one two) (h1 : Ev prog w A s P (eval l env) (Ty.mark one two) m) (h2 : Ev prog w A s P (eval r env) (Ty.list (Ty.mark one two)) ms) (hm : behindInMarks .In r = false := by with_unfolding_all rfl) :
    EvB prog w A s P (isTrue (.Compare l [.In] [r] pos) env whole) (ms.contains m) := EvB.to (contains_path G ms m) (EvB.inS h1.markS h2.marksS hm)
theorem EvB.notinM {l r : Expr} {pos : Pos} {whole : Sem Value} {m : Mark} {ms : List Mark} (G : Good one two) (h1 : Ev prog w A s P (eval l env) (Ty.mark one two) m) (h2 : Ev prog w A s P (eval r env) (Ty.list (Ty.mark one two)) ms) (hm : behindInMarks .NotIn r = false := by with_unfolding_all rfl) :
    EvB prog w A s P (isTrue (.Compare l [.NotIn] [r] pos) env whole) (!ms.contains m) := EvB.to (congrArg Bool.not (contains_path G ms m)) (EvB.notinS h1.markS h2.marksS hm)

theorem len_ok (G : Good one two) {m : Mark} (h : m.length ≤ 1000) : (path one two m).length + 4 + 1 ≤ sizeLine := by
  have := path_len G m
  have hs : sizeLine = 16777216 := rfl
  omega
theorem nm_length (G : Good one two) (b : Bool) : (nm one two b).length ≤ 3 := by rw [len_L]; exact nm_len G b

/-- the paths' functions, at marks -/
theorem specM_join {n : Nat} (hn : 5 ≤ n) (G : Good one two) {v1 v2 : Value} {m : Mark} (b : Bool) (hm : m.length ≤ 1000) (r1 : (Ty.mark one two).rel P v1 m) (r2 : Ty.str.rel P v2 (nm one two b)) :
    Returns prog w (KF w.params) p lo mg mb n (.ref 115) [v1, v2] P (Ty.mark one two) (m ++ [b]) := fun A s R W hs => by
  have := spec_join (prog := prog) (p := p) (lo := lo) (mg := mg) (mb := mb) r1 r2 (starts_nm G b) (path_pos m) (by have := len_ok G hm; have := nm_length G b; omega) A s (R.le hn) W hs
  rw [jn_path G] at this
  exact this
theorem specM_dirname {n : Nat} (hn : 5 ≤ n) (G : Good one two) {v1 : Value} {m : Mark} (hm : m.length ≤ 1000) (r1 : (Ty.mark one two).rel P v1 m) :
    Returns prog w (KF w.params) p lo mg mb n (.ref 129) [v1] P (Ty.mark one two) m.dropLast := fun A s R W hs => by
  have := spec_dirname (prog := prog) (p := p) (lo := lo) (mg := mg) (mb := mb) r1 (by have := len_ok G hm; omega) A s (R.le hn) W hs
  rcases snoc_or m with rfl | ⟨k, b, rfl⟩
  · rw [dnm_root] at this; exact this
  · rw [dnm_path G] at this; rw [List.dropLast_concat]; exact this
theorem specM_basename {n : Nat} (hn : 5 ≤ n) (G : Good one two) {v1 : Value} {m : Mark} (hm : m.length ≤ 1000) (r1 : (Ty.mark one two).rel P v1 m) :
    Returns prog w (KF w.params) p lo mg mb n (.ref 122) [v1] P Ty.str (bnm (path one two m)) := fun A s R W hs =>
  spec_basename (prog := prog) (p := p) (lo := lo) (mg := mg) (mb := mb) r1 (by have := len_ok G hm; omega) A s (R.le hn) W hs
def isOne (m : Mark) : Bool := m.getLast? == some false
theorem bnm_one (G : Good one two) (m : Mark) : decide (bnm (path one two m) = one) = isOne m := by
  rcases snoc_or m with rfl | ⟨k, b, rfl⟩
  · have : bnm (path one two []) ≠ one := fun q => G.o2 (by rw [← q]; exact bnm_root)
    rw [decide_eq_false this]; rfl
  · rw [bnm_path G]
    unfold isOne
    rw [List.getLast?_append]
    cases b with
    | false => exact decide_eq_true (show one = one from rfl)
    | true => exact decide_eq_false (show ¬ two = one from fun q => G.ne q.symm)
end

def bothOf (ms : List Mark) : List Mark := (ms.filter fun m => isOne m && ms.contains (m.dropLast ++ [true])).map List.dropLast
def stepA (a : Mark) (km : List Mark × List Mark) : List Mark × List Mark :=
  (if (km.1.filter fun k => [a ++ [false], a ++ [true]].contains k).isEmpty then km.1 else (km.1.filter fun k => !([a ++ [false], a ++ [true]] ++ [a]).contains k) ++ [a],
   (km.2.filter fun m => ![a ++ [false], a ++ [true]].contains m) ++ [a])
def stepJ (km : List Mark × List Mark) : List Mark × List Mark := match bothOf km.2 with | [] => km | a :: _ => stepA a km
def iterJ : Nat → List Mark × List Mark → List Mark × List Mark
  | 0, x => x
  | n + 1, x => stepJ (iterJ n x)

structure Fine (D N : Nat) (km : List Mark × List Mark) : Prop where
  k : ∀ m ∈ km.1, m.length ≤ D
  m : ∀ m ∈ km.2, m.length ≤ D
  kn : km.1.length ≤ N
  mn : km.2.length ≤ N
theorem bothOf_mem {ms : List Mark} {a : Mark} (h : a ∈ bothOf ms) : ∃ m ∈ ms, m = a ++ [false] ∧ a ++ [true] ∈ ms := by
  obtain ⟨m, hm, rfl⟩ := List.mem_map.mp h
  obtain ⟨h1, h2⟩ := List.mem_filter.mp hm
  obtain ⟨h3, h4⟩ := Bool.and_eq_true_iff.mp h2
  refine ⟨m, h1, ?_, by simpa using h4⟩
  rcases snoc_or m with rfl | ⟨n, b, rfl⟩
  · cases h3
  · unfold isOne at h3
    rw [List.getLast?_append] at h3
    have : b = false := by simpa using h3
    rw [this, List.dropLast_concat]
theorem Fine.stepA {D N : Nat} {km : List Mark × List Mark} (h : Fine D N km) {a : Mark} (ha : a.length ≤ D) : Fine D (N + 1) (VS.stepA a km) where
  k m hm := by
    unfold VS.stepA at hm
    dsimp only at hm
    split at hm
    · exact h.k m hm
    · rcases List.mem_append.mp hm with q | q
      · exact h.k m (List.mem_filter.mp q).1
      · rw [List.mem_singleton.mp q]; exact ha
  m m hm := by
    rcases List.mem_append.mp hm with q | q
    · exact h.m m (List.mem_filter.mp q).1
    · rw [List.mem_singleton.mp q]; exact ha
  kn := by
    unfold VS.stepA; dsimp only
    split
    · exact Nat.le_succ_of_le h.kn
    · rw [List.length_append]; exact Nat.add_le_add (Nat.le_trans (List.length_filter_le _ _) h.kn) (Nat.le_refl _)
  mn := by
    unfold VS.stepA; dsimp only
    rw [List.length_append]; exact Nat.add_le_add (Nat.le_trans (List.length_filter_le _ _) h.mn) (Nat.le_refl _)
theorem Fine.le {D N N' : Nat} {km : List Mark × List Mark} (h : Fine D N km) (k : N ≤ N') : Fine D N' km := ⟨h.k, h.m, Nat.le_trans h.kn k, Nat.le_trans h.mn k⟩
theorem Fine.stepJ {D N : Nat} {km : List Mark × List Mark} (h : Fine D N km) : Fine D (N + 1) (VS.stepJ km) := by
  unfold VS.stepJ
  split
  · exact h.le (Nat.le_succ _)
  · rename_i a r e
    obtain ⟨m, hm, rfl, _⟩ := bothOf_mem (a := a) (by rw [e]; exact .head _)
    have := h.m _ hm
    exact h.stepA (by rw [List.length_append] at this; omega)
theorem Fine.iterJ {D N : Nat} {km : List Mark × List Mark} (h : Fine D N km) : ∀ i, Fine D (N + i) (VS.iterJ i km)
  | 0 => h
  | i + 1 => (h.iterJ i).stepJ

section
variable {prog : Program} {w : World} {lo : List Str} {p : Program} {mg mb : Str → Option Value} {P : PM}
abbrev Tms (one two : Str) := Ty.list (Ty.mark one two)
theorem spec_joined {v1 v2 v3 v4 : Value} {one two : Str} {ks ms : List Mark} (G : Good one two) (hF : Fine 900 100000 (ks, ms))
    (r1 : (Tms one two).rel P v1 ks) (r2 : (Tms one two).rel P v2 ms) (r3 : Ty.str.rel P v3 one) (r4 : Ty.str.rel P v4 two) :
    Returns prog w (KF w.params) p lo mg mb 7 (.ref 153) [v1, v2, v3, v4] P (Ty.pair (Tms one two) (Tms one two)) (iterJ ms.length (ks, ms)) := by
  refine Returns.def (ρ := [("known", (Tms one two).at ks), ("marks", (Tms one two).at ms), ("one", Ty.str.at one), ("two", Ty.str.at two)]) rfl rfl rfl rfl (bind_pure rfl (.cons r1 (.cons r2 (.cons r3 (.cons r4 .nil))))) rfl rfl rfl ?_
  intro A s₀ P₀ s L R W S
  have hs : sizeLine = 16777216 := rfl
  have hmn := hF.mn
  dsimp only at hmn
  refine S.forL R.handled (fun i => [("known", (Tms one two).at (iterJ i (ks, ms)).1), ("marks", (Tms one two).at (iterJ i (ks, ms)).2), ("one", Ty.str.at one), ("two", Ty.str.at two)]) (fun _ => [])
    (xs := ms) (τ := Ty.mark one two) (Ev.callT (Ev.built (S.wd W) rfl b_list rfl rfl rfl rfl) (EvL.cons (Ev.name S.fs rfl rfl) EvL.nil) ?_) (.inl rfl) ⟨rfl, rfl, rfl, rfl, trivial⟩ rfl ?_ ?_
  · rintro s1 P1 vs e ⟨v, r, rfl, rv, rfl⟩
    exact op_list_copy e.sub rv (by omega)
  · intro i hi s1 P1 its E l1 S1
    have hFi := (hF.iterJ i).le (N' := 200000) (by omega)
    generalize hkm : iterJ i (ks, ms) = km at S1 hFi
    refine wpAny_execs_cons (S1.assignComp (Comp.lst (τ := Ty.mark one two) (σ := Ty.mark one two) (xs := km.2) (p := fun x => isOne x && km.2.contains (x.dropLast ++ [true])) (f := List.dropLast) (CompOk.mk' (by with_unfolding_all rfl) rfl rfl rfl rfl rfl rfl rfl) S1.fs R.handled (Ev.name S1.fs rfl rfl) (fun C => .inl rfl) (by have := hFi.mn; omega) rfl ?_ ?_) (.inl rfl) fun s2 P2 l2 S2 => ?_)
    · intro C a s2 P2 ha e F
      have W2 := (S1.wd W).keeps e.keep
      have hal := Nat.le_trans (hFi.m a ha) (show 900 ≤ 1000 by decide)
      refine EvB.tests1 (EvB.and2 (EvB.to (bnm_one G a) (EvB.eqS (Ev.def1 W2 (R.le (by decide)) (Ev.name F rfl rfl) fun P v r => specM_basename (n := 5) (by decide) G hal r) (Ev.name F rfl rfl))) fun _ => ?_)
      exact EvB.inM G (Ev.def2 W2 (R.le (by decide)) (Ev.def1 W2 (R.le (by decide)) (Ev.name F rfl rfl) fun P v r => specM_dirname (n := 5) (by decide) G hal r) (Ev.name F rfl rfl) fun P v1 v2 q1 q2 => specM_join (n := 5) (by decide) G true (by rw [List.length_dropLast]; omega) q1 q2) (Ev.name F rfl rfl)
    · intro C a s2 P2 ha _ e F
      have W2 := (S1.wd W).keeps e.keep
      have hal := Nat.le_trans (hFi.m a ha) (show 900 ≤ 1000 by decide)
      exact Ev.def1 W2 (R.le (by decide)) (Ev.name F rfl rfl) fun P v r => specM_dirname (n := 5) (by decide) G hal r
    · replace S2 := S2.only (L := [("both", (Tms one two).at (bothOf km.2)), ("known", (Tms one two).at km.1), ("marks", (Tms one two).at km.2), ("one", Ty.str.at one), ("two", Ty.str.at two)]) ⟨rfl, rfl, rfl, rfl, rfl, trivial⟩
      have hnext : iterJ (i + 1) (ks, ms) = stepJ km := by rw [← hkm]; rfl
      rw [hnext]
      have hbl : (bothOf km.2).length ≤ sizeLine := by
        unfold bothOf
        rw [List.length_map]
        have := List.length_filter_le (fun m => isOne m && km.2.contains (m.dropLast ++ [true])) km.2
        have := hFi.mn
        omega
      refine S2.forL R.handled (fun j => if j = 0 then [("known", (Tms one two).at km.1), ("marks", (Tms one two).at km.2), ("one", Ty.str.at one), ("two", Ty.str.at two)] else [("known", (Tms one two).at (stepJ km).1), ("marks", (Tms one two).at (stepJ km).2), ("one", Ty.str.at one), ("two", Ty.str.at two)]) (fun _ => its ++ [])
        (xs := (bothOf km.2).take 1) (τ := Ty.mark one two) (Ev.take (n := 1) (Ev.name S2.fs rfl rfl) Ev.cInt hbl) (.inr ⟨rfl, trivial, _, rfl⟩) ⟨rfl, rfl, rfl, rfl, trivial⟩ rfl ?_ ?_
      · intro j hj s3 P3 its3 E3 l3 S3
        have hj0 : j = 0 := by rw [List.length_take] at hj; omega
        subst hj0
        generalize ha : ((bothOf km.2).take 1)[0] = a at S3
        have hb : ∃ r, bothOf km.2 = a :: r := by
          cases hb : bothOf km.2 with
          | nil => simp [hb] at hj
          | cons b r => exact ⟨r, by rw [← ha]; simp [hb]⟩
        have hstep : stepJ km = stepA a km := by
          obtain ⟨r, hr⟩ := hb
          unfold stepJ
          rw [hr]
        have hal : a.length ≤ 1000 := by
          obtain ⟨r, hr⟩ := hb
          obtain ⟨m, hm, rfl, _⟩ := bothOf_mem (a := a) (by rw [hr]; exact .head _)
          have := hFi.m _ hm
          rw [List.length_append] at this; omega
        rw [hstep] at S3 ⊢
        replace S3 := S3.only (L := [("above", (Ty.mark one two).at a), ("known", (Tms one two).at km.1), ("marks", (Tms one two).at km.2), ("one", Ty.str.at one), ("two", Ty.str.at two)]) ⟨rfl, rfl, rfl, rfl, rfl, trivial⟩
        rw [if_neg (show ¬ (0 + 1 = 0) by decide)]
        refine S3.assigns (Ev.twoL (τ := Ty.mark one two) (x := a ++ [false]) (y := a ++ [true]) (Ev.def2 (S3.wd W) (R.le (by decide)) (Ev.name S3.fs rfl rfl) (Ev.name S3.fs rfl rfl) fun P v1 v2 q1 q2 => specM_join (n := 5) (by decide) G false hal q1 q2)
          (Ev.def2 (S3.wd W) (R.le (by decide)) (Ev.name S3.fs rfl rfl) (Ev.name S3.fs rfl rfl) fun P v1 v2 q1 q2 => specM_join (n := 5) (by decide) G true hal q1 q2)) (.inr ⟨rfl, trivial, _, rfl⟩) fun s4 P4 l4 S4 => ?_
        refine S4.assigns (Ev.addL (xs := km.2.filter fun m => ![a ++ [false], a ++ [true]].contains m) (ys := [a]) (Ev.to (List.map_id _) (Comp.eval (Comp.lst (τ := Ty.mark one two) (σ := Ty.mark one two) (xs := km.2) (p := fun m => ![a ++ [false], a ++ [true]].contains m) (f := id) (CompOk.mk' (by with_unfolding_all rfl) rfl rfl rfl rfl rfl rfl rfl) S4.fs R.handled (Ev.name S4.fs rfl rfl) (fun C => .inl rfl) (by have := hFi.mn; omega) rfl ?_ ?_))) (Ev.one (Ev.name S4.fs rfl rfl)) ?_) (.inr ⟨rfl, trivial, _, rfl⟩) fun s5 P5 l5 S5 => ?_
        · intro C b s2 P2 hb e F
          exact EvB.tests1 (EvB.notinM G (Ev.name F rfl rfl) (Ev.name F rfl rfl))
        · intro C b s2 P2 hb _ e F
          exact Ev.name F rfl rfl
        · have := List.length_filter_le (fun m => ![a ++ [false], a ++ [true]].contains m) km.2
          have := hFi.mn
          rw [List.length_singleton]; omega
        refine S5.ifs (b := !(km.1.filter fun m => [a ++ [false], a ++ [true]].contains m).isEmpty) (EvB.neNil (Ev.to (List.map_id _) (Comp.eval (Comp.lst (τ := Ty.mark one two) (σ := Ty.mark one two) (xs := km.1) (p := fun m => [a ++ [false], a ++ [true]].contains m) (f := id) (CompOk.mk' (by with_unfolding_all rfl) rfl rfl rfl rfl rfl rfl rfl) S5.fs R.handled (Ev.name S5.fs rfl rfl) (fun C => .inl rfl) (by have := hFi.kn; omega) rfl ?_ ?_))) R.c) ?_ ?_
        · intro C b s2 P2 hb e F
          exact EvB.tests1 (EvB.inM G (Ev.name F rfl rfl) (Ev.name F rfl rfl))
        · intro C b s2 P2 hb _ e F
          exact Ev.name F rfl rfl
        · intro hq s6 P6 l6 S6
          refine S6.assigns (Ev.addL (xs := km.1.filter fun m => !([a ++ [false], a ++ [true]] ++ [a]).contains m) (ys := [a]) (Ev.to (List.map_id _) (Comp.eval (Comp.lst (τ := Ty.mark one two) (σ := Ty.mark one two) (xs := km.1) (p := fun m => !([a ++ [false], a ++ [true]] ++ [a]).contains m) (f := id) (CompOk.mk' (by with_unfolding_all rfl) rfl rfl rfl rfl rfl rfl rfl) S6.fs R.handled (Ev.name S6.fs rfl rfl) (fun C => .inl rfl) (by have := hFi.kn; omega) rfl ?_ ?_))) (Ev.one (Ev.name S6.fs rfl rfl)) ?_) (.inl rfl) fun s7 P7 l7 S7 => ?_
          · intro C b s2 P2 hb e F
            exact EvB.tests1 (EvB.notinM G (Ev.name F rfl rfl) (Ev.addL (Ev.name F rfl rfl) (Ev.one (Ev.name F rfl rfl)) (Nat.le_of_ble_eq_true rfl)))
          · intro C b s2 P2 hb _ e F
            exact Ev.name F rfl rfl
          · have := List.length_filter_le (fun m => !([a ++ [false], a ++ [true]] ++ [a]).contains m) km.1
            have := hFi.kn
            rw [List.length_singleton]; omega
          · refine execs_nil' (execs_nil' ⟨P7, (((l4.trans l5).trans l6).trans l7), S7.only ⟨?_, rfl, rfl, rfl, trivial⟩⟩)
            show some _ = some _
            unfold stepA
            dsimp only
            rw [if_neg (by simpa using hq)]
        · intro hq s6 P6 l6 S6
          refine execs_nil' (execs_nil' ⟨P6, ((l4.trans l5).trans l6), S6.only ⟨?_, rfl, rfl, rfl, trivial⟩⟩)
          show some _ = some _
          unfold stepA
          dsimp only
          rw [if_pos (by simpa using hq)]
      · intro s3 P3 l3 S3
        refine execs_nil' ⟨P3, l2.trans l3, ?_⟩
        cases hb : bothOf km.2 with
        | nil =>
          have : stepJ km = km := by unfold stepJ; rw [hb]
          rw [this]
          rw [hb] at S3
          exact S3.only ⟨rfl, rfl, rfl, rfl, trivial⟩
        | cons b r =>
          rw [hb] at S3
          exact S3.only ⟨rfl, rfl, rfl, rfl, trivial⟩
  · intro s1 P1 l1 S1
    exact S1.ret (Ev.tup2 (Ev.name S1.fs rfl rfl) (Ev.name S1.fs rfl rfl))
end
end VS

end PartW4

noncomputable section PartP2
namespace VS
open PySem PyProof.Rows PySem.Spec

section
variable {α : Type} [DecidableEq α]
def dd : List α → List α
  | [] => []
  | a :: r => if a ∈ dd r then dd r else a :: dd r
theorem mem_dd {x : α} : ∀ {l : List α}, x ∈ dd l ↔ x ∈ l
  | [] => Iff.rfl
  | a :: r => by
    unfold dd
    split
    · rename_i h
      rw [mem_dd, List.mem_cons]
      exact ⟨.inr, fun q => q.elim (fun e => e ▸ mem_dd.mp h) id⟩
    · rw [List.mem_cons, List.mem_cons, mem_dd]
theorem nodup_dd : ∀ l : List α, (dd l).Nodup
  | [] => .nil
  | a :: r => by
    unfold dd
    split
    · exact nodup_dd r
    · rename_i h
      exact List.nodup_cons.mpr ⟨h, nodup_dd r⟩
theorem dd_len : ∀ l : List α, (dd l).length ≤ l.length
  | [] => Nat.le_refl _
  | a :: r => by
    unfold dd
    split
    · exact Nat.le_succ_of_le (dd_len r)
    · exact Nat.succ_le_succ (dd_len r)
theorem perm_of_mem {a b : List α} (h1 : a.Nodup) (h2 : b.Nodup) (h : ∀ x, x ∈ a ↔ x ∈ b) : a.Perm b := by
  rw [List.perm_iff_count]
  intro x
  by_cases hx : x ∈ a
  · rw [List.Nodup.count h1, List.Nodup.count h2, if_pos hx, if_pos ((h x).mp hx)]
  · rw [List.count_eq_zero.mpr hx, List.count_eq_zero.mpr fun q => hx ((h x).mpr q)]
end

theorem lt_asymm' : ∀ {a b : List Nat}, ltCps a b = true → ltCps b a = false
  | [], [], h => by cases h
  | [], _ :: _, _ => rfl
  | _ :: _, [], h => by cases h
  | a :: r, b :: t, h => by
    unfold ltCps at h ⊢
    simp only [Bool.or_eq_true, decide_eq_true_iff, Bool.and_eq_true, beq_iff_eq] at h
    simp only [Bool.or_eq_false_iff, decide_eq_false_iff_not, Bool.and_eq_false_iff, beq_eq_false_iff_ne]
    rcases h with h | ⟨h1, h2⟩
    · exact ⟨by omega, .inl (by omega)⟩
    · exact ⟨by omega, .inr (lt_asymm' h2)⟩
theorem lt_anti : ∀ {a b : List Nat}, ltCps a b = false → ltCps b a = false → a = b
  | [], [], _, _ => rfl
  | [], _ :: _, h, _ => by cases h
  | _ :: _, [], _, h => by cases h
  | a :: r, b :: t, h1, h2 => by
    unfold ltCps at h1 h2
    simp only [Bool.or_eq_false_iff, decide_eq_false_iff_not, Bool.and_eq_false_iff, beq_eq_false_iff_ne] at h1 h2
    have e : a = b := by omega
    subst e
    rw [lt_anti (h1.2.resolve_left (by simp)) (h2.2.resolve_left (by simp))]
theorem lt_trans' : ∀ {a b c : List Nat}, ltCps b a = false → ltCps c b = false → ltCps c a = false
  | a, _, [], _, h2 => by
    cases a with
    | nil => rfl
    | cons x r =>
      rename_i b h1
      cases b with
      | nil => cases h1
      | cons y t => cases h2
  | [], _, _ :: _, _, _ => rfl
  | a :: r, [], _, h1, _ => by cases h1
  | a :: r, b :: t, c :: u, h1, h2 => by
    unfold ltCps at h1 h2 ⊢
    simp only [Bool.or_eq_false_iff, decide_eq_false_iff_not, Bool.and_eq_false_iff, beq_eq_false_iff_ne] at h1 h2 ⊢
    refine ⟨by omega, ?_⟩
    by_cases e : c = a
    · subst e
      have eb : b = c := by omega
      subst eb
      exact .inr (lt_trans' (h1.2.resolve_left (by simp)) (h2.2.resolve_left (by simp)))
    · exact .inl e
def leS (a b : Str) : Bool := !ltCps (L b) (L a)
theorem leS_total (a b : Str) : (leS a b || leS b a) = true := by
  unfold leS
  cases h : ltCps (L b) (L a) with
  | false => rfl
  | true => rw [lt_asymm' h]; rfl
theorem leS_trans (a b c : Str) (h1 : leS a b = true) (h2 : leS b c = true) : leS a c = true := by
  unfold leS at *
  rw [Bool.not_eq_true'] at *
  exact lt_trans' h1 h2
theorem leS_anti {a b : Str} (h1 : leS a b = true) (h2 : leS b a = true) : a = b := by
  unfold leS at *
  rw [Bool.not_eq_true'] at *
  exact str_ext (lt_anti h2 h1)
theorem risingS_pw : ∀ (l : List Str) (p : Str), risingS p l = true → (p :: l).Pairwise fun a b => leS a b = true
  | [], p, _ => List.pairwise_singleton _ _
  | x :: r, p, h => by
    unfold risingS at h
    obtain ⟨h1, h2⟩ := Bool.and_eq_true_iff.mp h
    have ih := risingS_pw r x h2
    have hpx : leS p x = true := h1
    refine List.pairwise_cons.mpr ⟨fun y hy => ?_, ih⟩
    rcases List.mem_cons.mp hy with rfl | hy
    · exact hpx
    · exact leS_trans _ _ _ hpx ((List.pairwise_cons.mp ih).1 y hy)
def canonS (xs : List Str) : List Str := (dd xs).mergeSort leS
theorem mem_canonS {x : Str} {xs : List Str} : x ∈ canonS xs ↔ x ∈ xs := by
  unfold canonS; rw [List.mem_mergeSort, mem_dd]
theorem nodup_canonS (xs : List Str) : (canonS xs).Nodup := (List.mergeSort_perm _ _).nodup_iff.mpr (nodup_dd xs)
theorem len_canonS (xs : List Str) : (canonS xs).length ≤ xs.length := by unfold canonS; rw [List.length_mergeSort]; exact dd_len xs
theorem canonS_of {ys xs : List Str} (hs : sortedS ys = true) (hn : ys.Nodup) (hm : ∀ x, x ∈ ys ↔ x ∈ xs) : ys = canonS xs := by
  have p : ys.Perm (canonS xs) := perm_of_mem hn (nodup_canonS xs) fun x => (hm x).trans mem_canonS.symm
  have s1 : ys.Pairwise fun a b => leS a b = true := by
    cases ys with
    | nil => exact .nil
    | cons a r => exact risingS_pw r a hs
  have s2 : (canonS xs).Pairwise fun a b => leS a b = true := List.pairwise_mergeSort leS_trans leS_total _
  exact List.Perm.eq_of_pairwise (fun a b _ _ h1 h2 => leS_anti h1 h2) s1 s2 p

def canonI (xs : List Int) : List Int := (dd xs).mergeSort (fun a b => decide (a ≤ b))
theorem mem_canonI {x : Int} {xs : List Int} : x ∈ canonI xs ↔ x ∈ xs := by
  unfold canonI; rw [List.mem_mergeSort, mem_dd]
theorem nodup_canonI (xs : List Int) : (canonI xs).Nodup := (List.mergeSort_perm _ _).nodup_iff.mpr (nodup_dd xs)
theorem len_canonI (xs : List Int) : (canonI xs).length ≤ xs.length := by unfold canonI; rw [List.length_mergeSort]; exact dd_len xs
theorem sorted_canonI (xs : List Int) : (canonI xs).Pairwise (· ≤ ·) := by
  have := List.pairwise_mergeSort (le := fun a b : Int => decide (a ≤ b)) (fun a b c h1 h2 => by simp only [decide_eq_true_iff] at *; omega) (fun a b => by simp only [Bool.or_eq_true, decide_eq_true_iff]; omega) (dd xs)
  exact this.imp fun h => by simpa using h
theorem canonI_of {ys xs : List Int} (hs : ys.Pairwise (· ≤ ·)) (hn : ys.Nodup) (hm : ∀ x, x ∈ ys ↔ x ∈ xs) : ys = canonI xs :=
  List.Perm.eq_of_pairwise (fun a b _ _ h1 h2 => Int.le_antisymm h1 h2) hs (sorted_canonI xs) (perm_of_mem hn (nodup_canonI xs) fun x => (hm x).trans mem_canonI.symm)

/-! and at marks -/
def canonM (one two : Str) (ms : List Mark) : List Mark := (canonS (ms.map (path one two))).filterMap fun s => ms.find? fun m => decide (path one two m = s)
section
variable {one two : Str} (G : Good one two)
include G
theorem find_path (ms : List Mark) (m : Mark) (h : m ∈ ms) : (ms.find? fun k => decide (path one two k = path one two m)) = some m := by
  cases q : ms.find? fun k => decide (path one two k = path one two m) with
  | none => exact absurd (List.find?_eq_none.mp q m h) (by simp)
  | some k =>
    have := List.find?_some q
    have e : k = m := path_inj G (by simpa using this)
    rw [e]
theorem canonM_path (ms : List Mark) : (canonM one two ms).map (path one two) = canonS (ms.map (path one two)) := by
  unfold canonM
  have key : ∀ l : List Str, (∀ x ∈ l, x ∈ ms.map (path one two)) → (l.filterMap fun s => ms.find? fun m => decide (path one two m = s)).map (path one two) = l := by
    intro l
    induction l with
    | nil => intro _; rfl
    | cons x r ih =>
      intro h
      obtain ⟨m, hm, rfl⟩ := List.mem_map.mp (h x (.head _))
      rw [List.filterMap_cons, find_path G ms m hm]
      simp only [List.map_cons]
      rw [ih fun y hy => h y (.tail _ hy)]
  exact key _ fun x hx => mem_canonS.mp hx
theorem mem_canonM {ms : List Mark} {m : Mark} : m ∈ canonM one two ms ↔ m ∈ ms := by
  have h : path one two m ∈ (canonM one two ms).map (path one two) ↔ path one two m ∈ ms.map (path one two) := by rw [canonM_path G, mem_canonS]
  constructor
  · intro q
    obtain ⟨k, hk, e⟩ := List.mem_map.mp (h.mp (List.mem_map.mpr ⟨m, q, rfl⟩))
    exact path_inj G e ▸ hk
  · intro q
    obtain ⟨k, hk, e⟩ := List.mem_map.mp (h.mpr (List.mem_map.mpr ⟨m, q, rfl⟩))
    exact path_inj G e ▸ hk
theorem len_canonM (ms : List Mark) : (canonM one two ms).length ≤ ms.length := by
  have := len_canonS (ms.map (path one two))
  rw [← canonM_path G, List.length_map, List.length_map] at this
  exact this
end
end VS

end PartP2

noncomputable section PartS1
namespace VS
open PySem

/-! the table of a set: its places rise -/
def Rise (xs : Array Nat) : Prop := xs.toList.Pairwise (· < ·)
theorem Rise.at {xs : Array Nat} (h : Rise xs) {i j : Nat} {a b : Nat} (hij : i < j) (ha : xs[i]? = some a) (hb : xs[j]? = some b) : a < b := by
  rw [← Array.getElem?_toList] at ha hb
  obtain ⟨h1, e1⟩ := List.getElem?_eq_some_iff.mp ha
  obtain ⟨h2, e2⟩ := List.getElem?_eq_some_iff.mp hb
  rw [← e1, ← e2]
  exact List.pairwise_iff_getElem.mp h i j h1 h2 hij
theorem go_succ (xs : Array Nat) (j fuel lo hi : Nat) : SetTable.below.go xs j (fuel + 1) lo hi = if lo < hi then (if xs.getD ((lo + hi) / 2) j < j then SetTable.below.go xs j fuel ((lo + hi) / 2 + 1) hi else SetTable.below.go xs j fuel lo ((lo + hi) / 2)) else lo := rfl
theorem below_go {xs : Array Nat} (h : Rise xs) (j : Nat) : ∀ (fuel lo hi : Nat), hi - lo ≤ fuel → lo ≤ hi → hi ≤ xs.size → (∀ i a, i < lo → xs[i]? = some a → a < j) → (∀ i a, hi ≤ i → xs[i]? = some a → j ≤ a) →
    (∀ i a, i < SetTable.below.go xs j fuel lo hi → xs[i]? = some a → a < j) ∧ (∀ i a, SetTable.below.go xs j fuel lo hi ≤ i → xs[i]? = some a → j ≤ a) ∧ SetTable.below.go xs j fuel lo hi ≤ xs.size := by
  intro fuel
  induction fuel with
  | zero =>
    intro lo hi hf hl hs h1 h2
    have : lo = hi := by omega
    subst this
    unfold SetTable.below.go
    exact ⟨h1, h2, hs⟩
  | succ fuel ih =>
    intro lo hi hf hl hs h1 h2
    rw [go_succ]
    by_cases hlt : lo < hi
    · rw [if_pos hlt]
      have hm : (lo + hi) / 2 < xs.size := by omega
      have hmx : xs[(lo + hi) / 2]? = some (xs[(lo + hi) / 2]) := by simp [hm]
      have hgd : xs.getD ((lo + hi) / 2) j = xs[(lo + hi) / 2] := by simp [Array.getD, hm]
      by_cases hq : xs.getD ((lo + hi) / 2) j < j
      · rw [if_pos hq]
        rw [hgd] at hq
        refine ih ((lo + hi) / 2 + 1) hi (by omega) (by omega) hs (fun i a hi' ha => ?_) h2
        rcases Nat.lt_or_ge i ((lo + hi) / 2) with q | q
        · exact Nat.lt_trans (h.at q ha hmx) hq
        · have e : i = (lo + hi) / 2 := by omega
          rw [e, hmx] at ha; cases ha; exact hq
      · rw [if_neg hq]
        rw [hgd] at hq
        refine ih lo ((lo + hi) / 2) (by omega) (by omega) (by omega) h1 (fun i a hi' ha => ?_)
        rcases Nat.lt_or_ge ((lo + hi) / 2) i with q | q
        · have := h.at q hmx ha; omega
        · have e : i = (lo + hi) / 2 := by omega
          rw [e, hmx] at ha; cases ha; omega
    · rw [if_neg hlt]
      have : lo = hi := by omega
      subst this
      exact ⟨h1, h2, hs⟩
theorem below_spec {xs : Array Nat} (h : Rise xs) (j : Nat) : (∀ i a, i < SetTable.below xs j → xs[i]? = some a → a < j) ∧ (∀ i a, SetTable.below xs j ≤ i → xs[i]? = some a → j ≤ a) ∧ SetTable.below xs j ≤ xs.size := by
  unfold SetTable.below
  exact below_go h j xs.size 0 xs.size (by omega) (Nat.zero_le _) (Nat.le_refl _) (fun i a hi => by omega) (fun i a hi ha => by
    have : xs[i]? = none := by simp; omega
    rw [this] at ha; cases ha)
theorem below_zero {xs : Array Nat} (h : Rise xs) : SetTable.below xs 0 = 0 := by
  obtain ⟨h1, _, h3⟩ := below_spec h 0
  rcases Nat.eq_zero_or_pos (SetTable.below xs 0) with q | q
  · exact q
  · have hl : 0 < xs.size := by omega
    have := h1 0 xs[0] q (by simp [hl])
    omega
theorem below_next {xs : Array Nat} (h : Rise xs) {i a : Nat} (ha : xs[i]? = some a) : SetTable.below xs (a + 1) = i + 1 := by
  obtain ⟨h1, h2, h3⟩ := below_spec h (a + 1)
  have hi : i < xs.size := by
    rcases Nat.lt_or_ge i xs.size with q | q
    · exact q
    · have : xs[i]? = none := by simp; omega
      rw [this] at ha; cases ha
  have : i < SetTable.below xs (a + 1) := by
    rcases Nat.lt_or_ge i (SetTable.below xs (a + 1)) with q | q
    · exact q
    · have := h2 i a q ha; omega
  rcases Nat.lt_or_ge (SetTable.below xs (a + 1)) (i + 2) with q | q
  · omega
  · have hl : i + 1 < xs.size := by omega
    have e : xs[i + 1]? = some xs[i + 1] := by simp [hl]
    have a1 := h1 (i + 1) _ (by omega) e
    have a2 := h.at (Nat.lt_succ_self i) ha e
    omega
theorem insert_rise {xs : Array Nat} (h : Rise xs) {j : Nat} (hn : xs[SetTable.below xs j]? ≠ some j) : Rise (SetTable.insertAt xs (SetTable.below xs j) j) := by
  obtain ⟨h1, h2, h3⟩ := below_spec h j
  unfold Rise
  rw [SetTable.toList_insertAt]
  generalize SetTable.below xs j = p at h1 h2 h3 hn
  unfold Rise at h
  have hd : xs.toList = xs.toList.take p ++ xs.toList.drop p := (List.take_append_drop _ _).symm
  have hpw := h
  rw [hd] at hpw
  obtain ⟨w1, w2, w3⟩ := List.pairwise_append.mp hpw
  have lt1 : ∀ x ∈ xs.toList.take p, x < j := fun x hx => by
    obtain ⟨i, hi, e⟩ := List.mem_iff_getElem.mp hx
    rw [List.length_take] at hi
    rw [List.getElem_take] at e
    refine h1 i x (by omega) ?_
    rw [← Array.getElem?_toList, List.getElem?_eq_getElem (by omega), e]
  have lt2 : ∀ x ∈ xs.toList.drop p, j < x := fun x hx => by
    obtain ⟨i, hi, e⟩ := List.mem_iff_getElem.mp hx
    rw [List.length_drop] at hi
    rw [List.getElem_drop] at e
    have hx' : xs[p + i]? = some x := by rw [← Array.getElem?_toList, List.getElem?_eq_getElem (by omega), e]
    have := h2 (p + i) x (by omega) hx'
    rcases Nat.lt_or_ge j x with q | q
    · exact q
    · have ex : x = j := by omega
      subst ex
      rcases Nat.eq_zero_or_pos i with q | q
      · subst q; exact absurd hx' hn
      · have hp : p < xs.size := by
          have : p + i < xs.toList.length := by omega
          simp only [Array.length_toList] at this; omega
        have e0 : xs[p]? = some xs[p] := by simp [hp]
        have := (show Rise xs from h).at (show p < p + i by omega) e0 hx'
        have := h2 p _ (Nat.le_refl _) e0
        omega
  refine List.pairwise_append.mpr ⟨w1, List.pairwise_cons.mpr ⟨lt2, w2⟩, fun a ha b hb => ?_⟩
  rcases List.mem_cons.mp hb with rfl | hb
  · exact lt1 a ha
  · exact Nat.lt_trans (lt1 a ha) (lt2 b hb)

theorem slot_empty {t : SetTable} {j : Nat} (h : t.slot j = .empty) : t.place[SetTable.below t.place j]? ≠ some j := fun q => by
  unfold SetTable.slot at h
  dsimp only at h
  rw [q] at h
  simp at h
theorem slot_dummy {t : SetTable} {j : Nat} (hd : t.dummies = #[]) : t.slot j ≠ .dummy := fun q => by
  unfold SetTable.slot at q
  rw [hd] at q
  dsimp only at q
  split at q
  · cases q
  · have : SetTable.has #[] j = false := by unfold SetTable.has; simp
    rw [this] at q; simp at q
theorem probe_go {t : SetTable} (hd : t.dummies = #[]) (hashAt : Nat → Int) (h : Int) : ∀ (fuel : Nat) (p : SetTable.Probe) (j : Nat) (d : Option Nat), p.dummy = none → SetTable.probe.go t hashAt h fuel p = some (.empty j d) → t.slot j = .empty ∧ d = none := by
  intro fuel
  induction fuel with
  | zero => intro p j d _ q; unfold SetTable.probe.go at q; cases q
  | succ fuel ih =>
    intro p j d hp q
    have adv : (t.advance p).dummy = none := by
      unfold SetTable.advance
      split
      · exact hp
      · exact hp
    unfold SetTable.probe.go at q
    cases hs : t.slot p.j with
    | empty => rw [hs] at q; cases q; exact ⟨hs, hp⟩
    | dummy => exact absurd hs (slot_dummy hd)
    | live i =>
      rw [hs] at q
      dsimp only at q
      split at q
      · cases q
      · exact ih _ _ _ adv q
theorem freeSlot_ok {t : SetTable} (hd : t.dummies = #[]) {h : Int} {slot : Nat} {b : Bool} (q : t.freeSlot h = some (slot, b)) : t.slot slot = .empty := by
  unfold SetTable.freeSlot at q
  split at q
  · rename_i j d hp
    cases q
    obtain ⟨h1, h2⟩ := probe_go hd _ _ _ _ _ _ (by rfl) hp
    subst h2
    exact h1
  · cases q

/-- a table as this run makes it -/
structure Tab (led : Bool) (t : SetTable) : Prop where
  rise : Rise t.place
  dummies : t.dummies = #[]
  led : t.led = led
theorem rise_range (n : Nat) : Rise (Array.range n) := by
  unfold Rise
  rw [Array.toList_range]
  exact List.pairwise_lt_range
theorem Tab.standIn {led : Bool} {t : SetTable} (T : Tab led t) (n : Nat) : Tab led (t.standIn n) := ⟨rise_range n, rfl, T.led⟩
theorem Tab.orStandIn {led : Bool} {t : SetTable} (T : Tab led t) (n : Nat) : Tab led (t.orStandIn n) := by
  unfold SetTable.orStandIn
  split
  · exact T
  · exact T.standIn n
theorem Tab.put {led : Bool} {t : SetTable} (T : Tab led t) {j : Nat} (h : t.slot j = .empty) : Tab led (t.put j).1 := by
  refine ⟨insert_rise T.rise (slot_empty h), ?_, T.led⟩
  unfold SetTable.put
  dsimp only
  rw [T.dummies]
  rw [if_neg]
  unfold SetTable.has; simp
theorem Tab.layNew {led : Bool} {t : SetTable} (T : Tab led t) (es : Array (Int × Value)) (h : Int) (x : Value) : Tab led (PySem.layNew t es h x).2.1 := by
  unfold PySem.layNew
  split
  · rename_i slot wd q
    exact (T.put (freeSlot_ok T.dummies q)).orStandIn _
  · exact T.standIn _
theorem Tab.laid {led : Bool} {mask finger moves : Nat} {plain : Bool} {hashes : Array Int} {t : SetTable} {o : Array Nat} (h : SetTable.laid mask finger moves led plain hashes = some (t, o)) : Tab led t := by
  unfold SetTable.laid at h
  cases hl : SetTable.layClean mask hashes with
  | none => rw [hl] at h; cases h
  | some owner =>
    rw [hl] at h
    cases h
    refine ⟨?_, rfl, rfl⟩
    unfold Rise
    simp only
    rw [List.map_filterMap]
    have : ∀ (l : List Nat), l.Pairwise (· < ·) → (l.filterMap fun j => Option.map (fun x : Nat × Nat => x.1) ((owner.getD j none).map (j, ·))).Pairwise (· < ·) := by
      intro l hl
      refine List.Pairwise.filterMap (R := (· < ·)) _ (fun a a' hlt b hb b' hb' => ?_) hl
      rw [Option.map_map] at hb hb'
      cases h1 : owner.getD a none with
      | none => rw [h1] at hb; cases hb
      | some x => cases h2 : owner.getD a' none with
        | none => rw [h2] at hb'; cases hb'
        | some y => rw [h1] at hb; rw [h2] at hb'; cases hb; cases hb'; exact hlt
    exact this _ List.pairwise_lt_range
theorem Tab.relayAll {led : Bool} {t : SetTable} (T : Tab led t) (es : Array (Int × Value)) (wanted : Nat) : Tab led (PySem.relayAll t es wanted).2.1 := by
  unfold PySem.relayAll
  split
  · rename_i t' order q
    dsimp only
    split
    · unfold SetTable.relaid at q
      rw [T.led] at q
      exact Tab.laid q
    · exact T.standIn _
  · exact T.standIn _
theorem Tab.fresh (led : Bool) : Tab led (SetTable.fresh 0 0 led) := ⟨.nil, rfl, rfl⟩
theorem Tab.plainOff {led : Bool} {t : SetTable} (T : Tab led t) : Tab led { t with plain := false } := ⟨T.rise, T.dummies, T.led⟩
end VS

end PartS1

noncomputable section PartS2
namespace VS
open PySem PySem.Calls PySem.W PyProof.Rows

theorem perm_paired {α β : Type} {F : α → β → Prop} {l l' : List α} (p : l'.Perm l) : ∀ {k : List β}, Paired F l k → ∃ k', Paired F l' k' ∧ k'.Perm k := by
  induction p with
  | nil => intro k h; cases h; exact ⟨[], .nil, .nil⟩
  | cons x _ ih => intro k h; cases h with | cons h r => obtain ⟨k', h1, h2⟩ := ih r; exact ⟨_ :: k', .cons h h1, h2.cons _⟩
  | swap x y l => intro k h; cases h with | cons h r => cases r with | cons h2 r => exact ⟨_, .cons h2 (.cons h r), .swap _ _ _⟩
  | trans _ _ ih1 ih2 => intro k h; obtain ⟨k1, h1, p1⟩ := ih2 h; obtain ⟨k2, h2, p2⟩ := ih1 h1; exact ⟨k2, h2, p2.trans p1⟩

section
variable {prog : Program} {w : World} {K : Type} [DecidableEq K] (knd : KeyKind prog w K)
def ElAt (e : Int × Value) (k : K) : Prop := (knd.is k e.2 = true ∧ e.1 = knd.hash k) ∧ e.2.scannable = true
structure SetG (led : Bool) (es : Array (Int × Value)) (t : SetTable) (ks : List K) : Prop where
  el : Paired (ElAt knd) es.toList ks
  nodup : ks.Nodup
  size : es.size < scanBound
  fits : t.fits es.size = true
  tab : Tab led t
def setObj (es : Array (Int × Value)) (ep : Nat) (t : SetTable) : Obj := { cls := .type "set", dict := none, data := .set es ep t, slots := #[] }
variable {knd}
theorem SetG.elems {led : Bool} {es : Array (Int × Value)} {t : SetTable} {ks : List K} (G : SetG knd led es t ks) : ElemsOf knd es.toList := fun e he => by
  have key : ∀ {l : List (Int × Value)} {k : List K}, Paired (ElAt knd) l k → ∀ e ∈ l, (∃ k, knd.is k e.2 = true ∧ e.1 = knd.hash k) ∧ e.2.scannable = true := by
    intro l k h
    induction h with
    | nil => intro e he; cases he
    | cons h _ ih => intro e he; rcases List.mem_cons.mp he with rfl | he
                     · exact ⟨⟨_, h.1⟩, h.2⟩
                     · exact ih e he
  exact key G.el e he
theorem SetG.find {led : Bool} {es : Array (Int × Value)} {t : SetTable} {ks : List K} (G : SetG knd led es t ks) (k : K) : (es.toList.findIdx? fun e => knd.is k e.2).isSome = decide (k ∈ ks) := by
  have key : ∀ {l : List (Int × Value)} {ks : List K}, Paired (ElAt knd) l ks → (l.findIdx? fun e => knd.is k e.2).isSome = decide (k ∈ ks) := by
    intro l ks h
    induction h with
    | nil => rfl
    | @cons e k' l ks h _ ih =>
      rw [List.findIdx?_cons, KeyKind.is_eq_decide h.1.1 k]
      by_cases q : k = k'
      · subst q; simp
      · rw [decide_eq_false q]
        simp only [Bool.false_eq_true, if_false, Option.isSome_map, ih, List.mem_cons, q, false_or]
  exact key G.el

variable {A : Around} {E : Value → Shared → Prop} {s : Shared} {led : Bool}
theorem SetG.relay {es : Array (Int × Value)} {t : SetTable} {ks : List K} (G : SetG knd led es t ks) (wanted : Nat) : ∃ ks', SetG knd led (relayAll t es wanted).1 (relayAll t es wanted).2.1 ks' ∧ ks'.Perm ks := by
  obtain ⟨ks', h1, h2⟩ := perm_paired (relayAll_perm t es wanted) G.el
  refine ⟨ks', ⟨h1, h2.nodup_iff.mpr G.nodup, ?_, relayAll_fits t es wanted, G.tab.relayAll es wanted⟩, h2⟩
  rw [← Array.length_toList, (relayAll_perm t es wanted).length_eq, Array.length_toList]; exact G.size
theorem put_set {h : Heap} {a : Addr} {es : Array (Int × Value)} {ep : Nat} {t : SetTable} (ho : h.get? a = some (setObj es ep t)) (es' : Array (Int × Value)) (t' : SetTable) : (h.update a (Obj.putSet es' t')).get? a = some (setObj es' (ep + 1) t') := by
  have := Heap.get?_update_self (Obj.putSet es' t') ho (by rw [putSet_of es' t' rfl]; rfl)
  rw [putSet_of es' t' rfl] at this; exact this

theorem add_tail {g : Bool → Sem Unit} (hg : ∀ (b : Bool) (s₁ : Shared) (Q' : Unit → Shared → Prop), Q' () s₁ → wpAny (model prog w) A (g b) Q' E s₁)
    {a : Addr} {es : Array (Int × Value)} {ep : Nat} {t : SetTable} (ho : s.heap.get? a = some (setObj es ep t)) {es1 : Array (Int × Value)} {t2 : SetTable} {ks : List K} (G : SetG knd led es1 t2 ks) {wasDummy : Bool} {R : Option Bool → Shared → Prop}
    (h : ∀ h' es' ep' t' ks', Heap.SameBut a s.heap h' → h'.get? a = some (setObj es' ep' t') → SetG knd led es' t' ks' → ks'.Perm ks → R (some true) { s with heap := h' }) :
    wpAny (model prog w) A (do
        storeSet a es1 t2
        if (!wasDummy && t2.tooFull) = true then do
            g (relayAll t2 es1 (SetTable.grown es1.size)).2.2
            storeSet a (relayAll t2 es1 (SetTable.grown es1.size)).1 (relayAll t2 es1 (SetTable.grown es1.size)).2.1
            pure (some true)
          else pure (some true)) R E s := by
  refine wpAny_bind (wpAny_storeSet_of ho rfl ?_ (fits_of_scanBound G.size))
  have ho1 := put_set ho es1 t2
  have hsb1 := Heap.SameBut.update s.heap a (Obj.putSet es1 t2)
  split
  · obtain ⟨ks', G', p⟩ := G.relay (SetTable.grown es1.size)
    generalize relayAll t2 es1 (SetTable.grown es1.size) = Rl at G' ⊢
    obtain ⟨es2, t3, gave2⟩ := Rl
    dsimp only at G' ⊢
    refine wpAny_bind (hg _ _ _ ?_)
    refine wpAny_bind (wpAny_storeSet_of ho1 rfl ?_ (fits_of_scanBound G'.size))
    exact wpAny_pure (h _ _ _ _ _ (hsb1.trans (Heap.SameBut.update _ a _)) (put_set ho1 es2 t3) G' p)
  · exact wpAny_pure (h _ _ _ _ _ hsb1 ho1 G (.refl _))

theorem add_hashed {a : Addr} {es : Array (Int × Value)} {ep : Nat} {t : SetTable} {ks : List K} {k : K} {x : Value} {Q : Bool → Shared → Prop} (hkey : knd.is k x = true) (hsc : x.scannable = true) (ho : s.heap.get? a = some (setObj es ep t)) (G : SetG knd led es t ks) (hroom : ks.length + 1 < scanBound)
    (h : ∀ b h' es' ep' t' ks', Heap.SameBut a s.heap h' → h'.get? a = some (setObj es' ep' t') → SetG knd led es' t' ks' → (∀ y, y ∈ ks' ↔ y ∈ ks ∨ y = k) → ks'.length ≤ ks.length + 1 → Q b { s with heap := h' }) :
    wpAny (model prog w) A (setAddHashed a x (knd.hash k)) Q E s := by
  have hes : es.size = ks.length := by rw [← Array.length_toList, G.el.length]
  unfold setAddHashed setAddHashedIn
  refine wpAny_holding (wpAny_bind (wpAny_setState_of ho rfl G.fits ?_))
  dsimp only
  rw [byScan_of hsc G.size G.elems]
  simp only [↓reduceIte]
  unfold setAddByScan
  refine wpAny_bind ?_
  refine wpAny_bind (wpAny_rule ?_)
  refine wpAny_bind (wpAny_setScan_of hkey ho rfl G.fits G.elems ?_)
  have hf := G.find k
  cases hr : List.findIdx? (fun e => knd.is k e.2) es.toList with
  | some j =>
    dsimp only
    rw [hr] at hf
    have hk : k ∈ ks := by simpa using hf
    refine wpAny_pure (wpAny_pure ?_)
    have e : s = { s with heap := s.heap } := by cases s; rfl
    rw [e]
    exact h _ s.heap _ _ _ _ (Heap.SameBut.refl a s.heap) ho G (fun y => ⟨.inl, fun q => q.elim id fun e => e ▸ hk⟩) (Nat.le_succ _)
  | none =>
    dsimp only
    rw [hr] at hf
    have hk : k ∉ ks := by simpa using hf
    have hgw : ∀ (b : Bool) {s₁ : Shared} {Q' : Unit → Shared → Prop}, Q' () s₁ → wpAny (model prog w) A (match b with | true => rule "set.scan.the-table-gave-way" | false => pure ()) Q' E s₁ :=
      fun b s₁ Q' hq => by cases b <;> first | exact wpAny_pure hq | exact wpAny_rule hq
    have hperm := layNew_perm t es (knd.hash k) x
    have hfits := layNew_fits t es (knd.hash k) x
    have htab := G.tab.layNew es (knd.hash k) x
    generalize hL : layNew t es (knd.hash k) x = L at hperm hfits htab ⊢
    obtain ⟨es1, t1, wasDummy, gave⟩ := L
    dsimp only at hperm hfits htab ⊢
    rw [Array.toList_push] at hperm
    have hel0 : Paired (ElAt knd) (es.toList ++ [(knd.hash k, x)]) (ks ++ [k]) := pApp G.el (.cons ⟨⟨hkey, rfl⟩, hsc⟩ .nil)
    obtain ⟨ks1, hel1, p1⟩ := perm_paired hperm hel0
    have hn1 : ks1.Nodup := p1.nodup_iff.mpr (List.nodup_append.mpr ⟨G.nodup, by simp, fun a ha b hb q => by rw [List.mem_singleton.mp hb] at q; exact hk (q ▸ ha)⟩)
    have hsz1 : es1.size = ks.length + 1 := by rw [← Array.length_toList, hperm.length_eq, List.length_append, Array.length_toList, hes]; rfl
    have G1 : SetG knd led es1 t1 ks1 := ⟨hel1, hn1, by rw [hsz1]; exact hroom, hfits, htab⟩
    have hmem : ∀ ks' : List K, ks'.Perm ks1 → (∀ y, y ∈ ks' ↔ y ∈ ks ∨ y = k) ∧ ks'.length ≤ ks.length + 1 := fun ks' p => by
      have p2 := p.trans p1
      exact ⟨fun y => by rw [p2.mem_iff, List.mem_append, List.mem_singleton], by rw [p2.length_eq, List.length_append]; exact Nat.le_refl _⟩
    refine wpAny_bind (hgw _ ?_)
    split
    · refine wpAny_bind ?_
      rw [hashByValue_scannable 8 hsc]
      refine wpAny_pure ?_
      refine add_tail (knd := knd) (led := led) (t2 := if plainKind x = true then t1 else { t1 with plain := false }) ?_ ho (ks := ks1) ?_ ?_
      · intro b s₁ Q' hq; cases b <;> first | exact wpAny_pure hq | exact wpAny_rule hq
      · split
        · exact G1
        · exact ⟨G1.el, G1.nodup, G1.size, SetTable.fits_plain_off G1.fits, G1.tab.plainOff⟩
      · intro h' es' ep' t' ks' hsb ho' G' p
        dsimp only
        exact wpAny_pure (h _ h' es' ep' t' ks' hsb ho' G' (hmem ks' p).1 (hmem ks' p).2)
    · refine wpAny_bind (wpAny_pure ?_)
      simp only [↓reduceIte]
      refine add_tail ?_ ho G1 ?_
      · intro b s₁ Q' hq; cases b <;> first | exact wpAny_pure hq | exact wpAny_rule hq
      · intro h' es' ep' t' ks' hsb ho' G' p
        dsimp only
        exact wpAny_pure (h _ h' es' ep' t' ks' hsb ho' G' (hmem ks' p).1 (hmem ks' p).2)
end
end VS

end PartS2

noncomputable section PartS3
namespace VS
open PySem PySem.Calls PySem.W PyProof.Rows

def ledOf (w : World) : Bool := !(w.params.followText "set-order")
section
variable {prog : Program} {w : World} {K : Type} [DecidableEq K] {knd : PySem.KeyKind prog w K} {A : Around} {α : Type} {τ : Ty α} {s₀ s : Shared} {P₀ P Ps : PM} {O : List (Addr × Ob)} {led : Bool}
def Ob.set (knd : PySem.KeyKind prog w K) (led : Bool) (S : List K) : Ob :=
  ⟨fun _ o => ∃ es ep t ks, o = setObj es ep t ∧ SetG knd led es t ks ∧ (∀ y, y ∈ ks ↔ y ∈ S) ∧ ks.length ≤ S.length, fun _ h => h⟩
def Ty.set (knd : PySem.KeyKind prog w K) (led : Bool) : Ty (List K) := ⟨fun P v S => ∃ a o, v = .ref a ∧ P a = some o ∧ (Ob.set knd led S).rel P o, fun h ⟨a, o, e, p, r⟩ => ⟨a, o, e, h _ _ p, r⟩⟩
theorem SetG.empty : SetG knd led #[] (.fresh 0 0 led) [] := ⟨.nil, .nil, by decide, by rfl, Tab.fresh led⟩

theorem set_loop {xs : List α} {key : α → K} (hkey : ∀ P v x, τ.rel P v x → knd.is (key x) v = true ∧ v.scannable = true) {R : Result → Shared → Prop} {it : Value} {D : Addr} {Own : Nat → List (Addr × Ob)} (Pl : Pull prog w A.in1 s₀ P₀ Ps it τ xs Own) (hn : xs.length + 1 < scanBound)
    (hR : ∀ s' P', PM.le Ps P' → Hs s₀ P₀ ((D, Ob.set knd led (xs.map key)) :: O) s' P' → R (.ok (.ret .none)) s') :
    ∀ (k i : Nat) (s : Shared) (P : PM), xs.length - i = k → i ≤ xs.length → PM.le Ps P → Hs s₀ P₀ (Own i ++ (D, Ob.set knd led ((xs.take i).map key)) :: O) s P → codeAny (model prog w) A (.builtin "set.update.loop" ⟨[.ref D, it], []⟩) R s := by
  intro k
  induction k with
  | zero =>
    intro i s P hk hi hle S
    obtain rfl : i = xs.length := by omega
    refine codeAny_builtin PyProof.Rows.F.entry_set_update_loop ?_
    rw [Around.under_plainId PyProof.Rows.F.plain_set_update_loop _]
    show wpAny _ A.in1 (pyNext it >>= _) _ _ s
    refine wpAny_bind (wpAny_mono (Pl.done _ _ _ _ hle S) (fun r s1 ⟨hr, P1, l1, S1⟩ => ?_) fun _ _ e => e)
    subst hr
    rw [List.take_length] at S1
    show wpAny _ A.in1 (ret Value.none) _ _ s1
    exact wpAny_pure (hR s1 P1 (hle.trans l1) S1)
  | succ k ih =>
    intro i s P hk hi hle S
    have hlt : i < xs.length := by omega
    refine codeAny_builtin PyProof.Rows.F.entry_set_update_loop ?_
    rw [Around.under_plainId PyProof.Rows.F.plain_set_update_loop _]
    show wpAny _ A.in1 (pyNext it >>= _) _ _ s
    refine wpAny_bind (wpAny_mono (Pl.item _ _ _ i hlt _ hle S) (fun r s1 ⟨v, P1, hr, l1, rv, S1⟩ => ?_) fun _ _ e => e)
    subst hr
    have S2 := S1.perm List.perm_middle
    obtain ⟨hk1, hk2⟩ := hkey P1 v _ rv
    show wpAny _ A.in1 (holding [v] (setAdd D v) >>= _) _ _ s1
    refine wpAny_bind (wpAny_holding ?_)
    unfold setAdd
    refine wpAny_holding ?_
    refine wpAny_bind (knd.pyHash hk1 ?_)
    have S3 := S2.go (Ext.toks (tk := s1.toks + 1) S2.sub)
    obtain ⟨o, ho, ⟨es, ep, t, ks, rfl, G, hm, hl⟩, hP⟩ := S3.obj
    have hlen : ((xs.take i).map key).length = i := by rw [List.length_map, List.length_take]; omega
    refine add_hashed hk1 hk2 ho G (by omega) fun b h' es' ep' t' ks' hsb ho' G' hm' hl' => ?_
    refine wpAny_pure ⟨plainId_quiet PyProof.Rows.F.plain_set_update_loop _, ih (i + 1) _ P1 (by omega) hlt (hle.trans l1) ?_⟩
    refine (S3.change (b' := Ob.set knd led ((xs.take (i + 1)).map key)) (tk := s1.toks + 1) ho' ⟨es', ep', t', ks', rfl, G', fun y => ?_, ?_⟩ fun c o hne e => (hsb.2 c hne).trans e).perm List.perm_middle.symm
    · rw [hm' y, hm y, List.take_succ_eq_append_getElem hlt, List.map_append, List.mem_append]
      simp
    · rw [List.length_map, List.length_take]; omega

theorem pull_list {I l : Addr} {xs : List α} {vs : List Value} {ep : Nat} (hh : A.handled = none) (hl : Ps l = some { cls := .type "list", data := .seq vs.toArray ep }) (hp : Paired (τ.rel Ps) vs xs) :
    Pull prog w A s₀ P₀ Ps (.ref I) τ xs (fun i => [(I, Ob.listIter l i)]) where
  item O t Q i hi E hle S := by
    obtain ⟨o, ho, ⟨hc, hd⟩, hn⟩ := S.obj
    obtain ⟨v, hv, rv⟩ := pGet hp (List.getElem?_eq_getElem hi)
    refine wpAny_pyNext_list_item ⟨o, ho, hc, hd⟩ ⟨_, S.sub _ _ (hle _ _ hl), rfl, ep, rfl⟩ (by simpa using hv) fun h' ⟨o', ho', hc', hd'⟩ hs' => ⟨v, Q, rfl, .refl _, τ.mono hle rv, ?_⟩
    exact S.change (b' := Ob.listIter l (i + 1)) (tk := t.toks) ho' ⟨hc', hd'⟩ fun c o hne e => (hs'.2 c hne).trans e
  done O t Q E hle S := by
    obtain ⟨o, ho, ⟨hc, hd⟩, hn⟩ := S.obj
    refine wpAny_pyNext_list_end hh ⟨o, ho, hc, hd⟩ ⟨_, S.sub _ _ (hle _ _ hl), rfl, ep, rfl⟩ (by simp [hp.length]) fun h' hx => ⟨rfl, Q, .refl _, ?_⟩
    exact S.leave (tk := t.toks) fun c o hne e => hx c o hne e
end
end VS

end PartS3

noncomputable section PartS4
namespace VS
open PySem PySem.Calls PySem.W PyProof.Rows
section
variable {prog : Program} {w : World} {A : Around} {E : Value → Shared → Prop} {s : Shared}
theorem set_new_led (a : Value) {Q₁ : Value → Shared → Prop}
    (h : Q₁ (.ref s.heap.objs.size) { s with heap := s.heap.push (setObj #[] 0 (.fresh 0 0 (ledOf w))) }) :
    codeAny (model prog w) A (.call (.builtin "set.__new__") ⟨[.type "set", a], []⟩) (wants Q₁ E) s := by
  refine codeAny_of_tree ?_
  show wpAny _ A.in1 (do checkBuiltinCall "set.__new__" ⟨[.type "set", a], []⟩; again (.builtin "set.__new__" ⟨[.type "set", a], []⟩)) _ _ s
  refine wpAny_bind (wpAny_of_eq (F.newCall_set_1 a) (wpAny_pure ⟨plainId_quiet F.plain_set_new _, codeAny_builtin F.entry_set_new ?_⟩))
  rw [Around.under_plainId F.plain_set_new _]
  unfold Builtin.«set.__new__» Builtin.Frozenset.newClass
  have hsub := sub_set_self
  obtain ⟨hp, g, d, tk, os⟩ := s
  dsimp only
  wp_walk
  refine wpAny_askSetting (wpAny_pure ?_)
  dsimp only
  simp only [newObj]
  refine wpAny_bind (wpAny_alloc (wpAny_pure ?_))
  exact wpAny_pure h
variable {K : Type} [DecidableEq K] {knd : KeyKind prog w K} {α : Type} {τ : Ty α} {P : PM}
set_option maxHeartbeats 3200000 in
theorem set_list_op {key : α → K} (hkey : ∀ P v x, τ.rel P v x → knd.is (key x) v = true ∧ v.scannable = true) {v : Value} {xs : List α} (hsub0 : VS.Sub P s) (hh : A.handled = none) (r : (VS.Ty.list τ).rel P v xs) (hb : xs.length + 1 < scanBound) :
    Op prog w A s P (call (.type "set") [v] []) (VS.Ty.set knd (ledOf w)) (xs.map key) := by
  obtain ⟨vs, ⟨l, ep, rfl, hl⟩, hpr⟩ := r
  obtain ⟨c, tl, hmro⟩ := F.called_set.mro
  have hmade := F.called_set.made
  have hsub := F.called_set.sub
  refine wpAny_call (codeAny_of_tree ?_)
  show wpAny _ _ (callAny (.type "set") _) _ _ _
  refine wpAny_pure ⟨Code.quiet_builtin _ (by decide +kernel), codeAny_builtin F.entry_type_call ?_⟩
  rw [Around.under_plain (weight_type_call_type "set" [.ref l] []) rfl]
  have h1 := F.called_set.notType
  have h2 := F.called_set.canCreate
  have hct := F.typeCall_set_1 (.ref l)
  repeat (any_goals (first | assumption | wp_step))
  refine codeAny_mono (set_new_led (.ref l) (E := fun _ _ => False) (Q₁ := fun obj s₁ => obj = .ref s.heap.objs.size ∧ s₁ = { s with heap := s.heap.push (setObj #[] 0 (.fresh 0 0 (ledOf w))) }) ⟨rfl, rfl⟩) fun r s₁ hr => ?_
  cases r with
  | error e => exact hr
  | ok fl =>
    cases fl with
    | ret obj =>
      obtain ⟨rfl, rfl⟩ := hr
      have hS : (s.heap.push (setObj #[] 0 (.fresh 0 0 (ledOf w)))).get? s.heap.objs.size = some (setObj #[] 0 (.fresh 0 0 (ledOf w))) := Heap.get?_push_size _ rfl
      have hT : Shared.TypeIs { s with heap := s.heap.push (setObj #[] 0 (.fresh 0 0 (ledOf w))) } (.ref s.heap.objs.size) "set" := ⟨_, hS, rfl⟩
      have hli := F.called_set.init.lookup
      have hbi := F.called_set.init.bind (.ref s.heap.objs.size)
      repeat (any_goals (first | assumption | wp_step))
      refine codeAny_mono (codeAny_call_builtin (R := wants (fun r s₂ => r = .none ∧ ∃ P', PM.le P P' ∧ Hs s P [(s.heap.objs.size, Ob.set knd (ledOf w) (xs.map key))] s₂ P') (fun _ _ => False)) F.called_set.init.plain F.entry_set_init (check_set_init_1 hT ?_)) fun r₂ s₂ hr₂ => ?_
      · have H0 := Hs.start hsub0
        have H1 := H0.make (b := Ob.set knd (ledOf w) []) (o := setObj #[] 0 (.fresh 0 0 (ledOf w))) (tk := s.toks) ⟨_, _, _, [], rfl, SetG.empty, fun _ => Iff.rfl, Nat.le_refl _⟩
        have hol' : (s.heap.push (setObj #[] 0 (.fresh 0 0 (ledOf w)))).get? l = some { cls := .type "list", dict := none, data := .seq vs.toArray ep, slots := #[] } := H1.sub _ _ hl
        have hsls := F.sub_list_set
        have hslf := F.sub_list_frozenset
        have hne : (Value.type "list" == Value.type "dict") = false := by decide
        have hl1 : (s.heap.push (setObj #[] 0 (.fresh 0 0 (ledOf w)))).IsList l vs.toArray := ⟨_, hol', rfl, ep, rfl⟩
        have H2 := H1.make (b := Ob.listIter l 0) (o := itObj l) (tk := s.toks) ⟨rfl, rfl⟩
        unfold Builtin.«set.__init__» noKeywords Builtin.Frozenset.updateFrom
        generalize hPI : pyIter = PI
        wp_walk
        subst hPI
        refine wpAny_pyIter_list hl1 ?_
        refine wpAny_bind (wpAny_runValue ?_)
        have hh3 : A.in1.in1.in1.handled = none := by simp [hh]
        refine set_loop (α := α) (τ := τ) (xs := xs) (key := key) hkey (Ps := P) (O := []) (pull_list (by first | exact hh3 | exact hh) hl hpr) hb ?hR xs.length 0 _ P (by omega) (Nat.zero_le _) (.refl _) H2
        case hR =>
          intro s' P' hle H'
          show wpAny _ _ _ _ _ _
          refine wpAny_pure ?_
          show wpAny _ _ (ret Value.none) _ _ _
          exact wpAny_pure ⟨rfl, P', hle, H'⟩
      · cases r₂ with
        | error e => exact hr₂
        | ok fl₂ =>
          cases fl₂ with
          | ret r =>
            obtain ⟨rfl, P', hle, H'⟩ := hr₂
            repeat (any_goals (first | assumption | wp_step))
            obtain ⟨o, ho, H'', l2, hPD⟩ := H'.freeze
            exact ⟨_, H''.ext, _, o, rfl, PM.put_self, ho⟩
          | _ => exact hr₂.elim
    | _ => exact hr.elim
end
end VS

end PartS4

noncomputable section PartS5
namespace VS
open PySem PySem.Calls PySem.W PyProof.Rows

theorem cons_erase_perm {α : Type} : ∀ {l : List α} {i : Nat} (h : i < l.length), (l[i] :: l.eraseIdx i).Perm l
  | x :: r, 0, _ => .refl _
  | x :: r, i + 1, h => by
    have ih := cons_erase_perm (l := r) (i := i) (by simpa using h)
    exact (List.Perm.swap _ _ _).trans (ih.cons x)
section
variable {M : Model} {A : Around} {E : Value → Shared → Prop} {s : Shared}
theorem wpAny_choose {src : Source} {n : Nat} {Q : Nat → Shared → Prop} (hn : n ≠ 0) (h : ∀ i, i < n → Q i { s with drawn := s.drawn.bump src }) : wpAny M A (choose src n) Q E s := fun Γ p hΓ => by
  unfold choose
  rw [Sem.wp_choose]
  exact ⟨hn, h _ (Nat.mod_lt _ (Nat.pos_of_ne_zero hn))⟩
theorem wpAny_drawOrder {α : Type} : ∀ (n : Nat) (xs : List α) (s : Shared) (Q : List α → Shared → Prop), xs.length = n → (∀ ys d, ys.Perm xs → Q ys { s with drawn := d }) → wpAny M A (drawOrder n xs) Q E s
  | 0, xs, s, Q, hn, h => by
    have : xs = [] := List.length_eq_zero_iff.mp hn
    subst this
    unfold drawOrder
    exact wpAny_pure (h [] s.drawn .nil)
  | n + 1, [], s, Q, hn, h => by cases hn
  | n + 1, x :: xs, s, Q, hn, h => by
    unfold drawOrder
    refine wpAny_bind (wpAny_choose (by simp) fun i hi => ?_)
    have hx : (x :: xs)[i]? = some (x :: xs)[i] := List.getElem?_eq_getElem hi
    rw [hx]
    dsimp only
    have hl : ((x :: xs).eraseIdx i).length = n := by rw [List.length_eraseIdx_of_lt hi]; simp at hn ⊢; omega
    refine wpAny_bind (wpAny_drawOrder n _ _ _ hl fun ys d p => wpAny_pure (h _ d ?_))
    exact (p.cons _).trans (cons_erase_perm hi)
end
theorem pick_perm {α : Type} (next : Nat → Nat) : ∀ (fuel k : Nat) (left : List α) (out : Array α), left.length = fuel → (pickOrder.go next fuel k left out).toList.Perm (out.toList ++ left)
  | 0, k, left, out, h => by
    have : left = [] := List.length_eq_zero_iff.mp h
    subst this
    unfold pickOrder.go
    rw [List.append_nil]
  | fuel + 1, k, left, out, h => by
    unfold pickOrder.go
    have hm : next k % left.length < left.length := Nat.mod_lt _ (by omega)
    rw [List.getElem?_eq_getElem hm]
    dsimp only
    refine (pick_perm next fuel (k + 1) _ _ (by rw [List.length_eraseIdx_of_lt hm]; omega)).trans ?_
    rw [Array.toList_push, List.append_assoc]
    exact List.Perm.append_left _ (cons_erase_perm hm)

namespace FS
theorem own_setit : Manifest.owners.lookup (String.ofList ['r', 'o', 't', 'a', 'r', 'e', 't', 'i', '_', 't', 'e', 's'].reverse) = some Manifest.sig_set_iterator := by kernel_rfl
theorem slot_setit_next : Slot "set_iterator" "__next__" "set_iterator.__next__" :=
  .of (owner := "set_iterator") (n := "__next__") (by rw [typeLookup_type, builtinLookup_eq_fast]; kernel_rfl) (by decide +kernel) (by decide +kernel) (by decide +kernel)
    (by first | exact .inl (by decide +kernel) | exact .inr (by decide +kernel)) (by rw [isSubtype_type]; kernel_rfl)
theorem entry_setit_next : entryFor table "set_iterator.__next__" = some Builtin.«set_iterator.__next__» := entryFor_of_tree (by kernel_rfl)
theorem args_setit_next_1 (a : Value) : argsOk "set_iterator.__next__" ⟨[a], []⟩ := by
  unfold argsOk; rw [signature?_of (id := "set_iterator.__next__") (n := ['_', '_', 't', 'x', 'e', 'n', '_', '_']) (o := ['r', 'o', 't', 'a', 'r', 'e', 't', 'i', '_', 't', 'e', 's']) (by kernel_rfl) own_setit]; kernel_rfl
theorem entry_set_iter : entryFor table "set.__iter__" = some Builtin.«frozenset.__iter__» :=
  entryFor_alias (id' := "frozenset.__iter__") (by kernel_rfl) (by first | rfl | decide +kernel | (unfold String.splitOn; simp +decide [String.splitOnAux])) (by decide +kernel) (by kernel_rfl)
end FS
end VS

end PartS5

noncomputable section PartS6
namespace VS
open PySem PySem.Calls PySem.W PyProof.Rows
open AutoSeq1 (wpAny_loadPart')

def sitObj (first : Value) (i : Nat) (D : Addr) (n ep : Nat) : Obj := { cls := .type "set_iterator", dict := none, data := .fields #[first, rawInt i, .ref D, rawInt n, rawInt ep], slots := #[] }
section
variable {prog : Program} {w : World} {A : Around} {E : Value → Shared → Prop} {s : Shared}
theorem wpAny_setsByText {Q : Bool → Shared → Prop} (h : Q (!ledOf w) s) : wpAny (model prog w) A setsByText Q E s := by
  unfold setsByText
  refine wpAny_bind (wpAny_askSetting (wpAny_pure ?_))
  have : (!ledOf w) = w.params.followText "set-order" := by unfold ledOf; simp
  rw [this] at h
  exact h
theorem setit_next {I D : Addr} {es : Array (Int × Value)} {ep : Nat} {t : SetTable} {first : Value} {i : Nat} {R : Fin → Shared → Prop} (hI : s.heap.get? I = some (sitObj first i D es.size ep)) (hD : s.heap.get? D = some (setObj es ep t)) (hf : t.fits es.size = true)
    (h : wpAny (model prog w) A (if let .int slot _ := first then do
        match ← setNext D slot.toNat i ep with
        | some (x, next) =>
          setField (.ref I) 0 (rawInt next)
          setField (.ref I) 1 (rawInt (i + 1))
          ret x
        | none => setField (.ref I) 2 .none; raiseNew (← newExc (.type "StopIteration") [])
      else do
        let some places ← seqItems? first | unsupported "internal:set_iterator"
        match places[i]? with
        | some (.int place _) =>
          let x ← setNextDrawn D place.toNat ep
          setField (.ref I) 1 (rawInt (i + 1))
          ret x
        | some _ => unsupported "internal:set_iterator"
        | none => setField (.ref I) 0 (rawInt 0); setField (.ref I) 2 .none; raiseNew (← newExc (.type "StopIteration") [])) R E s) :
    wpAny (model prog w) A (Builtin.«set_iterator.__next__» ⟨[.ref I], []⟩) R E s := by
  show wpAny _ _ (fieldsOf (.ref I) >>= _) _ _ s
  refine wpAny_bind (wpAny_fieldsOf hI rfl ?_)
  show wpAny _ _ (setEntries D >>= _) _ _ s
  refine wpAny_bind (wpAny_setEntries_of hD rfl hf ?_)
  rw [if_neg (by simp)]
  exact h
theorem stop_raise {α : Type} {Q : α → Shared → Prop} (hh : A.handled = none) (hE : ∀ h' e, (∀ b o, s.heap.get? b = some o → h'.get? b = some o) → (∃ o, h'.get? e = some o ∧ o.cls = .type "StopIteration") → E (.ref e) { s with heap := h' }) :
    wpAny (model prog w) A (newExc (.type "StopIteration") [] >>= fun e => (raiseNew e : Sem α)) Q E s := by
  refine wpAny_bind ?_
  simp only [newExc, newTuple]
  refine wpAny_bind (wpAny_newObj_type ?_ (by size_fits))
  refine wpAny_bind (m := firstArgMember _ _) (wpAny_of_eq (a := Value.none) (by first | rfl | (simp only [firstArgMember]; rfl)) ?_)
  refine wpAny_newObj_type ?_ (by size_fits)
  simp only [raiseNew]
  refine wpAny_bind (wpAny_handled ?_)
  rw [hh]
  refine wpAny_bind (wpAny_pure (wpAny_throw ?_))
  exact hE _ _ (fun b o e => Heap.get?_push_of_some _ (Heap.get?_push_of_some _ e)) ⟨_, Heap.get?_push_size _ rfl, rfl⟩

theorem sit_next {I D : Addr} {es : Array (Int × Value)} {ep : Nat} {t : SetTable} {first : Value} {i : Nat} {R : Fin → Shared → Prop} {Q : Option Value → Shared → Prop} (hI : s.heap.get? I = some (sitObj first i D es.size ep))
    (h : wpAny (model prog w) A.in1 (Builtin.«set_iterator.__next__» ⟨[.ref I], []⟩) (fun fin s' => ∃ v, fin = .done (.ret v) ∧ Q (some v) s') (fun e s' => (∃ a o, e = .ref a ∧ s'.heap.get? a = some o ∧ o.cls = .type "StopIteration") ∧ Q none s') s) :
    wpAny (model prog w) A (pyNext (.ref I)) Q E s := by
  have hT : s.TypeIs (.ref I) "set_iterator" := ⟨_, hI, rfl⟩
  unfold pyNext
  refine wpAny_bind (wpAny_attempt (wpAny_callSpecial?_slot (name := Str.ofString "__next__") hT FS.slot_setit_next
    (wpAny_call_entry FS.slot_setit_next hT FS.entry_setit_next (wpAny_mono h (fun fin s' ⟨v, e, q⟩ => ⟨v, e, wpAny_pure q⟩) fun e s' ⟨⟨a, o, he, ho, hc⟩, q⟩ => ?_) (FS.args_setit_next_1 _))))
  subst he
  refine wpAny_bind (wpAny_isInstance (T := "StopIteration") (b := true) ⟨o, ho, hc⟩ isSubtype_stop ?_)
  exact wpAny_pure q
end

section
variable {prog : Program} {w : World} {K : Type} [DecidableEq K] {knd : PySem.KeyKind prog w K} {A : Around} {τ : Ty K} {s₀ : Shared} {P₀ Ps : PM}
def Ob.sit (first : Value) (i : Nat) (D : Addr) (n ep : Nat) : Ob := Ob.exact (sitObj first i D n ep)
theorem fields_upd {h : Heap} {I D : Addr} {first : Value} {i n ep : Nat} (hI : h.get? I = some (sitObj first i D n ep)) (x : Value) : (h.update I (Obj.mapFields (·.setIfInBounds 0 x))).get? I = some (sitObj x i D n ep) := by
  have := Heap.get?_update_self (Obj.mapFields (·.setIfInBounds 0 x)) hI rfl
  exact this
theorem fields_upd1 {h : Heap} {I D : Addr} {first : Value} {i n ep : Nat} (hI : h.get? I = some (sitObj first i D n ep)) : (h.update I (Obj.mapFields (·.setIfInBounds 1 (rawInt ((i : Int) + 1))))).get? I = some (sitObj first (i + 1) D n ep) := by
  have := Heap.get?_update_self (Obj.mapFields (·.setIfInBounds 1 (rawInt ((i : Int) + 1)))) hI rfl
  exact this
/-- by the slots, or by the text's own order: the next place is a number -/
theorem pull_int {I D : Addr} {es : Array (Int × Value)} {ep : Nat} {t : SetTable} {ord : List (Int × Value)} {xs : List K} {sl : Nat → Nat} (hh : A.handled = none) (hD : Ps D = some (setObj es ep t)) (hf : t.fits es.size = true) (hp : Paired (ElAt knd) ord xs)
    (hτ : ∀ P v k, knd.is k v = true → τ.rel P v k)
    (hnext : ∀ (s : Shared) i (R : Option (Value × Nat) → Shared → Prop) E, i ≤ xs.length → s.heap.get? D = some (setObj es ep t) → R ((ord[i]?).map fun e => (e.2, sl (i + 1))) s → wpAny (model prog w) A.in1 (setNext D (sl i) i ep) R E s) :
    Pull prog w A s₀ P₀ Ps (.ref I) τ xs (fun i => [(I, Ob.sit (rawInt (sl i)) i D es.size ep)]) where
  item O s P i hi E hle S := by
    obtain ⟨o, ho, he, hPI⟩ := S.obj
    have he' : o = _ := he
    subst he'
    have hD' := S.sub _ _ (hle _ _ hD)
    obtain ⟨e, hv, hel⟩ := pGet hp (List.getElem?_eq_getElem hi)
    refine sit_next (R := fun _ _ => True) (t := t) ho (setit_next ho hD' hf ?_)
    show wpAny _ _ (setNext D ((sl i : Int)).toNat i ep >>= _) _ _ s
    rw [Int.toNat_natCast]
    refine wpAny_bind (hnext s i _ _ (Nat.le_of_lt hi) hD' ?_)
    rw [hv]
    dsimp only [Option.map]
    refine wpAny_bind (wpAny_setField ho rfl (by simp [sitObj]) ?_)
    refine wpAny_bind (wpAny_setField (fields_upd ho _) rfl (by simp [sitObj]) ?_)
    refine wpAny_pure ⟨e.2, rfl, e.2, P, rfl, .refl _, hτ _ _ _ hel.1.1, ?_⟩
    refine S.change (b' := Ob.sit (rawInt (sl (i + 1))) (i + 1) D es.size ep) (tk := s.toks) (fields_upd1 (fields_upd ho _)) rfl fun c o hne e => ?_
    exact (Heap.get?_update_other _ _ (Ne.symm hne)).trans ((Heap.get?_update_other _ _ (Ne.symm hne)).trans e)
  done O s P E hle S := by
    obtain ⟨o, ho, he, hPI⟩ := S.obj
    have he' : o = _ := he
    subst he'
    have hD' := S.sub _ _ (hle _ _ hD)
    refine sit_next (R := fun _ _ => True) (t := t) ho (setit_next ho hD' hf ?_)
    show wpAny _ _ (setNext D ((sl xs.length : Int)).toNat xs.length ep >>= _) _ _ s
    rw [Int.toNat_natCast]
    refine wpAny_bind (hnext s xs.length _ _ (Nat.le_refl _) hD' ?_)
    rw [List.getElem?_eq_none (by rw [hp.length]; exact Nat.le_refl _)]
    dsimp only [Option.map]
    refine wpAny_bind (wpAny_setField ho rfl (by simp [sitObj]) ?_)
    refine stop_raise (by exact hh) fun h' e hk ⟨oo, hoo, hcc⟩ => ⟨⟨e, oo, rfl, hoo, hcc⟩, rfl, P, .refl _, ?_⟩
    exact S.leave (tk := s.toks) fun c o hne e => hk _ _ ((Heap.get?_update_other _ _ (Ne.symm hne)).trans e)
end
end VS

end PartS6

noncomputable section PartS7
namespace VS
open PySem PySem.Calls PySem.W PyProof.Rows
open AutoSeq1 (wpAny_loadPart')

section
variable {prog : Program} {w : World} {K : Type} [DecidableEq K] {knd : PySem.KeyKind prog w K} {A : Around} {E : Value → Shared → Prop} {τ : Ty K} {s s₀ : Shared} {P P₀ Ps : PM} {O : List (Addr × Ob)}
def slAt (t : SetTable) : Nat → Nat
  | 0 => 0
  | i + 1 => t.place.getD i 0 + 1
def placesObj (ps : List Nat) : Obj := { cls := .type "tuple", data := .seq (ps.map fun i => rawInt (i : Nat)).toArray }
theorem pull_drawn {I D T : Addr} {es : Array (Int × Value)} {ep : Nat} {t : SetTable} {ps : List Nat} {ord : List (Int × Value)} {xs : List K} (hh : A.handled = none) (hD : Ps D = some (setObj es ep t)) (hf : t.fits es.size = true) (hT : Ps T = some (placesObj ps)) (hp : Paired (ElAt knd) ord xs)
    (hps : ps.map (fun i => es[i]?) = ord.map some) (hτ : ∀ P v k, knd.is k v = true → τ.rel P v k) :
    Pull prog w A s₀ P₀ Ps (.ref I) τ xs (fun i => [(I, Ob.sit (.ref T) i D es.size ep)]) where
  item O s P i hi E hle S := by
    obtain ⟨o, ho, he, hPI⟩ := S.obj
    have he' : o = _ := he
    subst he'
    have hD' := S.sub _ _ (hle _ _ hD)
    have hT' := S.sub _ _ (hle _ _ hT)
    obtain ⟨e, hv, hel⟩ := pGet hp (List.getElem?_eq_getElem hi)
    have hq := congrArg (fun l => l[i]?) hps
    simp only [List.getElem?_map, hv, Option.map_some] at hq
    cases hpi : ps[i]? with
    | none => rw [hpi] at hq; cases hq
    | some j =>
      rw [hpi] at hq
      simp only [Option.map_some, Option.some.injEq] at hq
      refine sit_next (R := fun _ _ => True) (t := t) ho (setit_next ho hD' hf ?_)
      show wpAny _ _ (seqItems? (.ref T) >>= _) _ _ s
      refine wpAny_bind (wpAny_seqItems hT' rfl ?_)
      have hpl : ((ps.map fun i => rawInt (i : Nat)).toArray)[i]? = some (rawInt (j : Nat)) := by simp [hpi]
      dsimp only
      rw [hpl]
      dsimp only [rawInt]
      refine wpAny_bind ?_
      unfold setNextDrawn
      refine wpAny_bind (wpAny_setState_of hD' rfl hf ?_)
      dsimp only
      rw [if_neg (by simp), Int.toNat_natCast, hq]
      dsimp only
      refine wpAny_pure ?_
      refine wpAny_bind (wpAny_setField ho rfl (by simp [sitObj]) ?_)
      refine wpAny_pure ⟨e.2, rfl, e.2, P, rfl, .refl _, hτ _ _ _ hel.1.1, ?_⟩
      exact S.change (b' := Ob.sit (.ref T) (i + 1) D es.size ep) (tk := s.toks) (fields_upd1 ho) rfl fun c o hne e => (Heap.get?_update_other _ _ (Ne.symm hne)).trans e
  done O s P E hle S := by
    obtain ⟨o, ho, he, hPI⟩ := S.obj
    have he' : o = _ := he
    subst he'
    have hD' := S.sub _ _ (hle _ _ hD)
    have hT' := S.sub _ _ (hle _ _ hT)
    have hl := congrArg List.length hps
    rw [List.length_map, List.length_map, hp.length] at hl
    refine sit_next (R := fun _ _ => True) (t := t) ho (setit_next ho hD' hf ?_)
    show wpAny _ _ (seqItems? (.ref T) >>= _) _ _ s
    refine wpAny_bind (wpAny_seqItems hT' rfl ?_)
    have hpl : ((ps.map fun i => rawInt (i : Nat)).toArray)[xs.length]? = none := by simp; omega
    dsimp only
    rw [hpl]
    dsimp only
    refine wpAny_bind (wpAny_setField ho rfl (by simp [sitObj]) ?_)
    refine wpAny_bind (wpAny_setField (fields_upd ho _) rfl (by simp [sitObj]) ?_)
    refine stop_raise (by exact hh) fun h' e hk ⟨oo, hoo, hcc⟩ => ⟨⟨e, oo, rfl, hoo, hcc⟩, rfl, P, .refl _, ?_⟩
    exact S.leave (tk := s.toks) fun c o hne e => hk _ _ ((Heap.get?_update_other _ _ (Ne.symm hne)).trans ((Heap.get?_update_other _ _ (Ne.symm hne)).trans e))

/-- a set is walked: each element once, in some order -/
theorem iter_set {D : Addr} {es : Array (Int × Value)} {ep : Nat} {t : SetTable} {ks : List K} {Q : Value → Shared → Prop} (hh : A.handled = none) (G : SetG knd (ledOf w) es t ks) (hτ : ∀ P v k, knd.is k v = true → τ.rel P v k) (S : Hs s₀ P₀ O s P) (hD : P D = some (setObj es ep t))
    (k : ∀ it s2 P2 Own xs, PM.le P P2 → xs.Perm ks → Hs s₀ P₀ (Own 0 ++ O) s2 P2 → Pull prog w A s₀ P₀ P2 it τ xs Own → Q it s2) : wpAny (model prog w) A (pyIter (.ref D)) Q E s := by
  have hD' := S.sub _ _ hD
  have hT : s.TypeIs (.ref D) "set" := ⟨_, hD', rfl⟩
  refine wpAny_pyIter_slot hT PySem.F.slot_set_iter (wpAny_call_entry PySem.F.slot_set_iter hT FS.entry_set_iter ?_ (PySem.F.args_set_iter_1 _))
  show wpAny _ _ (Builtin.Frozenset.sizeOf D >>= _) _ _ s
  unfold Builtin.Frozenset.sizeOf
  refine wpAny_bind (wpAny_bind (wpAny_setEntries_of hD' rfl G.fits (wpAny_pure ?_)))
  have hdr : ∀ {Q : Bool → Shared → Prop} {E} {A}, Q (ledOf w && (!t.plain && decide (es.size > 1))) s → wpAny (model prog w) A (setDrawn D) Q E s := fun {Q E A} h => by
    unfold setDrawn
    refine wpAny_bind (wpAny_setState_of hD' rfl G.fits (wpAny_bind (wpAny_setsByText (wpAny_pure ?_))))
    rw [Bool.not_not]; exact h
  have fin : ∀ (first : Value) (s1 : Shared) (P1 : PM), PM.le P P1 → Hs s₀ P₀ O s1 P1 → (∀ I P2, PM.le P1 P2 → ∃ Own xs, Own 0 = [(I, Ob.sit first 0 D es.size ep)] ∧ xs.Perm ks ∧ Pull prog w A s₀ P₀ P2 (.ref I) τ xs Own) →
      wpAny (model prog w) A.in1 (do ret (← newFields "set_iterator" [first, rawInt 0, .ref D, rawInt es.size, rawInt (← setEpoch D)])) (fun fin s' => ∃ v, fin = .done (.ret v) ∧ ∃ (U : String) (x : Value), s'.TypeIs v U ∧ typeLookup (.type U) "__next__" = pure (some x) ∧ Q v s') E s1 := fun first s1 P1 l1 S1 h1 => by
    have hD1 := S1.sub _ _ (l1 _ _ hD)
    refine wpAny_bind (wpAny_setEpoch_of hD1 rfl G.fits ?_)
    unfold newFields
    refine wpAny_bind (wpAny_newObj_type ?_ (by size_fits))
    have S2 := S1.make (b := Ob.sit first 0 D es.size ep) (o := sitObj first 0 D es.size ep) (tk := s1.toks) rfl
    obtain ⟨Own, xs, e0, hperm, Pl⟩ := h1 s1.heap.objs.size P1 (.refl _)
    refine wpAny_pure ⟨_, rfl, "set_iterator", _, ⟨_, Heap.get?_push_size _ rfl, rfl⟩, FS.slot_setit_next.lookup, ?_⟩
    refine k _ _ P1 Own xs l1 hperm ?_ Pl
    rw [e0]
    exact S2
  refine wpAny_bind (hdr ?_)
  cases hc : (ledOf w && (!t.plain && decide (es.size > 1))) with
  | true =>
    simp only [if_true]
    refine wpAny_bind (wpAny_drawOrder _ _ _ _ (by simp) fun ps d p => wpAny_bind (wpAny_newTuple ?_ (by rw [List.length_map, p.length_eq, List.length_range]; exact fits_of_scanBound G.size)))
    have x1 : Ext s P { s with drawn := d } P := ⟨fun _ _ e => e, .refl _, fun _ _ e => .inl e, S.sub, rfl, rfl⟩
    have S1 := S.go x1
    have x2 := Ext.push (o := placesObj ps) (tk := s.toks) S1.sub
    have S2 := S1.go x2
    have hps : ∃ ord : List (Int × Value), ps.map (fun i => es[i]?) = ord.map some ∧ ord.Perm es.toList := by
      have e1 : (List.range es.size).map (fun i => es[i]?) = es.toList.map some := by
        apply List.ext_getElem (by simp)
        intro n h1 h2
        simp at h1
        simp [h1]
      have p2 := p.map (fun i => es[i]?)
      rw [e1] at p2
      have key : ∀ (l : List (Option (Int × Value))) (m : List (Int × Value)), l.Perm (m.map some) → ∃ ord : List (Int × Value), l = ord.map some ∧ ord.Perm m := by
        intro l m pl
        refine ⟨l.filterMap id, ?_, ?_⟩
        · have : ∀ x ∈ l, ∃ y, x = some y := fun x hx => by
            obtain ⟨y, _, e⟩ := List.mem_map.mp (pl.mem_iff.mp hx)
            exact ⟨y, e.symm⟩
          clear pl
          induction l with
          | nil => rfl
          | cons a r ih =>
            obtain ⟨y, rfl⟩ := this _ (.head _)
            simp only [List.filterMap_cons, id, List.map_cons]
            rw [← ih fun x hx => this x (.tail _ hx)]
        · have := pl.filterMap id
          simpa [List.filterMap_map] using this
      exact key _ _ p2
    obtain ⟨ord, hord, pord⟩ := hps
    obtain ⟨xs, hxs, pxs⟩ := perm_paired pord G.el
    refine fin _ _ _ x2.le S2 fun I P2 l2 => ⟨fun i => [(I, Ob.sit (.ref s.heap.objs.size) i D es.size ep)], xs, rfl, pxs, pull_drawn hh (l2 _ _ (x2.le _ _ hD)) G.fits (l2 _ _ PM.put_self) hxs hord hτ⟩
  | false =>
    simp only [Bool.false_eq_true, if_false]
    refine wpAny_bind (wpAny_pure ?_)
    cases hled : ledOf w with
    | false =>
      have hpk := pick_perm (w.params.setOrder D ep) es.size 0 es.toList #[] (by simp)
      obtain ⟨xs, hxs, pxs⟩ := perm_paired (l' := (pickOrder (w.params.setOrder D ep) es).toList) hpk G.el
      refine fin _ _ _ (.refl _) S fun I P2 l2 => ⟨_, xs, rfl, pxs, pull_int (sl := fun _ => 0) (ord := (pickOrder (w.params.setOrder D ep) es).toList) (t := t) hh (l2 _ _ hD) G.fits hxs hτ fun s i R E hix hDs hR => ?_⟩
      unfold setNext
      refine wpAny_bind (wpAny_setState_of hDs rfl G.fits (wpAny_bind (wpAny_setsByText ?_)))
      rw [hled]
      simp only [Bool.not_false, if_true]
      rw [if_neg (by simp)]
      refine wpAny_bind ?_
      unfold setWalk
      refine wpAny_bind (wpAny_setState_of hDs rfl G.fits (wpAny_bind (wpAny_setsByText ?_)))
      rw [hled]
      simp only [Bool.not_false, if_true]
      refine wpAny_bind (wpAny_askSetting (wpAny_pure (wpAny_pure ?_)))
      rw [← Array.getElem?_toList]
      exact hR
    | true =>
      rw [hled, Bool.true_and] at hc
      have hpl : t.place.size = es.size := by have := G.fits; unfold SetTable.fits at this; simp at this; exact this.1
      refine fin _ _ _ (.refl _) S fun I P2 l2 => ⟨_, ks, rfl, .refl _, pull_int (sl := slAt t) (ord := es.toList) (t := t) hh (l2 _ _ hD) G.fits G.el hτ fun s i R E hix hDs hR => ?_⟩
      unfold setNext
      refine wpAny_bind (wpAny_setState_of hDs rfl G.fits (wpAny_bind (wpAny_setsByText ?_)))
      rw [hled]
      simp only [Bool.not_true, Bool.false_eq_true, if_false]
      have hkl : ks.length = es.size := by rw [← G.el.length, Array.length_toList]
      split
      · rename_i hd
        exact absurd (show (!t.plain && decide (es.size > 1)) = true from hd) (by rw [hc]; decide)
      · refine wpAny_bind ?_
        show wpAny _ _ (if (!t.led && !es.isEmpty) = true then unsupported "set:maker-not-led" else pure ()) _ _ _
        rw [G.tab.led, hled]
        simp only [Bool.not_true, Bool.false_and, Bool.false_eq_true, if_false]
        refine wpAny_pure (wpAny_pure ?_)
        have hb : SetTable.below t.place (slAt t i) = i := by
          cases i with
          | zero => exact below_zero G.tab.rise
          | succ j =>
            have hj : j < t.place.size := by omega
            have e0 : t.place[j]? = some t.place[j] := by simp [hj]
            have e1 : t.place.getD j 0 = t.place[j] := by simp [Array.getD, hj]
            show SetTable.below t.place (t.place.getD j 0 + 1) = j + 1
            rw [e1]
            exact below_next G.tab.rise e0
        have hR' : R (match es[i]?, t.place[i]? with | some (_, x), some j => some (x, j + 1) | _, _ => none) s := by
          by_cases hi : i < es.size
          · have e0 : es[i]? = some es[i] := by simp [hi]
            have hip : i < t.place.size := by omega
            have e1 : t.place[i]? = some t.place[i] := by simp [hip]
            have e2 : t.place.getD i 0 = t.place[i] := by simp [Array.getD, hip]
            have e3 : es.toList[i]? = some es[i] := by simp [hi]
            rw [e3] at hR
            rw [e0, e1]
            simpa [slAt, e2] using hR
          · have e0 : es[i]? = none := by simp; omega
            have e3 : es.toList[i]? = none := by simp; omega
            rw [e3] at hR
            rw [e0]
            exact hR
        rw [hb]
        exact hR'
end
end VS

end PartS7

noncomputable section PartS8
namespace VS
open PySem PySem.Calls PySem.W PyProof.Rows

section
variable {prog : Program} {w : World} {A : Around} {α : Type} {τ : Ty α} {s₀ s : Shared} {P₀ P Ps : PM} {O : List (Addr × Ob)}
theorem collect_pullX {it0 : Addr} {T : String} {Q : List Value → Shared → Prop} {E : Value → Shared → Prop} (S : Hs s₀ P₀ O s P) (hT1 : (Value.type T == Value.type "list") = false) (hT2 : (Value.type T == Value.type "tuple") = false)
    (typ : ∀ s' D, Hs s₀ P₀ ((D, Ob.list τ []) :: O) s' P → s'.TypeIs (.ref it0) T ∧ D ≠ it0)
    (iter : ∀ s' D E, Hs s₀ P₀ ((D, Ob.list τ []) :: O) s' P → wpAny (model prog w) A.in1 (pyIter (.ref it0)) (fun it s2 => ∃ (xs : List α) (P2 : PM) (Own : Nat → List (Addr × Ob)) (O2 : List (Addr × Ob)), xs.length ≤ sizeLine ∧ PM.le P P2 ∧ Hs s₀ P₀ (Own 0 ++ (D, Ob.list τ []) :: O2) s2 P2 ∧ Pull prog w A.in1 s₀ P₀ P2 it τ xs Own ∧
      (∀ E, wpAny (model prog w) A.in1 (Builtin.List.listLengthHint (.ref it0)) (fun _ s3 => ∃ P3, PM.le P2 P3 ∧ Hs s₀ P₀ (Own 0 ++ (D, Ob.list τ []) :: O2) s3 P3) E s2) ∧
      (∀ vs s' P', PM.le P2 P' → Hs s₀ P₀ O2 s' P' → Paired (τ.rel P') vs xs → Q vs s')) E s') : wpAny (model prog w) A (collect (.ref it0)) Q E s := by
  unfold collect
  refine wpAny_bind (wpAny_runValue (codeAny_builtin PySem.F.entry_proto_collect ?_))
  rw [Around.under_plainId PySem.F.plain_proto_collect _]
  show wpAny _ A.in1 (newList [] >>= fun l => again (.builtin "list.__iadd__" ⟨[l, .ref it0], []⟩)) _ _ s
  have S1 := S.make (b := Ob.list τ []) (o := { cls := .type "list", data := .seq ([] : List Value).toArray }) (tk := s.toks) ⟨[], _, rfl, .nil⟩
  generalize hD : s.heap.objs.size = D at S1
  refine wpAny_bind (wpAny_newObj_type ?_)
  rw [hD]
  refine wpAny_pure ⟨plainId_quiet PySem.F.plain_list_iadd _, codeAny_builtin PySem.F.entry_list_iadd ?_⟩
  rw [Around.under_plainId PySem.F.plain_list_iadd _]
  generalize ({ s with heap := s.heap.push { cls := .type "list", data := .seq ([] : List Value).toArray }, toks := s.toks } : Shared) = s1 at S1 ⊢
  show wpAny _ A.in1 (Builtin.List.listExtendWith (.ref D) (.ref it0) (.ref D)) _ _ s1
  obtain ⟨ht, hne⟩ := typ _ _ S1
  unfold Builtin.List.listExtendWith
  refine wpAny_bind (wpAny_typeOf ht ?_)
  have h1 : Builtin.List.listSameRef (.ref D) (.ref it0) = false := by simp [Builtin.List.listSameRef, hne]
  simp only [h1, hT1, hT2, Bool.or_false, Bool.false_eq_true, if_false]
  refine wpAny_bind (wpAny_mono (iter _ _ _ S1) (fun it s2 ⟨xs, P2, Own, O2, hn, l2, S2, Pl, hint, fin⟩ => ?_) fun _ _ e => e)
  refine wpAny_bind (wpAny_holding (wpAny_mono (hint _) (fun room s3 ⟨P3, l3, S3⟩ => ?_) fun _ _ e => e))
  have Pl' : Pull prog w A.in1 s₀ P₀ P3 it τ xs Own := ⟨fun O s P i hi E hle => Pl.item O s P i hi E (l3.trans hle), fun O s P E hle => Pl.done O s P E (l3.trans hle)⟩
  have endp : ∀ s4 : Shared, Hs s₀ P₀ (Own 0 ++ (D, Ob.list τ []) :: O2) s4 P3 → codeAny (model prog w) A (.builtin "list.extend.loop" ⟨[.ref D, it, .ref D], []⟩)
      (fun r s' => match r with | .ok (.ret v) => wpAny (model prog w) A (match v with | .ref a => (do match (← load a).data with | .seq xs _ => pure xs.toList | _ => unsupported "internal:collect") | _ => unsupported "internal:collect") Q E s' | .ok _ => False | .error e => E e s') s4 := fun s4 S4 => by
    refine pull_loop Pl' hn (fun s' P' l' S' => ?_) xs.length 0 s4 P3 (by omega) (Nat.zero_le _) (.refl _) S4
    obtain ⟨o, ho, ⟨vs, n, rfl, hp⟩, hP⟩ := S'.obj
    dsimp only
    refine wpAny_bind (wpAny_load ho (wpAny_pure ?_))
    exact fin vs s' P' (l3.trans l') S'.drop hp
  refine wpAny_ite_split (fun _ => ?_) (fun _ => wpAny_pure ⟨plainId_quiet PySem.F.plain_extend_loop _, endp s3 S3⟩)
  refine wpAny_bind (wpAny_rule ?_)
  refine wpAny_bind ?_
  have S3' := S3.perm List.perm_middle
  obtain ⟨o, ho, ⟨vs, n, rfl, hp⟩, hP⟩ := S3'.obj
  cases hp
  show wpAny _ _ (updateSeq D (·.push .none) >>= fun _ => updateSeq D (·.pop)) _ _ _
  refine wpAny_bind (wpAny_updateSeq ho rfl ?_)
  have hS₂ := Heap.get?_update_self (Obj.mapSeq (·.push Value.none)) ho rfl
  refine wpAny_updateSeq (hz := by seq_fits) hS₂ rfl ?_
  have hS₃ := Heap.get?_update_self (Obj.mapSeq (·.pop)) hS₂ rfl
  refine wpAny_pure ⟨plainId_quiet PySem.F.plain_extend_loop _, endp _ ((S3'.change (b' := Ob.list τ []) (tk := s3.toks) hS₃ ⟨[], _, rfl, .nil⟩ fun c o hne e => ?_).perm List.perm_middle.symm)⟩
  exact (Heap.get?_update_other _ _ (Ne.symm hne)).trans ((Heap.get?_update_other _ _ (Ne.symm hne)).trans e)

theorem hint_set {E : Value → Shared → Prop} {r : Addr} {Q : Bool → Shared → Prop} (hT : s.TypeIs (.ref r) "set") (h : Q false s) : wpAny (model prog w) A (Builtin.List.listLengthHint (.ref r)) Q E s := by
  unfold Builtin.List.listLengthHint
  refine wpAny_bind (wpAny_specialOf hT PySem.F.slot_set_len.lookup ?_)
  generalize hid : ("set.__len__" : String) = id0
  wp_delta
  rw [show splitId id0 = some ("set", "__len__") from by subst hid; decide +kernel]
  subst hid
  refine wpAny_bind (wpAny_isInstance (T := "set") (b := true) hT (by rw [isSubtype_type]; kernel_rfl) ?_)
  refine wpAny_ite_split (fun hab => absurd hab (by decide)) (fun _ => ?_)
  refine wpAny_ite_split (fun _ => ?_) (fun hab => absurd (by decide +kernel) hab)
  refine wpAny_bind (wpAny_typeOf hT ?_)
  exact wpAny_pure h
end
section
variable {prog : Program} {w : World} {K : Type} [DecidableEq K] {knd : PySem.KeyKind prog w K} {A : Around} {E : Value → Shared → Prop} {τ : Ty K} {s s₀ : Shared} {P P₀ Ps : PM}
theorem collect_set {S0 : List K} {v : Value} {Q : List Value → Shared → Prop} (hh : A.handled = none) (hτ : ∀ P v k, knd.is k v = true → τ.rel P v k) (S : Hs s₀ P₀ [] s P) (r : (Ty.set knd (ledOf w)).rel P v S0)
    (k : ∀ vs xs s' P', PM.le P P' → Hs s₀ P₀ [] s' P' → Paired (τ.rel P') vs xs → xs.Nodup → (∀ y, y ∈ xs ↔ y ∈ S0) → xs.length ≤ S0.length → Q vs s') : wpAny (model prog w) A (collect v) Q E s := by
  obtain ⟨D, o, rfl, hD, es, ep, t, ks, rfl, G, hm, hl⟩ := r
  have hsz : ks.length ≤ sizeLine := by
    have := G.size
    rw [← G.el.length, Array.length_toList]
    exact fits_of_scanBound G.size
  refine collect_pullX (τ := τ) (T := "set") S (by decide) (by decide) (fun s' D' S' => ⟨⟨_, S'.sub _ _ hD, rfl⟩, fun q => ?_⟩) fun s' D' E S' => ?_
  · obtain ⟨_, _, _, hD'⟩ := S'.obj
    rw [q, hD] at hD'; cases hD'
  · refine iter_set (by exact hh) G hτ S' hD fun it s2 P2 Own xs l2 p S2 Pl => ⟨xs, P2, Own, [], by rw [p.length_eq]; exact hsz, l2, S2, Pl, fun E => hint_set ⟨_, S2.sub _ _ (l2 _ _ hD), rfl⟩ ⟨P2, .refl _, S2⟩, fun vs s3 P3 l3 S3 hp => ?_⟩
    exact k vs xs s3 P3 (l2.trans l3) S3 hp (p.nodup_iff.mpr G.nodup) (fun y => p.mem_iff.trans (hm y)) (by rw [p.length_eq]; exact hl)

theorem strsAre_of {P : PM} {vs : List Value} {xs : List Str} (h : Paired (Ty.str.rel P) vs xs) : StrsAre vs xs := by
  induction h with
  | nil => exact .nil
  | cons h _ ih => obtain ⟨t, rfl⟩ := h; exact .cons _ t ih
theorem of_strsAre {P : PM} {vs : List Value} {xs : List Str} (h : StrsAre vs xs) : Paired (Ty.str.rel P) vs xs := by
  induction h with
  | nil => exact .nil
  | cons x t _ ih => exact .cons ⟨t, rfl⟩ ih
theorem intsAre_of {P : PM} {vs : List Value} {xs : List Int} (h : Paired (Ty.int.rel P) vs xs) : IntsAre vs xs := by
  induction h with
  | nil => exact .nil
  | cons h _ ih => obtain ⟨t, rfl⟩ := h; exact .cons _ t ih
theorem of_intsAre {P : PM} {vs : List Value} {xs : List Int} (h : IntsAre vs xs) : Paired (Ty.int.rel P) vs xs := by
  induction h with
  | nil => exact .nil
  | cons x t _ ih => exact .cons ⟨t, rfl⟩ ih
theorem op_sorted_set_S {v : Value} {S0 : List Str} (hh : A.handled = none) (h : Sub P s) (r : (Ty.set (PySem.strKind prog w) (ledOf w)).rel P v S0) (h64 : S0.length < 64) (canon : List Str → List Str) (hc : ∀ ys, sortedS ys = true → ys.Nodup → (∀ x, x ∈ ys ↔ x ∈ S0) → ys = canon S0) :
    Op prog w A s P (call (.builtin "sorted") [v] []) (Ty.list Ty.str) (canon S0) := by
  refine Calls.call_function_entry kind_sorted plain_sorted entry_sorted (args_sorted1 _) ?_
  unfold Builtin.«sorted»
  refine wpAny_bind (m := checkCount "sorted" 1 1 _) (wpAny_pure ?_)
  refine wpAny_bind ?_
  refine collect_set (τ := Ty.str) hh (fun P v k hk => ?_) (Hs.start h) r fun vs xs s1 P1 l1 S1 hp hnd hmem hlen => ?_
  · obtain ⟨t, e⟩ := Value.isStrOf_shape hk; exact ⟨t, e⟩
  have hvl : vs.length < 64 := by rw [hp.length]; omega
  refine wpAny_bind (wpAny_newList ?_ (by have : sizeLine = 16777216 := rfl; omega))
  have S2 := S1.make (b := Ob.exact (seqObj "list" vs.toArray 0)) (o := seqObj "list" vs.toArray 0) (tk := s1.toks) rfl
  obtain ⟨o, ho, he, hPL⟩ := S2.obj
  have he' : o = _ := he
  subst he'
  refine wpAny_bind (wpAny_holding (wpAny_call_entry slot_list_sort ⟨_, ho, rfl⟩ entry_list_sort (list_sort_treeK strKind_oneLt ho (strsAre_of hp).keysOf (fun v₁ v₂ rest e => keyKind_strs (by rw [← e]; exact strsAre_of hp)) hvl fun st' a1 a2 => ⟨_, rfl, ?_⟩) (args_list_sort _)))
  obtain ⟨ss', b1, b2, b3⟩ := sorted_out_str (strsAre_of hp) a1 a2
  obtain ⟨e, hat⟩ := sortedHeap_at (out := (arrOf st').map (·.2)) ho
  have S3 := S2.change (b' := Ob.list Ty.str ss') (tk := s1.toks) hat ⟨((arrOf st').map (·.2)).toList, e, by rw [Array.toArray_toList], of_strsAre b1⟩ fun c o hne hco => (sortedHeap_old hne (Heap.lt_size hco)).trans hco
  obtain ⟨o, ro, S4, l4, hPD⟩ := S3.freeze
  have rr := Ob.listFin _ _ _ ro hPD
  have e1 : ss' = canon S0 := hc ss' b3 (b2.nodup_iff.mpr hnd) fun x => b2.mem_iff.trans (hmem x)
  rw [e1] at rr
  exact wpAny_pure ⟨_, rfl, _, S4.ext, rr⟩
theorem op_sorted_set_I {v : Value} {S0 : List Int} (hh : A.handled = none) (h : Sub P s) (r : (Ty.set (PySem.intKind prog w) (ledOf w)).rel P v S0) (h64 : S0.length < 64) (canon : List Int → List Int) (hc : ∀ ys, ys.Pairwise (· ≤ ·) → ys.Nodup → (∀ x, x ∈ ys ↔ x ∈ S0) → ys = canon S0) :
    Op prog w A s P (call (.builtin "sorted") [v] []) (Ty.list Ty.int) (canon S0) := by
  refine Calls.call_function_entry kind_sorted plain_sorted entry_sorted (args_sorted1 _) ?_
  unfold Builtin.«sorted»
  refine wpAny_bind (m := checkCount "sorted" 1 1 _) (wpAny_pure ?_)
  refine wpAny_bind ?_
  refine collect_set (τ := Ty.int) hh (fun P v k hk => ?_) (Hs.start h) r fun vs xs s1 P1 l1 S1 hp hnd hmem hlen => ?_
  · obtain ⟨t, e⟩ := Value.isInt_shape hk; exact ⟨t, e⟩
  have hvl : vs.length < 64 := by rw [hp.length]; omega
  refine wpAny_bind (wpAny_newList ?_ (by have : sizeLine = 16777216 := rfl; omega))
  have S2 := S1.make (b := Ob.exact (seqObj "list" vs.toArray 0)) (o := seqObj "list" vs.toArray 0) (tk := s1.toks) rfl
  obtain ⟨o, ho, he, hPL⟩ := S2.obj
  have he' : o = _ := he
  subst he'
  refine wpAny_bind (wpAny_holding (wpAny_call_entry slot_list_sort ⟨_, ho, rfl⟩ entry_list_sort (list_sort_tree ho (intsAre_of hp) hvl fun out ns' b1 b2 b3 => ⟨_, rfl, ?_⟩) (args_list_sort _)))
  obtain ⟨e, hat⟩ := sortedHeap_at (out := out) ho
  have S3 := S2.change (b' := Ob.list Ty.int ns') (tk := s1.toks) hat ⟨out.toList, e, by rw [Array.toArray_toList], of_intsAre b1⟩ fun c o hne hco => (sortedHeap_old hne (Heap.lt_size hco)).trans hco
  obtain ⟨o, ro, S4, l4, hPD⟩ := S3.freeze
  have rr := Ob.listFin _ _ _ ro hPD
  have e1 : ns' = canon S0 := hc ns' b3 (b2.nodup_iff.mpr hnd) fun x => b2.mem_iff.trans (hmem x)
  rw [e1] at rr
  exact wpAny_pure ⟨_, rfl, _, S4.ext, rr⟩
end
end VS

end PartS8

noncomputable section PartV24
namespace VS
open PySem PySem.Calls PySem.W PyProof.Rows

section
variable {prog : Program} {w : World} {A : Around} {cs : Str → Prop} {env : Env} {s : Shared} {P : PM} {K : Frag} {p : Program} {lo : List Str} {mg mb : Str → Option Value} {one two : Str}
theorem Ev.sortedSetS {e : Expr} {np np2 p1 p2 : Pos} {xs : List Str} (W : Wd K p lo mg mb s.heap) (hh : A.handled = none) (h : Ev prog w A s P (eval e env) (Ty.list Ty.str) xs) (h64 : xs.length < 64)
    (hs1 : nsIn K mainGlobals "sorted" = some none := by rfl) (hs2 : nsIn K mainGlobals "set" = some none := by rfl) (hg : env.globals = mainGlobals := by rfl) (hb : env.builtins = builtinsNs := by rfl) (hk : env.scope.kind = .function := by rfl)
    (hx : env.kindOf "sorted" = some .globalImplicit := by rfl) (hx2 : env.kindOf "set" = some .globalImplicit := by rfl) (he : starEach [e] env = (false, eval e env) :: starEach [] env := by rfl) :
    Ev prog w A s P (eval (.Call (.Name "sorted" np) [.Call (.Name "set" np2) [e] [] p2] [] p1) env) (Ty.list Ty.str) (canonS xs) :=
  Ev.callB (Ev.built W hs1 b_sorted hg hb hk hx) (EvL.cons (τ := Ty.set (PySem.strKind prog w) (ledOf w)) (x := xs.map id) (Ev.callT (Ev.built W hs2 b_set hg hb hk hx2) (EvL.cons h EvL.nil he) (fun s1 P1 vs e1 ⟨v, r, hv, rv, hr⟩ => by
    subst hv; cases hr
    exact set_list_op (τ := Ty.str) (key := id) (fun P v x ⟨t, e⟩ => by subst e; exact ⟨beq_self_eq_true x, rfl⟩) e1.sub hh rv (by have : scanBound = 4096 := rfl; omega)) he (by rw [he]; rfl)) EvL.nil) fun s1 P1 vs e1 ⟨v, r, hv, rv, hr⟩ => by
    subst hv; cases hr
    rw [List.map_id] at rv
    exact op_sorted_set_S hh e1.sub rv h64 canonS fun ys a b c => canonS_of a b c
theorem Ev.sortedSetI {e : Expr} {np np2 p1 p2 : Pos} {xs : List Int} (W : Wd K p lo mg mb s.heap) (hh : A.handled = none) (h : Ev prog w A s P (eval e env) (Ty.list Ty.int) xs) (h64 : xs.length < 64)
    (hs1 : nsIn K mainGlobals "sorted" = some none := by rfl) (hs2 : nsIn K mainGlobals "set" = some none := by rfl) (hg : env.globals = mainGlobals := by rfl) (hb : env.builtins = builtinsNs := by rfl) (hk : env.scope.kind = .function := by rfl)
    (hx : env.kindOf "sorted" = some .globalImplicit := by rfl) (hx2 : env.kindOf "set" = some .globalImplicit := by rfl) (he : starEach [e] env = (false, eval e env) :: starEach [] env := by rfl) :
    Ev prog w A s P (eval (.Call (.Name "sorted" np) [.Call (.Name "set" np2) [e] [] p2] [] p1) env) (Ty.list Ty.int) (canonI xs) :=
  Ev.callB (Ev.built W hs1 b_sorted hg hb hk hx) (EvL.cons (τ := Ty.set (PySem.intKind prog w) (ledOf w)) (x := xs.map id) (Ev.callT (Ev.built W hs2 b_set hg hb hk hx2) (EvL.cons h EvL.nil he) (fun s1 P1 vs e1 ⟨v, r, hv, rv, hr⟩ => by
    subst hv; cases hr
    exact set_list_op (τ := Ty.int) (key := id) (fun P v x ⟨t, e⟩ => by subst e; exact ⟨intKind_is _ _ _ _, rfl⟩) e1.sub hh rv (by have : scanBound = 4096 := rfl; omega)) he (by rw [he]; rfl)) EvL.nil) fun s1 P1 vs e1 ⟨v, r, hv, rv, hr⟩ => by
    subst hv; cases hr
    rw [List.map_id] at rv
    exact op_sorted_set_I hh e1.sub rv h64 canonI fun ys a b c => canonI_of a b c
theorem pair_markB {P : PM} {vs : List Value} : ∀ {ms : List Mark}, Paired (Ty.str.rel P) vs (ms.map (path one two)) → Paired ((Ty.mark one two).rel P) vs ms := by
  intro ms
  induction ms generalizing vs with
  | nil => intro h; cases h; exact .nil
  | cons a r ih => intro h; cases h with | cons a r => exact .cons a (ih r)
theorem Ev.marksB {t : Sem Value} {ms : List Mark} (h : Ev prog w A s P t (Ty.list Ty.str) (ms.map (path one two))) : Ev prog w A s P t (Ty.list (Ty.mark one two)) ms := fun s1 P1 e =>
  wpAny_mono (h s1 P1 e) (fun v s2 ⟨P2, e2, vs, q, r⟩ => ⟨P2, e2, vs, q, pair_markB r⟩) fun _ _ f => f
theorem Ev.sortedSetM (G : Good one two) {e : Expr} {np np2 p1 p2 : Pos} {ms : List Mark} (W : Wd K p lo mg mb s.heap) (hh : A.handled = none) (h : Ev prog w A s P (eval e env) (Ty.list (Ty.mark one two)) ms) (h64 : ms.length < 64)
    (hs1 : nsIn K mainGlobals "sorted" = some none := by rfl) (hs2 : nsIn K mainGlobals "set" = some none := by rfl) (hg : env.globals = mainGlobals := by rfl) (hb : env.builtins = builtinsNs := by rfl) (hk : env.scope.kind = .function := by rfl)
    (hx : env.kindOf "sorted" = some .globalImplicit := by rfl) (hx2 : env.kindOf "set" = some .globalImplicit := by rfl) (he : starEach [e] env = (false, eval e env) :: starEach [] env := by rfl) :
    Ev prog w A s P (eval (.Call (.Name "sorted" np) [.Call (.Name "set" np2) [e] [] p2] [] p1) env) (Ty.list (Ty.mark one two)) (canonM one two ms) :=
  Ev.marksB (Ev.to (canonM_path G ms).symm (Ev.sortedSetS W hh h.marksS (by rw [List.length_map]; exact h64) hs1 hs2 hg hb hk hx hx2 he))
end
end VS

end PartV24

noncomputable section PartV32
namespace VS
open PySem PySem.Calls PySem.W PyProof.Rows

section
variable {prog : Program} {w : World} {A : Around} {cs : Str → Prop} {env : Env} {α β γ : Type} {τ : Ty α} {s : Shared} {P : PM}
theorem Truth.tuple {v : Value} {xs : List α} (h : Sub P s) (r : (Ty.tuple τ).rel P v xs) (hsz : xs.length ≤ sizeLine) : Truth prog w A s P v (!xs.isEmpty) := by
  obtain ⟨vs, q, pr⟩ := r
  have hl := pr.length
  obtain ⟨a, n, rfl, hp⟩ := id q
  refine PyProof.Rows.truthy_tuple (q.isTup h) (by have : sizeLine = 16777216 := rfl; rw [List.size_toArray]; omega) ⟨?_, P, .toks h⟩
  cases pr <;> rfl
theorem Ev.itemT {value slice : Expr} {pos : Pos} {xs : List α} {k : Int} {j : Nat} {x : α} (h : Ev prog w A s P (eval value env) (Ty.tuple τ) xs) (h2 : Ev prog w A s P (eval slice env) Ty.int k) (hlo : -(2 ^ 63) ≤ k) (hhi : k < 2 ^ 63) (hj : seqIndex? k xs.length = some j) (hk : xs[j]? = some x)
    (hs : ∀ v t, subscripted slice false v (.int k t) = operate [v, .int k t] (getItem v (.int k t)) := by intro _ _; with_unfolding_all rfl) : Ev prog w A s P (eval (.Subscript value slice pos) env) τ x :=
  Ev.sub h h2 fun s1 P1 a b e ⟨vs, q, pr⟩ ⟨t, rb⟩ => by
    subst rb
    obtain ⟨y, hy, ry⟩ := pGet pr hk
    exact op_itemT e.sub q hlo hhi (by rw [pr.length]; exact hj) hy ry (hs _ _)
end
end VS

end PartV32

noncomputable section PartX6
namespace VS
open PySem PySem.Calls PySem.W PyProof.Rows
/-- what sorted_list_difference gives of two rising rows -/
def sld : List Int → List Int → List Int × List Int
  | [], ys => ([], ys)
  | x :: xs, [] => (x :: xs, [])
  | x :: xs, y :: ys => if x < y then (x :: (sld xs (y :: ys)).1, (sld xs (y :: ys)).2) else if y < x then ((sld (x :: xs) ys).1, y :: (sld (x :: xs) ys).2) else sld xs ys
theorem sld_nil (ys : List Int) : sld [] ys = ([], ys) := by unfold sld; rfl
theorem sld_nilr (xs : List Int) : sld xs [] = (xs, []) := by cases xs <;> (unfold sld; rfl)
theorem sld_cons (x : Int) (xs : List Int) (y : Int) (ys : List Int) : sld (x :: xs) (y :: ys) = if x < y then (x :: (sld xs (y :: ys)).1, (sld xs (y :: ys)).2) else if y < x then ((sld (x :: xs) ys).1, y :: (sld (x :: xs) ys).2) else sld xs ys := by
  rw [sld]
theorem sld_len : ∀ xs ys : List Int, (sld xs ys).1.length ≤ xs.length ∧ (sld xs ys).2.length ≤ ys.length
  | [], ys => by rw [sld_nil]; exact ⟨Nat.le_refl _, Nat.le_refl _⟩
  | x :: xs, [] => by rw [sld_nilr]; exact ⟨Nat.le_refl _, Nat.le_refl _⟩
  | x :: xs, y :: ys => by
    unfold sld
    split
    · have := sld_len xs (y :: ys)
      simp only [List.length_cons] at this ⊢; omega
    · split
      · have := sld_len (x :: xs) ys
        simp only [List.length_cons] at this ⊢; omega
      · have := sld_len xs ys
        simp only [List.length_cons] at this ⊢; omega
  termination_by xs ys => xs.length + ys.length
theorem sld_mem {x : Int} : ∀ {xs ys : List Int}, xs.Pairwise (· < ·) → ys.Pairwise (· < ·) → (x ∈ (sld xs ys).1 ↔ x ∈ xs ∧ x ∉ ys)
  | [], ys, _, _ => by rw [sld_nil]; simp
  | a :: xs, [], _, _ => by rw [sld_nilr]; simp
  | a :: xs, b :: ys, h1, h2 => by
    obtain ⟨p1, q1⟩ := List.pairwise_cons.mp h1
    obtain ⟨p2, q2⟩ := List.pairwise_cons.mp h2
    unfold sld
    split
    · rename_i hab
      have ih := sld_mem (x := x) q1 h2
      simp only [List.mem_cons] at ih ⊢
      rw [ih]
      constructor
      · rintro (rfl | ⟨h, h'⟩)
        · exact ⟨.inl rfl, fun q => q.elim (fun e => by omega) fun m => by have := p2 _ m; omega⟩
        · exact ⟨.inr h, h'⟩
      · rintro ⟨h | h, h'⟩
        · exact .inl h
        · exact .inr ⟨h, h'⟩
    · split
      · rename_i h3 hba
        have ih := sld_mem (x := x) h1 q2
        rw [ih]
        simp only [List.mem_cons]
        constructor
        · rintro ⟨h, h'⟩
          refine ⟨h, fun q => q.elim (fun e => ?_) h'⟩
          rcases h with e2 | h
          · omega
          · have := p1 _ h; omega
        · rintro ⟨h, h'⟩; exact ⟨h, fun m => h' (.inr m)⟩
      · rename_i h3 h4
        have e : a = b := by omega
        subst e
        rw [sld_mem (x := x) q1 q2]
        simp only [List.mem_cons]
        constructor
        · rintro ⟨h, h'⟩
          exact ⟨.inr h, fun q => q.elim (fun e => by have := p1 _ h; omega) h'⟩
        · rintro ⟨h | h, h'⟩
          · exact absurd (.inl h) h'
          · exact ⟨h, fun m => h' (.inr m)⟩
  termination_by xs ys => xs.length + ys.length
section
variable {cs : Str → Prop} {s₀ s s' : Shared} {P₀ P P' : PM} {env : Env} {ρ : List (Str × Bd)} {O : List (Addr × Ob)} {prog : Program} {w : World} {A : Around} {E : Value → Shared → Prop} {c : Value} {l : List Env}
theorem Rsd.only {e : Value} {L : List (Str × Bd)} (R : Rsd cs s₀ P₀ env ρ O c P e s) (h : onlyOk L ρ) : Rsd cs s₀ P₀ env L O c P e s :=
  let ⟨a, he, r⟩ := R; ⟨a, he, r.imp (fun S => S.only h) fun ⟨T, S⟩ => ⟨T, S.only h⟩⟩
theorem Rsd.forget {e : Value} {q : Addr × Ob} (R : Rsd cs s₀ P₀ env ρ (q :: O) c P e s) : Rsd cs s₀ P₀ env ρ O c P e s :=
  let ⟨a, he, r⟩ := R; ⟨a, he, r.imp (fun S => S.swap.drop) fun ⟨T, S⟩ => ⟨T, (S.perm (O' := q :: _ :: _ :: O) ((List.Perm.cons _ (.swap _ _ _)).trans (.swap _ _ _))).drop⟩⟩
/-- a while that asks whether the next is the same: it is not, or there is none -/
theorem St.skipWhile {value slice r : Expr} {p1 p2 pos : Pos} {body : List Stmt} {xs : List Int} {j : Nat} {v : Int} {Q : Flow → Shared → Prop} (S : St cs s₀ P₀ env ρ O s P) (H : HOk A O c) (F : Frs A env O l)
    (h1 : Ev prog w A s P (eval value env) (Ty.list Ty.int) xs) (h2 : Ev prog w A s P (eval slice env) Ty.int (j : Int)) (h3 : Ev prog w A s P (eval r env) Ty.int v)
    (hne : ∀ y, xs[j]? = some y → y ≠ v) (hj : j ≤ sizeLine) (hsz : xs.length ≤ sizeLine)
    (kq : ∀ s' P', PM.le P P' → St cs s₀ P₀ env ρ O s' P' → j < xs.length → Q .next s') (kr : ∀ e s' P', PM.le P P' → xs.length ≤ j → Rsd cs s₀ P₀ env ρ O c P' e s' → E e s')
    (hs : ∀ v i t, subscripted slice false v (.int i t) = operate [v, .int i t] (getItem v (.int i t)) := by intro _ _ _; with_unfolding_all rfl) (hm : behindInMarks .Eq r = false := by with_unfolding_all rfl) :
    wpAny (model prog w) A (exec (.While (.Compare (.Subscript value slice p1) [.Eq] [r] p2) body [] pos) env) Q E s := by
  refine wpAny_While (codeAny_whileLoop (fun n s' => s' = s) ?_ 0 rfl)
  rintro n s' rfl
  by_cases hlt : j < xs.length
  · refine EvB.use (b := false) ?_ S.sub fun s2 P2 e2 => ?_
    · refine EvB.to ?_ (EvB.eqI (x := xs[j]) (y := v) (Ev.item (k := (j : Int)) h1 h2 (by omega) (by rw [Int.toNat_natCast]; exact List.getElem?_eq_getElem hlt) hsz (fun v t => hs v _ t)) h3 hm)
      exact decide_eq_false (hne _ (List.getElem?_eq_getElem hlt))
    · rw [if_neg (by decide)]
      exact wpAny_execs_nil (kq s2 P2 e2.le (S.go e2) hlt)
  · refine wpAny_isTrue_Compare1 (S.subOut H h1 h2 (by omega) hj (fun e s2 P2 l2 R => ?_) hs) hm
    exact R.pass F fun s3 R3 => kr e s3 P2 l2 (by omega) R3
end
end VS

end PartX6

noncomputable section PartX7
namespace VS
open PySem PySem.Calls PySem.W PyProof.Rows
theorem ie_exc : isSubtype (.type "IndexError") (.type "BaseException") = pure true := by rw [isSubtype_type]; kernel_rfl
theorem ie_tup : isSubtype (.type ((Manifest.find? "IndexError").elim "type" fun x => x.metatype)) (.type "tuple") = pure false := by rw [find?_eq_fast, isSubtype_type]; kernel_rfl
theorem ie_self : isSubtype (.type "IndexError") (.type "IndexError") = pure true := by rw [isSubtype_type]; kernel_rfl
section
variable {cs : Str → Prop} {s₀ s s' : Shared} {P₀ P P' : PM} {env : Env} {ρ : List (Str × Bd)} {O : List (Addr × Ob)}
abbrev St.en (S : St cs s₀ P₀ env ρ O s P) : Env := env
end
section
variable {cs : Str → Prop} {s₀ s s' : Shared} {P₀ P P' : PM} {env : Env} {ρ : List (Str × Bd)} {O : List (Addr × Ob)} {prog : Program} {w : World} {A : Around} {E : Value → Shared → Prop}
theorem op_iadd_int {x y : Int} {t u : Tok} (h : Sub P s) : Op prog w A s P (inplaceOp .Add (.int x t) (.int y u)) Ty.int (x + y) := PySem.AutoIntOps.iadd_0 ⟨P, .toks h, _, rfl⟩
theorem St.incr {n : Str} {np pos : Pos} {value : Expr} {x y : Int} {k : NameKind} {Q : Flow → Shared → Prop} (S : St cs s₀ P₀ env ρ O s P) (hb : ρ.lookup n = some (Ty.int.at x)) (hkn : env.kindOf n = some k) (h : Ev prog w A s P (eval value env) Ty.int y)
    (hk : Storable cs env n) (kq : ∀ s' P', PM.le P P' → St cs s₀ P₀ env ((n, Ty.int.at (x + y)) :: ρ) O s' P' → Q .next s')
    (hk' : k = .local ∨ k = .cell ∨ k = .free := by decide) (hn : (n == ("__classdict__" : Str)) = false := by decide) : wpAny (model prog w) A (exec (.AugAssign (.Name n np) .Add value pos) env) Q E s :=
  S.augAssign hb hkn h (fun s1 P1 a b e ⟨t, ra⟩ ⟨u, rb⟩ => by subst ra; subst rb; exact op_iadd_int e.sub) hk kq hk' hn
theorem rise_next {xs : List Int} (h : xs.Pairwise (· < ·)) {i : Nat} (hi : i < xs.length) : ∀ y, xs[i + 1]? = some y → y ≠ xs[i] := fun y e q => by
  obtain ⟨h2, h3⟩ := List.getElem?_eq_some_iff.mp e
  have := List.pairwise_iff_getElem.mp h i (i + 1) hi h2 (by omega)
  omega
end
section
variable (xs ys : List Int) (D1 D2 : Addr) (D : List (Addr × Ob)) (s₀ : Shared) (P₀ : PM) (env : Env)
abbrev sldN (i j : Nat) : List (Str × Bd) := [("i", Ty.int.at (i : Int)), ("j", Ty.int.at (j : Int)), ("missing", Ty.raw.at (.ref D1)), ("unexpected", Ty.raw.at (.ref D2)), ("expected", (Ty.list Ty.int).at xs), ("actual", (Ty.list Ty.int).at ys)]
abbrev sldO (ms us : List Int) : List (Addr × Ob) := (D1, Ob.list Ty.int ms) :: (D2, Ob.list Ty.int us) :: D
/-- between two turns -/
def SldI (n : Nat) (s : Shared) : Prop := ∃ i j ms us P, n = (xs.length - i) + (ys.length - j) ∧ i ≤ xs.length ∧ j ≤ ys.length ∧ ms ++ (sld (xs.drop i) (ys.drop j)).1 = (sld xs ys).1 ∧ us ++ (sld (xs.drop i) (ys.drop j)).2 = (sld xs ys).2 ∧
  St (fun _ => True) s₀ P₀ env (sldN xs ys D1 D2 i j) (sldO D1 D2 D ms us) s P
/-- at an exception -/
def SldR (e : Value) (s : Shared) : Prop := ∃ i j ms us P c, i ≤ xs.length ∧ j ≤ ys.length ∧ ms ++ xs.drop i = (sld xs ys).1 ∧ us ++ ys.drop j = (sld xs ys).2 ∧
  Rsd (fun _ => True) s₀ P₀ env (sldN xs ys D1 D2 i j) (sldO D1 D2 D ms us) c P e s
/-- at the end -/
def SldF (s : Shared) : Prop := ∃ P, St (fun _ => True) s₀ P₀ env [("missing", Ty.raw.at (.ref D1)), ("unexpected", Ty.raw.at (.ref D2))] (sldO D1 D2 D (sld xs ys).1 (sld xs ys).2) s P
end
section
variable {prog : Program} {w : World} {lo : List Str} {p : Program} {mg mb : Str → Option Value} {P : PM}
theorem spec_sld {v1 v2 : Value} {xs ys : List Int} (hx : xs.Pairwise (· < ·)) (hy : ys.Pairwise (· < ·)) (hlx : xs.length ≤ 1000) (hly : ys.length ≤ 1000) (r1 : (Ty.list Ty.int).rel P v1 xs) (r2 : (Ty.list Ty.int).rel P v2 ys) :
    ReturnsF prog w (KF w.params) p lo mg mb 3 (.ref 141) [v1, v2] P (Ty.pair (Ty.list Ty.int) (Ty.list Ty.int)) (sld xs ys) := by
  refine Returns.defF (ρ := [("expected", (Ty.list Ty.int).at xs), ("actual", (Ty.list Ty.int).at ys)]) rfl rfl rfl rfl _ rfl (.cons r1 (.cons r2 .nil)) rfl rfl rfl ?_
  intro A s₀ P₀ s L l D R F W S
  have hs : sizeLine = 16777216 := rfl
  refine wpAny_execs_cons (wpAny_Assign_two ((Ev.cInt (env := S.en) (c := 0)).use S.sub fun v s1 P1 e1 r1 => wpAny_mono (Asg.name (b := Ty.int.at 0) r1 (.inl rfl) _ _ _ _ _ _ (S.go e1)) (fun _ s2 S2 => wpAny_mono (Asg.name (b := Ty.int.at 0) r1 (.inl rfl) _ _ _ _ _ _ S2) (fun _ s3 S3 => ?_) fun _ _ h => h) fun _ _ h => h))
  refine S3.ownDisplay (τ := Ty.int) (xs := []) EvL.nil (fun P1 vs e => by cases e; exact .nil) (by decide) (.inl rfl) fun D1 s4 P4 l4 S4 => ?_
  refine S4.ownDisplay (τ := Ty.int) (xs := []) EvL.nil (fun P1 vs e => by cases e; exact .nil) (by decide) (.inl rfl) fun D2 s5 P5 l5 S5 => ?_
  have S6 := (S5.swap.only (L := sldN xs ys D1 D2 0 0) ⟨rfl, rfl, rfl, rfl, rfl, rfl, trivial⟩)
  refine wpAny_execs_cons (wpAny_mono (Q := fun f s' => f = .next ∧ SldF xs ys D1 D2 D s₀ P₀ S.en s') (E := fun _ _ => False) (wpAny_While (codeAny_whileLoop (SldI xs ys D1 D2 D s₀ P₀ S.en) ?turn _ ⟨0, 0, [], [], P5, rfl, Nat.zero_le _, Nat.zero_le _, rfl, rfl, S6⟩)) ?fin fun _ _ h => h)
  case fin =>
    rintro f s7 ⟨rfl, P7, S7⟩
    obtain ⟨o1, r1, S8, l8⟩ := S7.freeze
    have q1 := Ob.listFin P7 o1 D1 r1 S7.obj.choose_spec.2.2
    obtain ⟨o2, r2, S9, l9⟩ := S8.freeze
    have q2 := Ob.listFin _ o2 D2 r2 S8.obj.choose_spec.2.2
    have q1' := (Ty.list Ty.int).mono l9 q1
    refine wpAny_execs_cons (S9.retE (Ev.tup2 ((Ev.name (τ := Ty.raw) S9.fs rfl rfl).rawTo q1') ((Ev.name (τ := Ty.raw) S9.fs rfl rfl).rawTo q2)) fun v s' P' l' S' r' => ?_)
    exact ⟨v, P', _, _, rfl, S', fun _ h => h, r'⟩
  case turn =>
    rintro n s7 ⟨i, j, ms, us, P7, hn, hi, hj, h1, h2, S7⟩
    refine EvB.use (b := true) (EvB.bool Ev.cBool) S7.sub fun s8 P8 e8 => ?_
    rw [if_pos rfl]
    have S8 := S7.go e8
    refine wpAny_execs_cons (wpAny_Try_except (wpAny_mono (Q := fun f s' => f = .next ∧ ∃ m, m < n ∧ SldI xs ys D1 D2 D s₀ P₀ S.en m s') (E := SldR xs ys D1 D2 D s₀ P₀ S.en) ?body ?next ?raise))
    case next =>
      rintro f s9 ⟨rfl, h⟩
      exact execs_nil' (execs_nil' h)
    case raise =>
      rintro e s9 ⟨i, j, ms, us, P9, c, hi, hj, h1, h2, R9⟩
      have hl1 := congrArg List.length h1
      have hl2 := congrArg List.length h2
      rw [List.length_append, List.length_drop] at hl1 hl2
      have hb := sld_len xs ys
      refine R9.land (F.sub fun q hq => .tail _ (.tail _ hq)) fun a T s10 he S10 => ?_
      subst he
      refine wpAny_handleBy_builtin ie_exc ie_tup ie_self ?_
      refine (Ev.built (A := A.mark (some (.ref a))) (S10.wd W) rfl b_IndexError rfl rfl rfl rfl).use S10.sub fun v s11 P11 e11 r11 => ?_
      cases r11
      have S11 := S10.go e11
      obtain ⟨oe, hoe, ⟨hce, _⟩, _⟩ := S11.swap.obj
      refine ⟨rfl, ⟨oe, hoe, hce⟩, ?_⟩
      rw [if_pos rfl]
      refine S11.flight (f := none) fun s12 S12 => ?_
      have S13 := S12.drop.drop
      refine wpAny_execs_cons (wpAny_Expr_any (S13.extend' (Ev.name S13.fs rfl rfl) (fun sa Pa la Sa => Ev.drop (n := i) (Ev.name Sa.fs rfl rfl) (Ev.name Sa.fs rfl rfl) (by omega)) (by rw [List.length_drop]; omega) fun s14 P14 l14 S14 => ?_))
      refine wpAny_execs_cons (wpAny_Expr_any (S14.swap.extend' (Ev.name S14.fs rfl rfl) (fun sa Pa la Sa => Ev.drop (n := j) (Ev.name Sa.fs rfl rfl) (Ev.name Sa.fs rfl rfl) (by omega)) (by rw [List.length_drop]; omega) fun s15 P15 l15 S15 => ?_))
      rw [h1, h2] at S15
      exact wpAny_execs_cons (wpAny_Break ⟨rfl, P15, S15.swap.only ⟨rfl, rfl, trivial⟩⟩)
    case body =>
      have Fo : ∀ {O'}, (∀ q ∈ D, q ∈ O') → Frs A S.en O' l := fun h => F.sub h
      have mem2 : ∀ {ms us}, ∀ q ∈ D, q ∈ sldO D1 D2 D ms us := fun q hq => .tail _ (.tail _ hq)
      have hA : ∀ {O' : List (Addr × Ob)}, HOk A O' .none := fun {O'} => .inl ⟨R.handled, rfl⟩
      have hb := sld_len xs ys
      have hl1 := congrArg List.length h1
      have hl2 := congrArg List.length h2
      rw [List.length_append] at hl1 hl2
      by_cases hi' : i < xs.length
      case neg =>
        have hd : xs.drop i = [] := List.drop_of_length_le (by omega)
        rw [hd, sld_nil] at h1 h2
        refine wpAny_execs_cons (wpAny_Assign_Name (S8.subOut hA (Ev.name S8.fs rfl rfl) (Ev.name S8.fs rfl rfl) (by omega) (by omega) fun e s9 P9 l9 R9 => ?_))
        exact ⟨i, j, ms, us, P9, _, hi, hj, by rw [hd]; exact h1, h2, R9⟩
      case pos =>
      refine S8.assigns (Ev.item (k := (i : Int)) (x := xs[i]) (Ev.name S8.fs rfl rfl) (Ev.name S8.fs rfl rfl) (by omega) (by rw [Int.toNat_natCast]; exact List.getElem?_eq_getElem hi') (by omega)) (.inl rfl) fun s9 P9 l9 S9 => ?_
      by_cases hj' : j < ys.length
      case neg =>
        have hd : ys.drop j = [] := List.drop_of_length_le (by omega)
        rw [hd, sld_nilr] at h1 h2
        refine wpAny_execs_cons (wpAny_Assign_Name (S9.subOut hA (Ev.name S9.fs rfl rfl) (Ev.name S9.fs rfl rfl) (by omega) (by omega) fun e s9 P9 l9 R9 => ?_))
        exact ⟨i, j, ms, us, P9, _, hi, hj, h1, by rw [hd]; exact h2, R9.only ⟨rfl, rfl, rfl, rfl, rfl, rfl, trivial⟩⟩
      case pos =>
      refine S9.assigns (Ev.item (k := (j : Int)) (x := ys[j]) (Ev.name S9.fs rfl rfl) (Ev.name S9.fs rfl rfl) (by omega) (by rw [Int.toNat_natCast]; exact List.getElem?_eq_getElem hj') (by omega)) (.inl rfl) fun s10 P10 l10 S10 => ?_
      have hxd : xs.drop i = xs[i] :: xs.drop (i + 1) := List.drop_eq_getElem_cons hi'
      have hyd : ys.drop j = ys[j] :: ys.drop (j + 1) := List.drop_eq_getElem_cons hj'
      rw [hxd, hyd] at h1 h2
      rw [sld_cons] at h1 h2
      refine S10.ifs (b := decide (xs[i] < ys[j])) (EvB.ltI (Ev.name S10.fs rfl rfl) (Ev.name S10.fs rfl rfl)) ?_ ?_
      · intro hq s11 P11 l11 S11
        have hlt : xs[i] < ys[j] := of_decide_eq_true hq
        rw [if_pos hlt] at h1 h2
        refine wpAny_execs_cons (wpAny_Expr_any (S11.append' (x := xs[i]) (Ev.name S11.fs rfl rfl) (fun sa Pa la Sa => Ev.name Sa.fs rfl rfl) (by omega) fun s12 P12 l12 S12 => ?_))
        refine wpAny_execs_cons (S12.incr rfl rfl Ev.cInt (.inl rfl) fun s13 P13 l13 S13 => ?_)
        have S13' := S13.only (L := ("e", Ty.int.at xs[i]) :: sldN xs ys D1 D2 (i + 1) j) ⟨rfl, rfl, rfl, rfl, rfl, rfl, rfl, trivial⟩
        refine wpAny_execs_cons (S13'.skipWhile hA (Fo mem2) (Ev.name S13'.fs rfl rfl) (Ev.name S13'.fs rfl rfl) (Ev.name S13'.fs rfl rfl) (rise_next hx hi') (by omega) (by omega) (fun s14 P14 l14 S14 _ => ?_) fun e s14 P14 l14 hge R14 => ?_)
        · exact execs_nil' (execs_nil' ⟨rfl, (xs.length - (i + 1)) + (ys.length - j), by omega, i + 1, j, ms ++ [xs[i]], us, P14, rfl, hi', hj, by rw [hyd, List.append_assoc]; exact h1, by rw [hyd]; exact h2, S14.only ⟨rfl, rfl, rfl, rfl, rfl, rfl, trivial⟩⟩)
        · have hd : xs.drop (i + 1) = [] := List.drop_of_length_le hge
          rw [hd, sld_nil] at h1 h2
          exact ⟨i + 1, j, ms ++ [xs[i]], us, P14, _, hi', hj, by rw [hd, List.append_nil]; exact h1, by rw [hyd]; exact h2, R14.only ⟨rfl, rfl, rfl, rfl, rfl, rfl, trivial⟩⟩
      · intro hq s11 P11 l11 S11
        have hge : ¬ xs[i] < ys[j] := of_decide_eq_false hq
        rw [if_neg hge] at h1 h2
        refine S11.ifs (b := decide (ys[j] < xs[i])) (EvB.gtI (Ev.name S11.fs rfl rfl) (Ev.name S11.fs rfl rfl)) ?_ ?_
        · intro hq2 s12 P12 l12 S12
          have hlt : ys[j] < xs[i] := of_decide_eq_true hq2
          rw [if_pos hlt] at h1 h2
          refine wpAny_execs_cons (wpAny_Expr_any (S12.swap.append' (x := ys[j]) (Ev.name S12.fs rfl rfl) (fun sa Pa la Sa => Ev.name Sa.fs rfl rfl) (by omega) fun s13 P13 l13 S13 => ?_))
          refine wpAny_execs_cons (S13.swap.incr rfl rfl Ev.cInt (.inl rfl) fun s14 P14 l14 S14 => ?_)
          have S14' := S14.only (L := ("a", Ty.int.at ys[j]) :: sldN xs ys D1 D2 i (j + 1)) ⟨rfl, rfl, rfl, rfl, rfl, rfl, rfl, trivial⟩
          refine wpAny_execs_cons (S14'.skipWhile hA (Fo mem2) (Ev.name S14'.fs rfl rfl) (Ev.name S14'.fs rfl rfl) (Ev.name S14'.fs rfl rfl) (rise_next hy hj') (by omega) (by omega) (fun s15 P15 l15 S15 _ => ?_) fun e s15 P15 l15 hge R15 => ?_)
          · exact execs_nil' (execs_nil' (execs_nil' ⟨rfl, (xs.length - i) + (ys.length - (j + 1)), by omega, i, j + 1, ms, us ++ [ys[j]], P15, rfl, hi, hj', by rw [hxd]; exact h1, by rw [hxd, List.append_assoc]; exact h2, S15.only ⟨rfl, rfl, rfl, rfl, rfl, rfl, trivial⟩⟩))
          · have hd : ys.drop (j + 1) = [] := List.drop_of_length_le hge
            rw [hd, sld_nilr] at h1 h2
            exact ⟨i, j + 1, ms, us ++ [ys[j]], P15, _, hi, hj', by rw [hxd]; exact h1, by rw [hd, List.append_nil]; exact h2, R15.only ⟨rfl, rfl, rfl, rfl, rfl, rfl, trivial⟩⟩
        · intro hq2 s12 P12 l12 S12
          have hge2 : ¬ ys[j] < xs[i] := of_decide_eq_false hq2
          rw [if_neg hge2] at h1 h2
          have hxy : xs[i] = ys[j] := by omega
          refine wpAny_execs_cons (S12.incr rfl rfl Ev.cInt (.inl rfl) fun s13 P13 l13 S13 => ?_)
          have S13' := S13.only (L := ("a", Ty.int.at ys[j]) :: ("e", Ty.int.at xs[i]) :: sldN xs ys D1 D2 (i + 1) j) ⟨rfl, rfl, rfl, rfl, rfl, rfl, rfl, rfl, trivial⟩
          refine wpAny_execs_cons (wpAny_Try_finally (wpAny_execs_cons (S13'.skipWhile hA (Fo mem2) (Ev.name S13'.fs rfl rfl) (Ev.name S13'.fs rfl rfl) (Ev.name S13'.fs rfl rfl) (rise_next hx hi') (by omega) (by omega) (fun s14 P14 l14 S14 _ => ?_) fun e s14 P14 l14 hge R14 => ?_)))
          · refine execs_nil' (execs_nil' (wpAny_execs_cons (S14.incr rfl rfl Ev.cInt (.inl rfl) fun s15 P15 l15 S15 => ?_)))
            have S15' := S15.only (L := ("a", Ty.int.at ys[j]) :: sldN xs ys D1 D2 (i + 1) (j + 1)) ⟨rfl, rfl, rfl, rfl, rfl, rfl, rfl, trivial⟩
            refine wpAny_execs_cons (S15'.skipWhile hA (Fo mem2) (Ev.name S15'.fs rfl rfl) (Ev.name S15'.fs rfl rfl) (Ev.name S15'.fs rfl rfl) (rise_next hy hj') (by omega) (by omega) (fun s16 P16 l16 S16 _ => ?_) fun e s16 P16 l16 hge R16 => ?_)
            · exact execs_nil' (execs_nil' (execs_nil' (execs_nil' ⟨rfl, (xs.length - (i + 1)) + (ys.length - (j + 1)), by omega, i + 1, j + 1, ms, us, P16, rfl, hi', hj', h1, h2, S16.only ⟨rfl, rfl, rfl, rfl, rfl, rfl, trivial⟩⟩)))
            · refine R16.pass (Fo mem2) fun s17 R17 => ?_
              have hd : ys.drop (j + 1) = [] := List.drop_of_length_le hge
              rw [hd, sld_nilr] at h1 h2
              exact ⟨i + 1, j + 1, ms, us, P16, _, hi', hj', h1, by rw [hd]; exact h2, R17.only ⟨rfl, rfl, rfl, rfl, rfl, rfl, trivial⟩⟩
          · have hd : xs.drop (i + 1) = [] := List.drop_of_length_le hge
            rw [hd, sld_nil] at h1 h2
            refine R14.note (Fo mem2) fun a T s15 he S15 => ?_
            subst he
            refine ⟨ref_ne_byPass _, S15.noteAgain rfl (S15.flight (f := none) fun s16 S16 => ?_)⟩
            refine wpAny_execs_cons (S16.incr rfl rfl Ev.cInt (.inl rfl) fun s17 P17 l17 S17 => ?_)
            have S17' := S17.only (L := ("a", Ty.int.at ys[j]) :: sldN xs ys D1 D2 (i + 1) (j + 1)) ⟨rfl, rfl, rfl, rfl, rfl, rfl, rfl, trivial⟩
            refine wpAny_execs_cons (S17'.skipWhile (A := A.mark (some (.ref a))) (c := .ref a) (.inr ⟨a, .ref T, rfl, .tail _ (.head _), rfl⟩) (Frs.mark (Fo fun q hq => .tail _ (.tail _ (mem2 q hq)))) (Ev.name S17'.fs rfl rfl) (Ev.name S17'.fs rfl rfl) (Ev.name S17'.fs rfl rfl) (rise_next hy hj') (by omega) (by omega) (fun s18 P18 l18 S18 _ => ?_) fun e s18 P18 l18 hge2 R18 => ?_)
            · refine execs_nil' (S18.passOn (Fo mem2) fun s19 R19 => ?_)
              exact ⟨i + 1, j + 1, ms, us, P18, _, hi', hj', by rw [hd]; exact h1, h2, R19.only ⟨rfl, rfl, rfl, rfl, rfl, rfl, trivial⟩⟩
            · refine R18.pass (Frs.mark (Fo fun q hq => .tail _ (.tail _ (mem2 q hq)))) fun s19 R19 => ?_
              exact ⟨i + 1, j + 1, ms, us, P18, _, hi', hj', by rw [hd]; exact h1, h2, (R19.forget.forget).only ⟨rfl, rfl, rfl, rfl, rfl, rfl, trivial⟩⟩
end
end VS

end PartX7

noncomputable section PartX8
namespace VS
open PySem PySem.Calls PySem.W PyProof.Rows
/-! lists of which no more is known than what they hold -/
def Ty.listW {α : Type} (τ : Ty α) : Ty (List α) := ⟨fun P v xs => ∃ a o vs n, v = .ref a ∧ P a = some o ∧ o.cls = .type "list" ∧ o.data = .seq (List.toArray vs) n ∧ Paired (τ.rel P) vs xs,
  fun h ⟨a, o, vs, n, e, p, c, d, r⟩ => ⟨a, o, vs, n, e, h _ _ p, c, d, pImp (fun _ _ => τ.mono h) r⟩⟩
def Ob.listW {α : Type} (τ : Ty α) (xs : List α) : Ob := ⟨fun P o => o.cls = .type "list" ∧ ∃ vs n, o.data = .seq (List.toArray vs) n ∧ Paired (τ.rel P) vs xs, fun h ⟨c, vs, n, d, r⟩ => ⟨c, vs, n, d, pImp (fun _ _ => τ.mono h) r⟩⟩
theorem Ob.listWFin {α : Type} {τ : Ty α} {P : PM} {o : Obj} {D : Addr} {xs : List α} (r : (Ob.listW τ xs).rel P o) (hP : P D = none) : (Ty.listW τ).rel (P.put D o) (.ref D) xs :=
  let ⟨c, vs, n, d, p⟩ := r; ⟨D, o, vs, n, rfl, PM.put_self, c, d, pImp (fun _ _ => τ.mono (PM.le_put hP)) p⟩
theorem pSet {α β : Type} {F : α → β → Prop} : ∀ {l : List α} {k : List β} (i : Nat) {a : α} {b : β}, Paired F l k → F a b → Paired F (l.set i a) (k.set i b)
  | _, _, _, _, _, .nil, _ => .nil
  | _, _, 0, _, _, .cons _ r, h => .cons h r
  | _, _, i + 1, _, _, .cons g r, h => .cons g (pSet i r h)
section
variable {cs : Str → Prop} {s₀ s s' : Shared} {P₀ P P' : PM} {env : Env} {ρ : List (Str × Bd)} {O : List (Addr × Ob)} {prog : Program} {w : World} {A : Around} {E : Value → Shared → Prop} {α β : Type} {τ : Ty α} {x : α}
theorem op_itemW {value slice : Expr} {v : Value} {xs : List α} {k : Int} {t : Tok} (h : Sub P s) (r : (Ty.listW τ).rel P v xs) (h0 : 0 ≤ k) (hk : xs[k.toNat]? = some x) (hsz : xs.length ≤ sizeLine)
    (hs : subscripted slice false v (.int k t) = operate [v, .int k t] (getItem v (.int k t)) := by with_unfolding_all rfl) : Op prog w A s P (subscriptTail value slice v (.int k t)) τ x := by
  obtain ⟨a, o, vs, n, rfl, hp, hc, hd, pr⟩ := r
  obtain ⟨y, hy, ry⟩ := pGet pr hk
  have L : s.heap.IsList a vs.toArray := ⟨o, h _ _ hp, hc, n, hd⟩
  have hlt : k.toNat < xs.length := (List.getElem?_eq_some_iff.mp hk).1
  exact tail_any L.typeIs slot_list_getitem.lookup (wpAny_getItem_list L h0 (by have : sizeLine = 16777216 := rfl; omega) (by simpa using hy) ⟨P, .refl h, ry⟩) hs
theorem Ev.itemW {value slice : Expr} {pos : Pos} {xs : List α} {k : Int} (h : Ev prog w A s P (eval value env) (Ty.listW τ) xs) (h2 : Ev prog w A s P (eval slice env) Ty.int k) (h0 : 0 ≤ k) (hk : xs[k.toNat]? = some x) (hsz : xs.length ≤ sizeLine)
    (hs : ∀ v t, subscripted slice false v (.int k t) = operate [v, .int k t] (getItem v (.int k t)) := by intro _ _; with_unfolding_all rfl) : Ev prog w A s P (eval (.Subscript value slice pos) env) τ x :=
  Ev.sub h h2 fun s1 P1 a b e ra ⟨t, rb⟩ => by subst rb; exact op_itemW e.sub ra h0 hk hsz (hs _ _)
theorem Ev.takeW {value : Expr} {p pos : Pos} {xs : List α} {U : Expr} {n : Nat} (h : Ev prog w A s P (eval value env) (Ty.listW τ) xs) (h2 : Ev prog w A s P (eval U env) Ty.int (n : Int)) (hsz : xs.length ≤ sizeLine) :
    Ev prog w A s P (eval (.Subscript value (.Slice none (some U) none p) pos) env) (Ty.list τ) (xs.take n) :=
  Ev.sub h (Ev.slice EvP.none (EvP.some h2)) fun s1 P1 a b e ⟨q, o, vs, m, hv, hp, hc, hd, pr⟩ ⟨c, oc, vl, vu, hb, hp2, hc2, hd2, h1, h2⟩ => by
    subst hv; subst hb
    have I : s1.heap.IsList q vs.toArray := ⟨o, e.sub _ _ hp, hc, m, hd⟩
    refine tail_any I.typeIs slot_list_getitem.lookup (get_slice_list (xs := xs) (v := .none) e.sub I (by rw [pr.length]; exact hsz) (e.sub _ _ hp2) hc2 hd2 h1 h2 ?_) sub_slice
    rw [slicePick_upto']
    simpa using pTake pr n
theorem Ev.dropW {value : Expr} {p pos : Pos} {xs : List α} {L : Expr} {n : Nat} (h : Ev prog w A s P (eval value env) (Ty.listW τ) xs) (h2 : Ev prog w A s P (eval L env) Ty.int (n : Int)) (hsz : xs.length ≤ sizeLine) :
    Ev prog w A s P (eval (.Subscript value (.Slice (some L) none none p) pos) env) (Ty.list τ) (xs.drop n) :=
  Ev.sub h (Ev.slice (EvP.some h2) EvP.none) fun s1 P1 a b e ⟨q, o, vs, m, hv, hp, hc, hd, pr⟩ ⟨c, oc, vl, vu, hb, hp2, hc2, hd2, h1, h2⟩ => by
    subst hv; subst hb
    have I : s1.heap.IsList q vs.toArray := ⟨o, e.sub _ _ hp, hc, m, hd⟩
    refine tail_any I.typeIs slot_list_getitem.lookup (get_slice_list (xs := xs) (v := .none) e.sub I (by rw [pr.length]; exact hsz) (e.sub _ _ hp2) hc2 hd2 h1 h2 ?_) sub_slice
    rw [slicePick_from']
    simpa using pDrop pr n
/-- an item of an own list of ints is added to -/
theorem St.augItem {D : Addr} {xs : List Int} {o i value : Expr} {tpos pos : Pos} {j : Nat} {y : Int} {Q : Flow → Shared → Prop} (S : St cs s₀ P₀ env ρ ((D, Ob.listW Ty.int xs) :: O) s P)
    (ho : Ev prog w A s P (eval o env) Ty.raw (.ref D)) (h1 : Ev prog w A s P (eval i env) Ty.int (j : Int)) (h2 : Ev prog w A s P (eval value env) Ty.int y) (hj : j < xs.length) (hsz : xs.length ≤ sizeLine)
    (k : ∀ s' P', PM.le P P' → St cs s₀ P₀ env ρ ((D, Ob.listW Ty.int (xs.set j (xs[j] + y))) :: O) s' P' → Q .next s')
    (hi : ∀ ov iv new, augStore i ov iv new = (do holding [new, ov, iv] (setItem ov iv new); release [new, ov, iv] []; pure .next) := by intros; rfl) :
    wpAny (model prog w) A (exec (.AugAssign (.Subscript o i tpos) .Add value pos) env) Q E s := by
  have hs : sizeLine = 16777216 := rfl
  refine wpAny_AugAssign_SubscriptAny (ho.use S.sub fun v s1 P1 e1 r1 => (h1.mono e1).use e1.sub fun iv s2 P2 e2 r2 => ?_) hi
  cases r1
  obtain ⟨t, rfl⟩ := r2
  have S2 := S.go (e1.trans e2)
  obtain ⟨ob, hob, ⟨hc, vs, n, hd, pr⟩, hP⟩ := S2.obj
  obtain ⟨a, ha, tq, rfl⟩ := pGet pr (List.getElem?_eq_getElem hj)
  refine wpAny_getItem_list ⟨ob, hob, hc, n, hd⟩ (by omega) (by omega) (by simpa using ha) ?_
  refine ((h2.mono e1).mono e2).use e2.sub fun u s3 P3 e3 ru => ?_
  obtain ⟨t2, rfl⟩ := ru
  have S3 := S2.go e3
  obtain ⟨ob3, hob3, ⟨hc3, vs3, n3, hd3, pr3⟩, hP3⟩ := S3.obj
  refine (op_iadd_int (P := P3) S3.sub).use fun v4 s4 P4 e4 r4 => ?_
  obtain ⟨t4, rfl⟩ := r4
  have S4 := S3.go e4
  obtain ⟨ob4, hob4, ⟨hc4, vs4, n4, hd4, pr4⟩, hP4⟩ := S4.obj
  have hl4 := pr4.length
  refine wpAny_setItem_list ⟨ob4, hob4, hc4, n4, hd4⟩ (by omega) (by omega) (by simp only [List.size_toArray]; omega) fun h' ⟨o', ho', hc', n', hd'⟩ sb => ?_
  refine k _ P4 ((((e1.trans e2).trans e3).trans e4).le) (S4.change (tk := s4.toks) ho' ⟨hc', vs4.set j (.int (xs[j] + y) t4), n', ?_, pSet j pr4 ⟨_, rfl⟩⟩ fun c o hne e => (sb.2 c hne).trans e)
  rw [hd']
  simp
end
end VS

end PartX8

noncomputable section PartX9
namespace VS
open PySem PySem.Calls PySem.W PyProof.Rows
section
variable {cs : Str → Prop} {s₀ s s' s1 : Shared} {P₀ P P' P1 : PM} {env : Env} {ρ : List (Str × Bd)} {O : List (Addr × Ob)} {prog : Program} {w : World} {A : Around} {E : Value → Shared → Prop} {α β γ : Type} {τ : Ty α} {σ : Ty β} {υ : Ty γ} {x : α} {y : β} {z : γ} {l : List Env} {K : Frag} {p : Program} {lo : List Str} {mg mb : Str → Option Value} {n : Nat}
/-- a call that may look at the frames, made in a call -/
theorem St.callF {f : Value} {vs : List Value} {Q : Value → Shared → Prop} (S : St cs s₀ P₀ env ρ O s P) (F : Frs A env O l) (W : Wd K p lo mg mb s₀.heap) (R : Room n A) (sp : ReturnsF prog w K p lo mg mb n f vs P τ x)
    (k : ∀ v s' P', PM.le P P' → St cs s₀ P₀ env ρ O s' P' → τ.rel P' v x → Q v s') : wpAny (model prog w) A (call f vs []) Q E s := by
  let as := dd ((env :: l).filterMap (·.frame))
  have hm : ∀ b ∈ as, b = env.locals ∨ ∃ o, (b, Ob.upto o) ∈ O := fun b hb => S.framesMem F.own F.ok b (mem_dd.mp hb)
  have hoff : ∀ b ∈ as, P b = none := fun b hb => S.framesOff F.own F.ok b (mem_dd.mp hb)
  have hbase : ∀ b ∈ as, s₀.heap.get? b = none := fun b hb => (hm b hb).elim (fun q => q ▸ S.newL) fun ⟨o, ho⟩ => (S.own _ ho).2.2.1
  have hthere : ∀ b ∈ as, ∃ o, s.heap.get? b = some o := fun b hb => (hm b hb).elim (fun q => by
    obtain ⟨m, hm, _⟩ := S.fs.ns
    rw [q]; exact Heap.Ns.some hm) fun ⟨o, ho⟩ => by
    obtain ⟨⟨o', ho', _⟩, _⟩ := S.own _ ho
    exact ⟨o', ho'⟩
  let D : List (Addr × Obj) := as.map fun b => (b, (s.heap.get? b).getD default)
  have hD1 : D.map (·.1) = as := by show (as.map _).map _ = as; rw [List.map_map]; exact List.map_id' _
  have hD : ∀ q ∈ D, s.heap.get? q.1 = some q.2 ∧ P q.1 = none := fun q hq => by
    obtain ⟨b, hb, rfl⟩ := List.mem_map.mp hq
    obtain ⟨o, ho⟩ := hthere b hb
    exact ⟨by show s.heap.get? b = some ((s.heap.get? b).getD default); rw [ho]; rfl, hoff b hb⟩
  have hfr : FrAt D (env :: l) := by
    have ff := S.frames F.own F.ok
    have key : ∀ (l' : List Env), s.heap.FunFrames default l' → (∀ en ∈ l', ∀ L, en.frame = some L → L ∈ as) → FrAt D l' := by
      intro l'
      induction l' with
      | nil => intro _ _ en hen; cases hen
      | cons e r ih =>
        rintro ⟨hk, ⟨L, o, hf, _, ho, hd⟩, hr⟩ hin en hen
        rcases List.mem_cons.mp hen with rfl | hen
        · refine ⟨hk, L, o, hf, List.mem_map.mpr ⟨L, hin _ (.head _) L hf, ?_⟩, hd⟩
          rw [ho]; rfl
        · exact ih hr (fun en h => hin en (.tail _ h)) en hen
    exact key _ ff fun en hen L hL => mem_dd.mpr (List.mem_filterMap.mpr ⟨en, hen, hL⟩)
  have W' : Wd K p lo mg mb (hideAll s.heap (D.map (·.1))) := W.keeps fun b o e => hideAll_get _ (S.ext.keep b o e) (by
    rw [hD1]; intro hb; rw [hbase b hb] at e; cases e)
  refine wpAny_mono (sp A s (env :: l) D R F.frames hfr hD (by rw [hD1]; exact nodup_dd _) W' S.sub) (fun v s' ⟨P', e, r⟩ => ?_) fun _ _ q => q.elim
  rw [hD1] at e
  exact k v s' P' e.le (S.shk e hm) r
theorem St.call2F {id : Str} {ip pos : Pos} {e1 e2 : Expr} {f : Addr} {oc : Value} {od : Option Addr} {fd : FuncData} {sl : Array (Option Value)} {Q : Value → Shared → Prop} (S : St cs s₀ P₀ env ρ O s P) (F : Frs A env O l) (W : Wd K p lo mg mb s₀.heap) (R : Room n A)
    (ha : Ev prog w A s P (eval e1 env) τ x) (hb : Ev prog w A s P (eval e2 env) σ y)
    (sp : ∀ P v1 v2, τ.rel P v1 x → σ.rel P v2 y → ReturnsF prog w K p lo mg mb n (.ref f) [v1, v2] P υ z)
    (k : ∀ v s' P', PM.le P P' → St cs s₀ P₀ env ρ O s' P' → υ.rel P' v z → Q v s')
    (hid : nsIn K mainGlobals id = some (some (.ref f)) := by rfl) (hf : K.lookup f = some ⟨oc, od, .func fd, sl⟩ := by rfl) (hg : env.globals = mainGlobals := by rfl) (hk : env.scope.kind = .function := by rfl) (hx : env.kindOf id = some .globalImplicit := by rfl)
    (he : starEach [e1, e2] env = (false, eval e1 env) :: starEach [e2] env := by rfl) (he2 : starEach [e2] env = (false, eval e2 env) :: starEach [] env := by rfl) (hd : (id == ("__debug__" : Str)) = false := by decide) :
    wpAny (model prog w) A (eval (.Call (.Name id ip) [e1, e2] [] pos) env) Q E s :=
  wpAny_Call_NameR ((Ev.glob (S.wd W) hid hg hk hx hd).use S.sub fun v s2 P2 x2 r => by
    cases r
    refine callWith_function (o := ⟨oc, od, .func fd, sl⟩) (fd := fd) ?_
    have q : backTo pos (starEach [e1, e2] env) = (false, eval e1 env) :: backTo pos (starEach [e2] env) := by rw [he]; rfl
    rw [q]
    refine evalArgs_plain ?_
    rw [← q]
    refine (EvL.cons ha (EvL.cons hb EvL.nil he2) he).use x2 fun vs s3 P3 x3 ⟨v, r, hv, rv, v2, r2, hv2, rv2, hr⟩ => ?_
    subst hv; subst hv2; cases hr
    have S3 := (S.go x2).go x3
    exact ⟨⟨(S3.wd W).own _ _ hf, rfl⟩, S3.callF F W R (sp P3 v v2 rv rv2) fun u s' P' l' S' r' => k u s' P' ((x2.le.trans x3.le).trans l') S' r'⟩)
theorem St.call1F {id : Str} {ip pos : Pos} {e1 : Expr} {f : Addr} {oc : Value} {od : Option Addr} {fd : FuncData} {sl : Array (Option Value)} {Q : Value → Shared → Prop} (S : St cs s₀ P₀ env ρ O s P) (F : Frs A env O l) (W : Wd K p lo mg mb s₀.heap) (R : Room n A)
    (ha : Ev prog w A s P (eval e1 env) τ x)
    (sp : ∀ P v1, τ.rel P v1 x → ReturnsF prog w K p lo mg mb n (.ref f) [v1] P υ z)
    (k : ∀ v s' P', PM.le P P' → St cs s₀ P₀ env ρ O s' P' → υ.rel P' v z → Q v s')
    (hid : nsIn K mainGlobals id = some (some (.ref f)) := by rfl) (hf : K.lookup f = some ⟨oc, od, .func fd, sl⟩ := by rfl) (hg : env.globals = mainGlobals := by rfl) (hk : env.scope.kind = .function := by rfl) (hx : env.kindOf id = some .globalImplicit := by rfl)
    (he : starEach [e1] env = (false, eval e1 env) :: starEach [] env := by rfl) (hd : (id == ("__debug__" : Str)) = false := by decide) :
    wpAny (model prog w) A (eval (.Call (.Name id ip) [e1] [] pos) env) Q E s :=
  wpAny_Call_NameR ((Ev.glob (S.wd W) hid hg hk hx hd).use S.sub fun v s2 P2 x2 r => by
    cases r
    refine callWith_function (o := ⟨oc, od, .func fd, sl⟩) (fd := fd) ?_
    have q : backTo pos (starEach [e1] env) = (false, eval e1 env) :: backTo pos (starEach [] env) := by rw [he]; rfl
    rw [q]
    refine evalArgs_plain ?_
    rw [← q]
    refine (EvL.cons ha EvL.nil he).use x2 fun vs s3 P3 x3 ⟨v, r, hv, rv, hr⟩ => ?_
    subst hv; cases hr
    have S3 := (S.go x2).go x3
    exact ⟨⟨(S3.wd W).own _ _ hf, rfl⟩, S3.callF F W R (sp P3 v rv) fun u s' P' l' S' r' => k u s' P' ((x2.le.trans x3.le).trans l') S' r'⟩)
end
end VS

end PartX9

noncomputable section PartP3
namespace VS
open PySem PyProof.Rows PySem.Spec

abbrev Copy := List Mark × List Mark × List Int
def wFork (x : Copy) (rest : List Copy) : List Copy := rest ++ [(x.1, x.2.1.map (· ++ [false]), x.2.2), (x.1, x.2.1.map (· ++ [true]), x.2.2)]
def wJoin (one two : Str) (x y : Copy) (rest : List Copy) : List Copy :=
  let km := iterJ (x.2.1 ++ y.2.1).length (canonM one two (x.1 ++ y.1), x.2.1 ++ y.2.1)
  rest ++ [(km.1, km.2, canonI (x.2.2 ++ y.2.2))]
def wUpd (i : Nat) (x : Copy) (rest : List Copy) : List Copy := rest ++ [(x.2.1, x.2.1, x.2.2 ++ [(i : Int)])]
def stepR (one two : Str) (i : Nat) (c : Nat) (cs : List Copy) : List Copy :=
  let a := c / 3 % cs.length
  let x := cs.getD a ([], [], [])
  let rest := cs.eraseIdx a
  if c % 3 = 1 ∧ rest.length < 3 then wFork x rest
  else if c % 3 = 2 ∧ rest ≠ [] then
    let b := c / 12 % rest.length
    wJoin one two x (rest.getD b ([], [], [])) (rest.eraseIdx b)
  else wUpd i x rest
def runR (one two : Str) : Nat → List Nat → List Copy → List Copy
  | _, [], cs => cs
  | i, c :: r, cs => runR one two (i + 1) r (stepR one two i c cs)
def start : List Copy := [([[]], [[]], [])]

structure RunOk (i : Nat) (cs : List Copy) : Prop where
  ne : cs ≠ []
  le4 : cs.length ≤ 4
  sz : ∃ j, 2 * j + cs.length ≤ i + 1 ∧ ∀ x ∈ cs, x.1.length ≤ 2 ^ j ∧ x.2.1.length ≤ 2 ^ j
  dep : ∀ x ∈ cs, (∀ m ∈ x.1, m.length ≤ i) ∧ ∀ m ∈ x.2.1, m.length ≤ i
  seen : ∀ x ∈ cs, x.2.2.Nodup ∧ ∀ y ∈ x.2.2, 0 ≤ y ∧ y < i

theorem pigeon : ∀ (n : Nat) (l : List Int), l.Nodup → (∀ x ∈ l, 0 ≤ x ∧ x < n) → l.length ≤ n
  | 0, [], _, _ => Nat.le_refl _
  | 0, a :: r, _, h => by have := h a (.head _); omega
  | n + 1, l, hn, h => by
    have ih := pigeon n (l.erase (n : Int)) (hn.erase _) fun x hx => by
      have h1 := List.mem_of_mem_erase hx
      have h2 : x ≠ n := fun e => by rw [e] at hx; exact (List.Nodup.not_mem_erase hn) hx
      have := h x h1
      omega
    have := List.length_erase (a := (n : Int)) (l := l)
    split at this <;> omega

theorem stepA_len {a : Mark} {km : List Mark × List Mark} (h : ∃ m ∈ km.2, m = a ++ [false]) : (stepA a km).1.length ≤ km.1.length ∧ (stepA a km).2.length ≤ km.2.length := by
  obtain ⟨m, hm, rfl⟩ := h
  unfold stepA
  dsimp only
  constructor
  · split
    · exact Nat.le_refl _
    · rename_i hq
      rw [List.length_append, List.length_singleton]
      refine Nat.succ_le_of_lt (List.length_filter_lt_length_iff_exists.mpr ?_)
      cases hf : km.1.filter fun k => [a ++ [false], a ++ [true]].contains k with
      | nil => rw [hf] at hq; exact absurd rfl hq
      | cons k r =>
        have hk : k ∈ km.1.filter fun k => [a ++ [false], a ++ [true]].contains k := by rw [hf]; exact .head _
        obtain ⟨h1, h2⟩ := List.mem_filter.mp hk
        refine ⟨k, h1, ?_⟩
        rw [List.contains_eq_mem, decide_eq_true_iff] at h2
        have h3 : ([a ++ [false], a ++ [true]] ++ [a]).contains k = true := by rw [List.contains_eq_mem, decide_eq_true_iff]; exact List.mem_append_left _ h2
        rw [h3]; decide
  · rw [List.length_append, List.length_singleton]
    refine Nat.succ_le_of_lt (List.length_filter_lt_length_iff_exists.mpr ⟨_, hm, ?_⟩)
    simp
theorem stepJ_len (km : List Mark × List Mark) : (stepJ km).1.length ≤ km.1.length ∧ (stepJ km).2.length ≤ km.2.length := by
  unfold stepJ
  split
  · exact ⟨Nat.le_refl _, Nat.le_refl _⟩
  · rename_i a r e
    obtain ⟨m, hm, h2, _⟩ := bothOf_mem (a := a) (by rw [e]; exact .head _)
    exact stepA_len ⟨m, hm, h2⟩
theorem iterJ_len (km : List Mark × List Mark) : ∀ n, (iterJ n km).1.length ≤ km.1.length ∧ (iterJ n km).2.length ≤ km.2.length
  | 0 => ⟨Nat.le_refl _, Nat.le_refl _⟩
  | n + 1 => ⟨Nat.le_trans (stepJ_len _).1 (iterJ_len km n).1, Nat.le_trans (stepJ_len _).2 (iterJ_len km n).2⟩

theorem pick_mod {α : Type} {cs : List α} (h : cs ≠ []) (c : Nat) : c % cs.length < cs.length := Nat.mod_lt _ (by cases cs <;> simp_all)
theorem getD_mem {α : Type} {cs : List α} {a : Nat} {d : α} (h : a < cs.length) : cs.getD a d ∈ cs := by
  rw [List.getD_eq_getElem?_getD, List.getElem?_eq_getElem h]; exact List.getElem_mem h
theorem erase_mem {α : Type} {cs : List α} {a : Nat} {x : α} (h : x ∈ cs.eraseIdx a) : x ∈ cs := List.mem_of_mem_eraseIdx h
theorem erase_len {α : Type} {cs : List α} {a : Nat} (h : a < cs.length) : (cs.eraseIdx a).length + 1 = cs.length := by rw [List.length_eraseIdx_of_lt h]; omega

section
variable {one two : Str} (G : Good one two)
include G
omit G in
theorem RunOk.join_sizes {i : Nat} {cs : List Copy} (h : RunOk i cs) (hi : i ≤ 8) {x y : Copy} (hx : x ∈ cs) (hy : y ∈ cs) (h2 : 2 ≤ cs.length) : (x.1 ++ y.1).length < 64 ∧ (x.2.1 ++ y.2.1).length < 64 ∧ (x.2.2 ++ y.2.2).length < 64 := by
  obtain ⟨j, hj, hs⟩ := h.sz
  have j3 : j ≤ 3 := by omega
  have p : 2 ^ j ≤ 2 ^ 3 := Nat.pow_le_pow_right (by decide) j3
  have a := hs x hx
  have b := hs y hy
  have c := pigeon i x.2.2 (h.seen x hx).1 (h.seen x hx).2
  have d := pigeon i y.2.2 (h.seen y hy).1 (h.seen y hy).2
  simp only [List.length_append]
  omega
omit G in
theorem RunOk.small {i : Nat} {cs : List Copy} (h : RunOk i cs) (hi : i ≤ 9) {x : Copy} (hx : x ∈ cs) : x.1.length ≤ 16 ∧ x.2.1.length ≤ 16 ∧ x.2.2.length ≤ 9 := by
  obtain ⟨j, hj, hs⟩ := h.sz
  have hne : cs.length ≠ 0 := by have := h.ne; cases cs <;> simp_all
  have j4 : j ≤ 4 := by omega
  have p : 2 ^ j ≤ 2 ^ 4 := Nat.pow_le_pow_right (by decide) j4
  have a := hs x hx
  have c := pigeon i x.2.2 (h.seen x hx).1 (h.seen x hx).2
  omega
theorem RunOk.step {i c : Nat} {cs : List Copy} (h : RunOk i cs) : RunOk (i + 1) (stepR one two i c cs) := by
  have ha := pick_mod h.ne (c / 3)
  unfold stepR
  dsimp only
  generalize hA : c / 3 % cs.length = a at ha
  have hx : cs.getD a ([], [], []) ∈ cs := getD_mem ha
  generalize cs.getD a ([], [], []) = x at hx
  have hl := erase_len ha
  have hsub : ∀ y ∈ cs.eraseIdx a, y ∈ cs := fun y hy => erase_mem hy
  generalize cs.eraseIdx a = rest at hl hsub
  obtain ⟨j, hj, hs⟩ := h.sz
  split
  · rename_i hq
    refine ⟨by simp [wFork], by unfold wFork; rw [List.length_append]; show rest.length + 2 ≤ 4; omega, ⟨j, by unfold wFork; rw [List.length_append]; show _ + (rest.length + 2) ≤ _; omega, fun y hy => ?_⟩, fun y hy => ?_, fun y hy => ?_⟩
    · rcases List.mem_append.mp hy with q | q
      · exact hs y (hsub y q)
      · have := hs x hx
        rcases List.mem_cons.mp q with rfl | q
        · simpa using this
        · cases List.mem_singleton.mp q; simpa using this
    · rcases List.mem_append.mp hy with q | q
      · have := h.dep y (hsub y q)
        exact ⟨fun m hm => Nat.le_succ_of_le (this.1 m hm), fun m hm => Nat.le_succ_of_le (this.2 m hm)⟩
      · have := h.dep x hx
        have key : ∀ b : Bool, ∀ m ∈ x.2.1.map (· ++ [b]), m.length ≤ i + 1 := fun b m hm => by
          obtain ⟨m', hm', rfl⟩ := List.mem_map.mp hm
          have := this.2 m' hm'
          simp; omega
        rcases List.mem_cons.mp q with rfl | q
        · exact ⟨fun m hm => Nat.le_succ_of_le (this.1 m hm), key false⟩
        · cases List.mem_singleton.mp q; exact ⟨fun m hm => Nat.le_succ_of_le (this.1 m hm), key true⟩
    · have up : ∀ z : Copy, z ∈ cs → z.2.2.Nodup ∧ ∀ y ∈ z.2.2, 0 ≤ y ∧ y < (i + 1 : Nat) := fun z hz => ⟨(h.seen z hz).1, fun v hv => by have := (h.seen z hz).2 v hv; omega⟩
      rcases List.mem_append.mp hy with q | q
      · exact up y (hsub y q)
      · rcases List.mem_cons.mp q with rfl | q
        · exact up x hx
        · cases List.mem_singleton.mp q; exact up x hx
  · split
    · rename_i hq
      have hb := pick_mod hq.2 (c / 12)
      generalize c / 12 % rest.length = b at hb
      have hy : rest.getD b ([], [], []) ∈ rest := getD_mem hb
      generalize rest.getD b ([], [], []) = y at hy
      have hl2 := erase_len hb
      have hsub2 : ∀ z ∈ rest.eraseIdx b, z ∈ cs := fun z hz => hsub z (erase_mem hz)
      generalize rest.eraseIdx b = rest2 at hl2 hsub2
      have hyc := hsub y hy
      have hF : Fine i ((x.1 ++ y.1).length + (x.2.1 ++ y.2.1).length) (canonM one two (x.1 ++ y.1), x.2.1 ++ y.2.1) := by
        refine ⟨fun m hm => ?_, fun m hm => ?_, ?_, ?_⟩
        · rcases List.mem_append.mp ((mem_canonM G).mp hm) with q | q
          · exact (h.dep x hx).1 m q
          · exact (h.dep y hyc).1 m q
        · rcases List.mem_append.mp hm with q | q
          · exact (h.dep x hx).2 m q
          · exact (h.dep y hyc).2 m q
        · exact Nat.le_trans (len_canonM G _) (Nat.le_add_right _ _)
        · exact Nat.le_add_left _ _
      have hF' := hF.iterJ (x.2.1 ++ y.2.1).length
      have hlen := iterJ_len (canonM one two (x.1 ++ y.1), x.2.1 ++ y.2.1) (x.2.1 ++ y.2.1).length
      unfold wJoin
      dsimp only
      generalize iterJ (x.2.1 ++ y.2.1).length (canonM one two (x.1 ++ y.1), x.2.1 ++ y.2.1) = km at hF' hlen
      have hc := len_canonM G (x.1 ++ y.1)
      refine ⟨by simp, by rw [List.length_append]; show rest2.length + 1 ≤ 4; have := h.le4; omega, ⟨j + 1, by rw [List.length_append]; show _ + (rest2.length + 1) ≤ _; omega, fun z hz => ?_⟩, fun z hz => ?_, fun z hz => ?_⟩
      · have p : 2 ^ (j + 1) = 2 ^ j + 2 ^ j := by rw [Nat.pow_succ]; omega
        rcases List.mem_append.mp hz with q | q
        · have := hs z (hsub2 z q); omega
        · cases List.mem_singleton.mp q
          have a1 := hs x hx
          have a2 := hs y hyc
          rw [List.length_append] at hc
          dsimp only at hlen ⊢
          rw [List.length_append] at hlen
          omega
      · rcases List.mem_append.mp hz with q | q
        · have := h.dep z (hsub2 z q)
          exact ⟨fun m hm => Nat.le_succ_of_le (this.1 m hm), fun m hm => Nat.le_succ_of_le (this.2 m hm)⟩
        · cases List.mem_singleton.mp q
          exact ⟨fun m hm => Nat.le_succ_of_le (hF'.k m hm), fun m hm => Nat.le_succ_of_le (hF'.m m hm)⟩
      · rcases List.mem_append.mp hz with q | q
        · exact ⟨(h.seen z (hsub2 z q)).1, fun v hv => by have := (h.seen z (hsub2 z q)).2 v hv; omega⟩
        · cases List.mem_singleton.mp q
          refine ⟨nodup_canonI _, fun v hv => ?_⟩
          rcases List.mem_append.mp (mem_canonI.mp hv) with q | q
          · have := (h.seen x hx).2 v q; omega
          · have := (h.seen y hyc).2 v q; omega
    · refine ⟨by simp [wUpd], by unfold wUpd; rw [List.length_append]; show rest.length + 1 ≤ 4; have := h.le4; omega, ⟨j, by unfold wUpd; rw [List.length_append]; show _ + (rest.length + 1) ≤ _; omega, fun y hy => ?_⟩, fun y hy => ?_, fun y hy => ?_⟩
      · rcases List.mem_append.mp hy with q | q
        · exact hs y (hsub y q)
        · cases List.mem_singleton.mp q; exact ⟨(hs x hx).2, (hs x hx).2⟩
      · rcases List.mem_append.mp hy with q | q
        · have := h.dep y (hsub y q)
          exact ⟨fun m hm => Nat.le_succ_of_le (this.1 m hm), fun m hm => Nat.le_succ_of_le (this.2 m hm)⟩
        · cases List.mem_singleton.mp q
          have := (h.dep x hx).2
          exact ⟨fun m hm => Nat.le_succ_of_le (this m hm), fun m hm => Nat.le_succ_of_le (this m hm)⟩
      · rcases List.mem_append.mp hy with q | q
        · exact ⟨(h.seen y (hsub y q)).1, fun v hv => by have := (h.seen y (hsub y q)).2 v hv; omega⟩
        · cases List.mem_singleton.mp q
          have := h.seen x hx
          refine ⟨List.nodup_append.mpr ⟨this.1, by simp, fun u hu v hv e => ?_⟩, fun v hv => ?_⟩
          · have := this.2 u hu
            have hv' := List.mem_singleton.mp hv
            omega
          · rcases List.mem_append.mp hv with q | q
            · have := this.2 v q; omega
            · have := List.mem_singleton.mp q; omega
omit G in
theorem start_ok : RunOk 0 start := by
  refine ⟨by simp [start], by simp [start], ⟨0, by simp [start], fun x hx => ?_⟩, fun x hx => ?_, fun x hx => ?_⟩ <;> (cases List.mem_singleton.mp hx)
  · exact ⟨Nat.le_refl _, Nat.le_refl _⟩
  · exact ⟨fun m hm => by simp_all, fun m hm => by simp_all⟩
  · exact ⟨.nil, fun v hv => nomatch hv⟩
theorem run_ok : ∀ (l : List Nat) (i : Nat) (cs : List Copy), RunOk i cs → RunOk (i + l.length) (runR one two i l cs)
  | [], i, cs, h => h
  | c :: r, i, cs, h => by
    have := run_ok r (i + 1) _ (h.step G (c := c))
    rw [List.length_cons, show i + (r.length + 1) = i + 1 + r.length by omega]
    exact this
end
end VS

end PartP3

noncomputable section PartP4
namespace VS
open PySem PySem.Calls PySem.W PyProof.Rows

/-! the least and the greatest of two lists of texts -/
theorem opStr_flip (x y : Str) : opStr true x y = opStr false y x := rfl
theorem opStr_asym {x y : Str} (h : opStr false x y = true) : opStr false y x = false := by
  unfold opStr at h ⊢
  simp only [Bool.false_eq_true, if_false, decide_eq_true_eq, decide_eq_false_iff_not] at h ⊢
  exact List.lt_asymm h
theorem str_of_list {x y : Str} (h : x.cps.toList = y.cps.toList) : x = y := by
  cases x; cases y; simp only [Str.mk.injEq]; exact Array.toList_inj.mp h
theorem opStr_anti {x y : Str} (h1 : opStr false x y = false) (h2 : opStr false y x = false) : x = y := by
  unfold opStr at h1 h2
  simp only [Bool.false_eq_true, if_false, decide_eq_false_iff_not] at h1 h2
  exact str_of_list (List.le_antisymm h2 h1)
theorem lcmp_flip : ∀ (a b : List Str), lcmp true a b = lcmp false b a
  | [], [] => rfl
  | [], _ :: _ => rfl
  | _ :: _, [] => rfl
  | x :: xs, y :: ys => by
    unfold lcmp
    by_cases h : x = y
    · rw [if_pos h, if_pos h.symm, lcmp_flip xs ys]
    · rw [if_neg h, if_neg (Ne.symm h), opStr_flip]
theorem lcmp_irr : ∀ a : List Str, lcmp false a a = false
  | [] => rfl
  | x :: xs => by unfold lcmp; rw [if_pos rfl, lcmp_irr xs]
theorem lcmp_asym : ∀ {a b : List Str}, lcmp false a b = true → lcmp false b a = false
  | [], [], h => by cases h
  | [], _ :: _, _ => rfl
  | _ :: _, [], h => by cases h
  | x :: xs, y :: ys, h => by
    unfold lcmp at h ⊢
    by_cases q : x = y
    · rw [if_pos q] at h; rw [if_pos q.symm]; exact lcmp_asym h
    · rw [if_neg q] at h; rw [if_neg (Ne.symm q)]; exact opStr_asym h
theorem lcmp_anti : ∀ {a b : List Str}, lcmp false a b = false → lcmp false b a = false → a = b
  | [], [], _, _ => rfl
  | [], _ :: _, h, _ => by cases h
  | _ :: _, [], _, h => by cases h
  | x :: xs, y :: ys, h1, h2 => by
    unfold lcmp at h1 h2
    by_cases q : x = y
    · rw [if_pos q] at h1; rw [if_pos q.symm] at h2; rw [q, lcmp_anti h1 h2]
    · rw [if_neg q] at h1; rw [if_neg (Ne.symm q)] at h2; exact absurd (opStr_anti h1 h2) q

/-- the longest common start -/
def lcp {α : Type} [DecidableEq α] : List α → List α → List α
  | x :: xs, y :: ys => if x = y then x :: lcp xs ys else []
  | _, _ => []
theorem lcp_comm {α : Type} [DecidableEq α] : ∀ a b : List α, lcp a b = lcp b a
  | [], [] => rfl
  | [], _ :: _ => rfl
  | _ :: _, [] => rfl
  | x :: xs, y :: ys => by
    unfold lcp
    by_cases h : x = y
    · rw [if_pos h, if_pos h.symm, lcp_comm xs ys, h]
    · rw [if_neg h, if_neg (Ne.symm h)]
theorem lcp_map {α β : Type} [DecidableEq α] [DecidableEq β] {f : α → β} (hf : ∀ x y, f x = f y → x = y) : ∀ a b : List α, lcp (a.map f) (b.map f) = (lcp a b).map f
  | [], [] => rfl
  | [], _ :: _ => rfl
  | _ :: _, [] => rfl
  | x :: xs, y :: ys => by
    rw [List.map_cons, List.map_cons]
    unfold lcp
    by_cases h : x = y
    · rw [if_pos h, if_pos (congrArg f h), List.map_cons, lcp_map hf]
    · rw [if_neg h, if_neg fun q => h (hf _ _ q)]; rfl
theorem lcp_eq_left {α : Type} [DecidableEq α] : ∀ {a b : List α}, lcp a b = a ↔ a <+: b
  | [], b => by cases b <;> simp [lcp]
  | x :: xs, [] => by simp [lcp]
  | x :: xs, y :: ys => by
    unfold lcp
    by_cases h : x = y
    · rw [if_pos h, List.cons_prefix_cons, List.cons.injEq, lcp_eq_left]; simp [h]
    · rw [if_neg h, List.cons_prefix_cons]; simp [h]

/-- the two ends: s1 is not above s2, and they are the two lists -/
theorem ends_of (a b : List Str) : lcmp false (mm true a b) (mm false a b) = false ∧ lcp (mm false a b) (mm true a b) = lcp a b := by
  unfold mm
  rw [lcmp_flip b a]
  cases h1 : lcmp false b a with
  | true =>
    have h2 := lcmp_asym h1
    rw [h2]
    simp only [if_true, Bool.false_eq_true, if_false]
    exact ⟨h2, lcp_comm b a⟩
  | false =>
    simp only [Bool.false_eq_true, if_false]
    cases h2 : lcmp false a b with
    | true => simp only [if_true]; exact ⟨h1, trivial⟩
    | false =>
      simp only [Bool.false_eq_true, if_false]
      have e := lcmp_anti h2 h1
      subst e
      exact ⟨lcmp_irr a, rfl⟩
/-- the place asked for is there -/
theorem ends_room : ∀ {s1 s2 : List Str} {i : Nat}, lcmp false s2 s1 = false → i < s1.length → s1.take i = s2.take i → i < s2.length
  | _ :: _, [], _, h, _, _ => by cases h
  | x :: xs, y :: ys, 0, _, _, _ => Nat.succ_pos _
  | x :: xs, y :: ys, i + 1, h, hi, ht => by
    simp only [List.take_succ_cons, List.cons.injEq] at ht
    unfold lcmp at h
    rw [if_pos ht.1.symm] at h
    exact Nat.succ_lt_succ (ends_room h (Nat.lt_of_succ_lt_succ hi) ht.2)
theorem lcp_stop {α : Type} [DecidableEq α] : ∀ {s1 s2 : List α} {i : Nat} (h1 : i < s1.length) (h2 : i < s2.length), s1.take i = s2.take i → s1[i] ≠ s2[i] → lcp s1 s2 = s1.take i
  | x :: xs, y :: ys, 0, _, _, _, h => by unfold lcp; rw [if_neg (by simpa using h)]; rfl
  | x :: xs, y :: ys, i + 1, h1, h2, ht, h => by
    simp only [List.take_succ_cons, List.cons.injEq] at ht
    unfold lcp
    rw [if_pos ht.1, lcp_stop (Nat.lt_of_succ_lt_succ h1) (Nat.lt_of_succ_lt_succ h2) ht.2 (by simpa using h), List.take_succ_cons]
theorem lcp_all {α : Type} [DecidableEq α] {s1 s2 : List α} (h : s1 = s2.take s1.length) : lcp s1 s2 = s1 := lcp_eq_left.mpr ⟨s2.drop s1.length, by
  have := List.take_append_drop s1.length s2
  rw [← h] at this; exact this⟩
end VS

end PartP4

noncomputable section PartP5
namespace VS
open PySem PySem.Calls PySem.W PyProof.Rows

theorem L_join1 (p : Str) : L (Str.join "/" [p]) = L p := rfl
theorem L_join2 (p q : Str) (r : List Str) : L (Str.join "/" (p :: q :: r)) = L p ++ 47 :: L (Str.join "/" (q :: r)) := by
  show L (p ++ "/" ++ Str.join "/" (q :: r)) = _
  rw [L_app, L_app, L_slash, List.append_assoc]; rfl
theorem join_uniq : ∀ {ps qs : List Str}, ps ≠ [] → qs ≠ [] → (∀ p ∈ ps, 47 ∉ L p) → (∀ q ∈ qs, 47 ∉ L q) → L (Str.join "/" ps) = L (Str.join "/" qs) → ps = qs
  | [], _, h, _, _, _, _ => absurd rfl h
  | _ :: _, [], _, h, _, _, _ => absurd rfl h
  | [p], [q], _, _, _, _, h => by rw [L_join1, L_join1] at h; rw [str_ext h]
  | [p], q :: q2 :: r, _, _, hp, _, h => by
    rw [L_join1, L_join2] at h
    exact absurd (h ▸ List.mem_append.mpr (.inr (.head _)) : 47 ∈ L p) (hp p (.head _))
  | p :: p2 :: r, [q], _, _, _, hq, h => by
    rw [L_join1, L_join2] at h
    exact absurd (h ▸ List.mem_append.mpr (.inr (.head _)) : 47 ∈ L q) (hq q (.head _))
  | p :: p2 :: r, q :: q2 :: t, _, _, hp, hq, h => by
    rw [L_join2, L_join2] at h
    obtain ⟨a1, a2⟩ := tw (l := L p) (r := 47 :: L (Str.join "/" (p2 :: r))) (hp p (.head _)) (.inr ⟨_, rfl⟩)
    obtain ⟨b1, b2⟩ := tw (l := L q) (r := 47 :: L (Str.join "/" (q2 :: t))) (hq q (.head _)) (.inr ⟨_, rfl⟩)
    have e1 : L p = L q := by rw [← a1, ← b1, h]
    rw [e1] at h
    have e2 := List.append_cancel_left h
    simp only [List.cons.injEq, true_and] at e2
    have e3 := join_uniq (by simp) (by simp) (fun x hx => hp x (.tail _ hx)) (fun x hx => hq x (.tail _ hx)) e2
    rw [str_ext e1, e3]

section
variable {one two : Str}
theorem join_seg : ∀ (b : Bool) (m : List Bool), 47 :: L (Str.join "/" ((b :: m).map (nm one two))) = segL one two (b :: m)
  | b, [] => by rw [List.map_cons, List.map_nil, L_join1, seg_cons]; simp [segL]
  | b, c :: m => by
    rw [List.map_cons, List.map_cons, L_join2, seg_cons]
    have := join_seg c m
    rw [List.map_cons] at this
    rw [this]
def partsOf (one two : Str) (m : List Bool) : List Str := if m.isEmpty then ["", ""] else "" :: m.map (nm one two)
theorem join_parts (m : List Bool) : Str.join "/" (partsOf one two m) = path one two m := by
  cases m with
  | nil => rfl
  | cons b m =>
    apply str_ext
    rw [path_of (by simp)]
    show L (Str.join "/" ("" :: nm one two b :: m.map (nm one two))) = _
    rw [L_join2]
    have := join_seg (one := one) (two := two) b m
    rw [List.map_cons] at this
    exact this
theorem split_path (G : Good one two) (m : List Bool) : Txt.split (path one two m) "/" = partsOf one two m := by
  refine join_uniq (fun q => ?_) ?_ (fun p hp => ?_) (fun p hp => ?_) ?_
  · have := split_pos (path one two m) "/"; rw [q] at this; cases this
  · unfold partsOf; split <;> simp
  · exact StrLaws.split_free (path one two m) 47 p hp
  · unfold partsOf at hp
    split at hp
    · simp only [List.mem_cons, List.not_mem_nil, or_false, or_self] at hp; subst hp; decide
    · rcases List.mem_cons.mp hp with rfl | hp
      · decide
      · obtain ⟨b, _, rfl⟩ := List.mem_map.mp hp; exact nm_free G b
  · rw [StrLaws.join_split, join_parts]
def keepName (c : Str) : Bool := decide (c.length ≠ 0) && decide (c ≠ ("." : Str))
theorem parts_names (G : Good one two) (m : List Bool) : (partsOf one two m).filter keepName = m.map (nm one two) := by
  have key : (m.map (nm one two)).filter keepName = m.map (nm one two) := by
    refine List.filter_eq_self.mpr fun c hc => ?_
    obtain ⟨b, _, rfl⟩ := List.mem_map.mp hc
    have h1 := nm_ne G b
    have h2 := nm_dot G b
    unfold keepName
    simp only [Bool.and_eq_true, decide_eq_true_eq]
    exact ⟨fun q => h1 (List.eq_nil_of_length_eq_zero (by rw [← len_L]; exact q)), h2⟩
  unfold partsOf
  split
  · rename_i h
    have : m = [] := by simpa using h
    subst this; rfl
  · rw [List.filter_cons, if_neg (by decide), key]
theorem parts_len (m : List Bool) : (partsOf one two m).length ≤ m.length + 2 := by
  unfold partsOf
  split
  · exact Nat.le_add_left _ _
  · rw [List.length_cons, List.length_map]; omega
theorem parts_small (G : Good one two) {m : List Bool} {c : Str} (h : c ∈ partsOf one two m) : c.length ≤ 3 := by
  unfold partsOf at h
  split at h
  · simp only [List.mem_cons, List.not_mem_nil, or_false, or_self] at h; subst h; decide
  · rcases List.mem_cons.mp h with rfl | h
    · decide
    · obtain ⟨b, _, rfl⟩ := List.mem_map.mp h
      rw [len_L]; exact nm_len G b
theorem path_join (m : List Bool) : ("/" : Str) ++ Str.join "/" (m.map (nm one two)) = path one two m := by
  apply str_ext
  rw [L_app, L_slash]
  cases m with
  | nil => rfl
  | cons b m => rw [path_of (by simp), ← join_seg]; rfl
end
end VS

end PartP5

noncomputable section PartP6
namespace VS
open PySem PySem.Calls PySem.W PyProof.Rows
theorem foldl_small : ∀ (xs : List Str) (k : Nat), (∀ c ∈ xs, c.length ≤ 3) → xs.foldl (fun a c => a + c.length + ("/" : Str).length) k ≤ k + 4 * xs.length
  | [], k, _ => Nat.le_refl _
  | c :: r, k, h => by
    rw [List.foldl_cons, List.length_cons]
    have h1 := h c (.head _)
    have h2 := foldl_small r (k + c.length + ("/" : Str).length) fun c hc => h c (.tail _ hc)
    have h3 : ("/" : Str).length = 1 := rfl
    omega
theorem joinOk_small {xs : List Str} (h1 : xs.length ≤ 42) (h3 : ∀ c ∈ xs, c.length ≤ 3) : JoinOk "/" xs = true := by
  unfold JoinOk
  have := foldl_small xs 0 h3
  rw [List.foldl_toArray]
  unfold Builtin.Str.tooLong
  have hs : sizeLine = 16777216 := rfl
  simp only [Bool.not_eq_true', decide_eq_false_iff_not]
  omega
theorem keep_eq (c : Str) : (c.length != 0 && !decide (c = ".")) = keepName c := by
  unfold keepName
  by_cases h : c.length = 0 <;> by_cases h2 : c = ("." : Str) <;> simp [h, h2]
theorem tx_join (one two : Str) (m : List Bool) : ("/" : Str) ++ Txt.join "/" (m.map (nm one two)) = path one two m := by
  rw [show Txt.join "/" (m.map (nm one two)) = Str.join "/" (m.map (nm one two)) from StrLaws.glued_eq_join _ _]
  exact path_join m
theorem lcp_le {α : Type} [DecidableEq α] : ∀ a b : List α, (lcp a b).length ≤ a.length
  | [], b => by cases b <;> simp [lcp]
  | x :: xs, [] => by simp [lcp]
  | x :: xs, y :: ys => by
    unfold lcp
    split
    · simp only [List.length_cons]; have := lcp_le xs ys; omega
    · simp
section
variable {prog : Program} {w : World} {A : Around} {cs : Str → Prop} {env : Env} {α β γ : Type} {τ : Ty α} {s : Shared} {P : PM}
theorem Ev.joinS {o e : Expr} {apos pos : Pos} {sep : Str} {xs : List Str} (ho : Ev prog w A s P (eval o env) Ty.str sep) (he' : Ev prog w A s P (eval e env) (Ty.list Ty.str) xs) (hok : JoinOk sep xs = true)
    (hbase : attributeBase o "join" env (eval o env) = eval o env := by rfl) (hline : (apos.endLine == pos.line) = true := by rfl)
    (hfew : ((backTo pos (starEach [e] env)).all (fun x => !x.1) && (backToKw pos (keywordEach [] env)).all (fun x => x.1.isSome) && decide ([e].length + ([] : List Keyword).length + (if ([] : List Keyword).isEmpty then 0 else 1) < 30)) = true := by rfl)
    (he : starEach [e] env = (false, eval e env) :: starEach [] env := by rfl) (hp : (backTo pos (starEach [e] env)).any (·.1) = false := by rfl) :
    Ev prog w A s P (eval (.Call (.Attribute o "join" apos) [e] [] pos) env) Ty.str (Txt.join sep xs) :=
  Ev.meth hbase hline PySem.F.plainAttrs_str PySem.F.slot_str_join PySem.F.type_str_join ho (fun s1 P1 v ⟨t, e⟩ => e ▸ typeIs_str _ _ _) (fun P1 v a ⟨t, e⟩ q => by rw [e] at q; cases q) (EvL.cons he' EvL.nil he)
    (fun s1 P1 v vs ex ⟨t, rv⟩ ⟨v2, r2, hv2, h2, hr2⟩ => by subst rv; subst hv2; cases hr2; exact op_join ex.sub h2 hok) hfew he hp
end
end VS

end PartP6

noncomputable section PartP7
namespace VS
open PySem PySem.Calls PySem.W PyProof.Rows
/-! what the script draws -/
def startC : List Nat := [0, 1, 0, 0, 1, 1, 29, 1, 6, 35]
def bump (cs : List Nat) (k : Nat) (x : Int) : List Nat := cs.set (k % 10) (cs.getD (k % 10) 0 + (x.fmod 10000000).toNat)
def cellsI (xs : List Int) : Nat → List Nat
  | 0 => startC
  | i + 1 => bump (cellsI xs i) i (xs.getD i 0)
theorem cellsI_len (xs : List Int) : ∀ i, (cellsI xs i).length = 10
  | 0 => rfl
  | i + 1 => by show (bump _ _ _).length = 10; unfold bump; rw [List.length_set]; exact cellsI_len xs i
theorem fmod_small (x : Int) : (x.fmod 10000000).toNat ≤ 9999999 := by
  have h1 := Int.fmod_lt_of_pos x (show (0 : Int) < 10000000 by decide)
  omega
theorem cellsI_le' {M : Nat} (hM : ∀ x : Int, (x.fmod 10000000).toNat ≤ M) (xs : List Int) : ∀ i, ∀ c ∈ cellsI xs i, c ≤ 35 + i * M
  | 0, c, h => by
    have : ∀ c ∈ startC, c ≤ 35 := by decide
    exact Nat.le_trans (this c h) (Nat.le_add_right _ _)
  | i + 1, c, h => by
    have ih := cellsI_le' hM xs i
    have hf := hM (xs.getD i 0)
    have hm : c ∈ bump (cellsI xs i) i (xs.getD i 0) := h
    unfold bump at hm
    rw [Nat.succ_mul]
    rcases List.mem_or_eq_of_mem_set hm with h | h
    · have := ih c h
      omega
    · have h2 : (cellsI xs i).getD (i % 10) 0 ≤ 35 + i * M := by
        have hl := cellsI_len xs i
        have hk : i % 10 < (cellsI xs i).length := by rw [hl]; omega
        rw [List.getD_eq_getElem?_getD, List.getElem?_eq_getElem hk]
        exact ih _ (List.getElem_mem hk)
      generalize ((xs.getD i 0).fmod 10000000).toNat = z at *
      omega
theorem cellsI_le (xs : List Int) {i : Nat} (hi : i ≤ 60) {c : Nat} (h : c ∈ cellsI xs i) : c < 1000000000 := by
  have h1 := cellsI_le' fmod_small xs i c h
  have h2 := Nat.mul_le_mul_right 9999999 hi
  omega
def poolL : List Str := ["a", "aa", "a.", ".a", "..a", "b", "0", "00", "-", " ", "a a", "..."]
def oneOf (c : Nat) : Str := poolL.getD (c % 12) ""
def twoOf (c : Nat) : Str := (poolL.eraseIdx (c % 12)).getD (c / 12 % 11) ""
def goodB (one two : Str) : Bool := one != two && !(L one).contains 47 && !(L one).isEmpty && decide ((L one).length ≤ 3) && one != "." && !(L two).contains 47 && !(L two).isEmpty && decide ((L two).length ≤ 3) && two != "."
theorem good_of {one two : Str} (h : goodB one two = true) : Good one two := by
  unfold goodB at h
  simp only [Bool.and_eq_true, bne_iff_ne, ne_eq, Bool.not_eq_true', decide_eq_true_eq, List.isEmpty_eq_false_iff] at h
  obtain ⟨⟨⟨⟨⟨⟨⟨⟨h1, h2⟩, h3⟩, h4⟩, h5⟩, h6⟩, h7⟩, h8⟩, h9⟩ := h
  exact ⟨h1, fun m => (by rw [List.contains_iff_mem.mpr m] at h2; cases h2), h3, h4, h5, fun m => (by rw [List.contains_iff_mem.mpr m] at h6; cases h6), h7, h8, h9⟩
theorem pool_good : ∀ i, i < 12 → ∀ j, j < 11 → goodB (poolL.getD i "") ((poolL.eraseIdx i).getD j "") = true := by decide +kernel
theorem good_names (c : Nat) : Good (oneOf c) (twoOf c) := good_of (pool_good _ (Nat.mod_lt _ (by decide)) _ (Nat.mod_lt _ (by decide)))
section
variable {prog : Program} {w : World} {A : Around} {env : Env} {s : Shared} {P : PM} {α : Type} {τ : Ty α}
theorem star_const (c : Const) (k : Nat) (p : Pos) (rest : List Expr) (env : Env) : starEach (.Constant c k p :: rest) env = (false, eval (.Constant c k p) env) :: starEach rest env := rfl
/-- the items of a display, all of one kind -/
def EvLs {α : Type} (prog : Program) (w : World) (A : Around) (s : Shared) (P : PM) (t : Sem (List Value)) (τ : Ty α) (xs : List α) : Prop := EvL prog w A s P t fun P vs => Paired (τ.rel P) vs xs
theorem EvLs.nil {pos : Pos} : EvLs prog w A s P (spliced (backTo pos (starEach [] env))) τ [] := fun s1 P1 e =>
  wpAny_mono (EvL.nil s1 P1 e) (fun vs s2 ⟨P2, e2, h⟩ => ⟨P2, e2, by cases h; exact .nil⟩) fun _ _ f => f
theorem EvLs.cons {pos : Pos} {e : Expr} {rest : List Expr} {x : α} {xs : List α} (h : Ev prog w A s P (eval e env) τ x) (hr : EvLs prog w A s P (spliced (backTo pos (starEach rest env))) τ xs)
    (he : starEach (e :: rest) env = (false, eval e env) :: starEach rest env := by rfl) : EvLs prog w A s P (spliced (backTo pos (starEach (e :: rest) env))) τ (x :: xs) := fun s1 P1 e1 =>
  wpAny_mono (EvL.cons h hr he s1 P1 e1) (fun vs s2 ⟨P2, e2, v, r, hv, rv, hr⟩ => ⟨P2, e2, by subst hv; exact .cons rv hr⟩) fun _ _ f => f
end
section
variable {cs : Str → Prop} {s₀ s s' : Shared} {P₀ P P' : PM} {env : Env} {ρ : List (Str × Bd)} {O : List (Addr × Ob)} {α : Type} {τ : Ty α}
theorem St.weaken {a : Addr} {b b' : Ob} (S : St cs s₀ P₀ env ρ ((a, b) :: O) s P) (h : ∀ o, b.rel P o → b'.rel P o) : St cs s₀ P₀ env ρ ((a, b') :: O) s P :=
  { S with
    own := fun p hp => by
      rcases List.mem_cons.mp hp with e | hp
      · subst e
        obtain ⟨⟨o, ho, r⟩, x⟩ := S.own _ (.head _)
        exact ⟨⟨o, ho, h o r⟩, x⟩
      · exact S.own p (.tail _ hp)
    nodup := S.nodup }
theorem St.weakList {D : Addr} {xs : List α} (S : St cs s₀ P₀ env ρ ((D, Ob.list τ xs) :: O) s P) : St cs s₀ P₀ env ρ ((D, Ob.listW τ xs) :: O) s P :=
  S.weaken fun o ⟨vs, n, e, r⟩ => by subst e; exact ⟨rfl, vs, n, rfl, r⟩
end
end VS

end PartP7

noncomputable section PartS9
namespace VS
open PySem PySem.Calls PySem.W PyProof.Rows

section
variable {prog : Program} {w : World} {A : Around} {E : Value → Shared → Prop} {s : Shared}
theorem pyHash_true {Q : Int → Shared → Prop} (h : Q (hashInt 1) { s with toks := s.toks + 1 }) : wpAny (model prog w) A (pyHash (.bool true)) Q E s := by
  have hr := rawHash_range 1
  have hT : s.TypeIs (.bool true) "bool" := rfl
  unfold pyHash
  have hv : [Value.bool true].any Value.onHeap = false := rfl
  refine wpAny_bind ?_
  rw [cRoomFor, if_neg (by rw [hv]; exact Bool.false_ne_true)]; refine wpAny_pure ?_
  refine wpAny_bind (wpAny_specialOf hT PySem.F.slot_bool_hash.lookup ?_)
  show wpAny _ _ (if (some (Value.builtin "int.__hash__") == some Value.none) = true then _ else _) Q E s
  rw [if_neg (by rw [beq_builtin_none]; exact Bool.false_ne_true)]
  refine wpAny_bind (wpAny_specialOf hT PySem.F.slot_bool_hash.lookup ?_)
  show wpAny _ _ (callSpecialIfBoundUnlessNone? (.bool true) "__hash__" _ >>= _) Q E s
  refine wpAny_bind (wpAny_callSpecialIfBoundUnlessNone?_slot hT PySem.F.slot_bool_hash
    (wpAny_call_entry PySem.F.slot_bool_hash hT entry_int_hash
      (show wpAny _ _ (do ret (← mkInt (rawHash 1))) _ _ s from wpAny_ret_mkInt ?_) (args_int_hash _)))
  show wpAny _ _ (if (decide (-(2 : Int) ^ 63 ≤ rawHash 1) && decide (rawHash 1 < 2 ^ 63)) = true then _ else _) Q E _
  rw [if_pos (by rw [decide_eq_true hr.1, decide_eq_true hr.2]; rfl)]
  exact wpAny_pure h

def isTrueV : Unit → Value → Bool
  | _, .bool true => true
  | _, _ => false
theorem isTrueV_shape {k : Unit} {v : Value} (h : isTrueV k v = true) : v = .bool true := by
  unfold isTrueV at h
  split at h
  · rfl
  · cases h
/-- the key kind of a set that holds nothing but True -/
def trueKind (prog : Program) (w : World) : PySem.KeyKind prog w Unit where
  is := isTrueV
  hash := fun _ => hashInt 1
  inj := fun _ _ _ _ _ => rfl
  byValue := fun k v h => by rw [isTrueV_shape h]; rfl
  pyHash := fun hv h => by rw [isTrueV_shape hv]; exact pyHash_true h
  eqBool := fun {A E s a b u v Q} hu hv h => by
    rw [isTrueV_shape hu, isTrueV_shape hv]
    unfold eqBool
    refine wpAny_holding ?_
    rw [if_pos (by decide)]
    exact wpAny_bind (wpAny_rule (wpAny_pure (by simpa using h)))
  «strs» := fun k x t v h => by have := isTrueV_shape h; cases this
end
end VS

end PartS9

noncomputable section PartS10
namespace VS
open PySem PySem.Calls PySem.W PyProof.Rows

section
variable {prog : Program} {w : World} {A : Around} {cs : Str → Prop} {env : Env} {K : Type} [DecidableEq K] {knd : PySem.KeyKind prog w K} {α : Type} {τ : Ty α} {s₀ s : Shared} {P₀ P Ps : PM} {ρ : List (Str × Bd)} {O : List (Addr × Ob)}

theorem newSet_led {Q : Value → Shared → Prop} {E : Value → Shared → Prop} (h : Q (.ref s.heap.objs.size) { s with heap := s.heap.push (setObj #[] 0 (.fresh 0 0 (ledOf w))) }) : wpAny (model prog w) A (newSet (.type "set")) Q E s := by
  unfold newSet
  refine wpAny_bind (wpAny_setsByText ?_)
  rw [Bool.not_not]
  exact wpAny_newObj_type h

theorem St.addSet {D : Addr} {ys : List K} {v : Value} {y : K} {Q : Value → Shared → Prop} {E : Value → Shared → Prop} (S : St cs s₀ P₀ env ρ ((D, Ob.set knd (ledOf w) ys) :: O) s P) (hk : knd.is y v = true) (hsc : v.scannable = true) (hsz : ys.length + 1 < scanBound)
    (k : ∀ s', St cs s₀ P₀ env ρ ((D, Ob.set knd (ledOf w) (ys ++ [y])) :: O) s' P → Q .none s') : wpAny (model prog w) A (call (.builtin "set.add") [.ref D, v]) Q E s := by
  obtain ⟨o, ho, ⟨es, ep, t, ks, rfl, G, hm, hl⟩, hP⟩ := S.obj
  refine wpAny_call_entry PySem.F.slot_set_add ⟨_, ho, rfl⟩ PySem.F.entry_set_add ?_ (PySem.F.args_set_add_2 _ _)
  unfold Builtin.«set.add» Builtin.Frozenset.oneOther
  simp only [List.isEmpty_nil, bind_assoc]
  unfold Builtin.Frozenset.addrOf setAdd
  refine wpAny_bind (wpAny_pure ?_)
  try dsimp only
  refine wpAny_bind (wpAny_pure ?_)
  try dsimp only
  refine wpAny_bind ?_
  refine wpAny_holding ?_
  refine wpAny_bind (knd.pyHash hk ?_)
  refine add_hashed (s := { s with toks := s.toks + 1 }) hk hsc ho G (by omega) fun b h' es' ep' t' ks' hsb ho' G' hm' hl' => ?_
  show wpAny _ _ (PySem.ret Value.none) _ _ _
  refine wpAny_pure ⟨_, rfl, k _ ?_⟩
  exact S.change (b' := Ob.set knd (ledOf w) (ys ++ [y])) (tk := s.toks + 1) ho' ⟨es', ep', t', ks', rfl, G', fun z => by rw [hm' z, hm z, List.mem_append, List.mem_singleton], by rw [List.length_append]; exact Nat.le_trans hl' (Nat.succ_le_succ hl)⟩ fun c o hne e => (hsb.2 c hne).trans e

theorem codeAny_compStart_set {elt target iter : Expr} {ifs : List Expr} {scope : Scope} {pos : Pos} {it acc : Value} {env : Env} {R : Result → Shared → Prop}
    (h0 : codeAny (model prog w) A (.compLoop (.SetComp elt [⟨target, iter, ifs, 0⟩] scope pos) 0 it acc env) R s)
    (h : wpAny (model prog w) A (pyIter it) (fun it' s' => codeAny (model prog w) A (.compLoop (.SetComp elt [⟨target, iter, ifs, 0⟩] scope pos) 0 it' acc env) R s')
      (notedBy (model prog w) A env fun x s' => R (.error x) s') s) :
    codeAny (model prog w) A (.compStart (.SetComp elt [⟨target, iter, ifs, 0⟩] scope pos) 0 it acc env) R s := by
  refine codeAny_of_tree ?_
  show wpAny _ _ ((compStart (.SetComp elt [⟨target, iter, ifs, 0⟩] scope pos) 0 it acc env).onRaise (fun x => do noteFrame x env; standAt theWindowsPlace)) _ _ s
  refine wpAny_notedAt ?_
  unfold compStart
  show wpAny _ _ (ask >>= _) _ _ s
  refine wpAny_bind (wpAny_askSetting (wpAny_ite ?_))
  split
  · first
      | exact wpAny_bind (wpAny_pure (wpAny_pure (And.intro rfl h0)))
      | exact wpAny_pure (And.intro rfl h0)
  · first
      | exact wpAny_bind (wpAny_rule (wpAny_bind (wpAny_standAt (wpAny_bind (wpAny_mono h (fun it' s' h' => wpAny_pure (And.intro rfl h')) fun _ _ x => x)))))
      | (refine wpAny_bind (wpAny_rule ?_); show wpAny _ _ (standAt iter.pos >>= _) _ _ s; exact wpAny_bind (wpAny_standAt (wpAny_bind (wpAny_mono h (fun it' s' h' => wpAny_pure (And.intro rfl h')) fun _ _ x => x))))

abbrev sComp (elt : Expr) (gens : List Comprehension) (scope : Scope) (pos : Pos) (env : Env) : Option (Value → Sem Unit) → Sem Value := fun use =>
  comprehension (.SetComp elt gens scope pos) scope env (firstIterPos gens pos) (newSet (.type "set")) (firstAsync gens) (firstIter gens env) use

/-- a set comprehension whose elements are all one value -/
theorem Comp.setOne {elt target iter : Expr} {scope : Scope} {cl : List (Str × Addr)} {pos : Pos} {n : Nat} {B : Nat → List (Str × Bd)}
    (H : CompOk scope env cl) (F : FS env ρ s.heap P) (src : Src prog w A env iter s P (ownCells scope) (compE scope cl env) target n B) (hn : n + 1 < scanBound)
    (hB : ∀ i, i < n → ((B i).all fun x => ((capt cl ρ).lookup x.1).isNone) = true)
    (key : ∀ (P : PM) (v : Value) (i : α), τ.rel P v i → Value.scannable v = true) (kk : α → K) (hkk : ∀ P v x, τ.rel P v x → knd.is (kk x) v = true) (g : Nat → α)
    (el : ∀ C i s' P', i < n → Ext s P s' P' → FS (compE scope cl env C) (B i ++ capt cl ρ) s'.heap P' → Ev prog w A s' P' (PySem.eval elt (compE scope cl env C)) τ (g i))
    (hs : ∀ x, foldedSetIterable iter env x = pure x := by intro _; rfl) :
    Comp prog w A s P (sComp elt [⟨target, iter, [], 0⟩] scope pos env) (Ty.set knd (ledOf w)) ((List.range n).flatMap fun i => [kk (g i)]) := by
  refine comp_core (W := Ob.set knd (ledOf w)) (o := setObj #[] 0 (.fresh 0 0 (ledOf w))) rfl H F src (fun s Q E h => newSet_led h) rfl (fun P => ⟨_, _, _, [], rfl, SetG.empty, fun _ => Iff.rfl, Nat.le_refl _⟩) (fun it acc env s R h1 h2 => codeAny_compStart_set h1 h2)
    (fun C it acc => turn_set elt target iter [] scope pos it acc _) hB (fun C it D i ys s1 P1 s' P' its E hi eb e hys S => ?_) (fun P o D r h => ⟨D, o, rfl, PM.put_self, r⟩) (fun it acc env => ⟨rfl, rfl⟩) hs
  refine EvB.tests0.use S.sub fun s2 P2 e2 => ?_
  have S2 := S.go e2
  simp only [if_true]
  refine wpAny_bind (wpAny_bind ((el C i s2 P2 hi (e.trans e2) S2.fs).use S2.sub fun v s3 P3 e3 r => ?_))
  refine wpAny_bind (wpAny_standAt ?_)
  refine wpAny_bind (St.addSet ((S2.go e3).perm (pm_mid _)) (hkk _ _ _ r) (key _ _ _ r) ?_ fun s4 S4 => wpAny_pure (wpAny_pure ⟨rfl, P3, e2.le.trans e3.le, S4.perm (pm_mid _).symm⟩))
  have := fm_len (g := fun i => [kk (g i)]) (b := 1) (fun i => by simp) i
  rw [hys]; omega
end
end VS

end PartS10

noncomputable section PartS11
namespace VS
open PySem PySem.Calls PySem.W PyProof.Rows

section
variable {prog : Program} {w : World} {A : Around} {cs : Str → Prop} {env : Env} {s₀ s : Shared} {P₀ P Ps : PM} {ρ : List (Str × Bd)} {O : List (Addr × Ob)}
theorem nodup_unit : ∀ {l : List Unit}, l.Nodup → l ≠ [] → l = [()]
  | [], _, h => absurd rfl h
  | [()], _, _ => rfl
  | () :: () :: _, h, _ => by rw [List.nodup_cons] at h; exact absurd (.head _) h.1

theorem unpack_set {v : Value} {S0 : List Unit} {Q : List Value → Shared → Prop} {E : Value → Shared → Prop} (hh : A.handled = none) (h : Sub P s) (r : (Ty.set (trueKind prog w) (ledOf w)).rel P v S0) (hne : S0 ≠ [])
    (k : ∀ s2 P2, Ext s P s2 P2 → Q [.bool true] s2) : wpAny (model prog w) A (unpackItems v 1 none) Q E s := by
  obtain ⟨D, o, rfl, hD, es, ep, t, ks, rfl, G, hm, hl⟩ := r
  have hks : ks ≠ [] := fun q => by
    cases S0 with
    | nil => exact hne rfl
    | cons y r => have := (hm y).mpr (.head _); rw [q] at this; cases this
  have hT : s.TypeIs (.ref D) "set" := ⟨_, h _ _ hD, rfl⟩
  let τ : Ty Unit := ⟨fun P v x => v = .bool true, fun _ h => h⟩
  unfold unpackItems
  refine wpAny_bind ?_
  unfold notIterableAtAll
  refine wpAny_bind (wpAny_specialOf hT PySem.F.slot_set_iter.lookup ?_)
  refine wpAny_pure ?_
  simp only [Bool.false_eq_true, if_false]
  refine wpAny_bind (wpAny_holding ?_)
  refine iter_set (τ := τ) hh G (fun P v k hk => isTrueV_shape hk) (Hs.start h) hD fun it s2 P2 Own xs l2 p S2 Pl => ?_
  have hx : xs = [()] := nodup_unit (p.nodup_iff.mpr G.nodup) fun q => by subst q; exact hks p.symm.eq_nil
  subst hx
  refine wpAny_bind (wpAny_holding ?_)
  unfold draw
  refine wpAny_bind (wpAny_mono (Pl.item _ _ _ 0 (by simp) _ (.refl _) S2) (fun r s3 ⟨v, P3, hr, l3, rv, S3⟩ => ?_) fun _ _ e => e)
  subst hr
  have rv' : v = .bool true := rv
  subst rv'
  unfold draw
  refine wpAny_bind (wpAny_holding (wpAny_pure (wpAny_pure ?_)))
  simp only [List.length_cons, List.length_nil, Nat.lt_irrefl, if_false]
  refine wpAny_bind (wpAny_holding ?_)
  refine wpAny_mono (Pl.done _ _ _ _ l3 S3) (fun r s4 ⟨hr, P4, l4, S4⟩ => ?_) fun _ _ e => e
  subst hr
  simp only [Option.isSome_none, Bool.false_eq_true, if_false]
  exact wpAny_pure (k s4 P4 S4.ext)

theorem St.assignOne {x : Str} {xp tp : Pos} {k : Nat} {v : Value} {S0 : List Unit} {Q : Unit → Shared → Prop} {E : Value → Shared → Prop} (S : St cs s₀ P₀ env ρ O s P) (hh : A.handled = none) (r : (Ty.set (trueKind prog w) (ledOf w)).rel P v S0) (hne : S0 ≠ [])
    (hk : Storable cs env x) (hq : ∀ s' P', PM.le P P' → St cs s₀ P₀ env ((x, Ty.bool.at true) :: ρ) O s' P' → Q () s')
    (hee : assignEach [.Name x xp] env = [(false, PySem.assign (.Name x xp) env)] := by rfl) : wpAny (model prog w) A (PySem.assign (.Tuple [.Name x xp] k tp) env v) Q E s := by
  rw [arm_assign_Tuple]
  refine wpAny_bind (wpAny_standAt ?_)
  unfold unpack
  rw [hee]
  refine wpAny_bind (wpAny_holding (unpack_set hh S.sub r hne fun s2 P2 e => ?_))
  exact assignInOrder_cons (wpAny_assign_Name ((S.go e).store (b := Ty.bool.at true) rfl hk fun s' S' => assignInOrder_nil (hq _ _ e.le S')))
end
end VS

end PartS11

noncomputable section PartS12
namespace VS
open PySem PySem.Calls PySem.W PyProof.Rows
def Ty.tru : Ty Unit := ⟨fun _ v _ => v = .bool true, fun _ h => h⟩
section
variable {prog : Program} {w : World} {A : Around} {env : Env} {α : Type} {τ : Ty α} {s : Shared} {P : PM} {ρ : List (Str × Bd)}
/-- a set comprehension over a tuple, True at each element -/
theorem Ev.setTrue {elt iter : Expr} {x : Str} {px : Pos} {scope : Scope} {cl : List (Str × Addr)} {pos : Pos} {xs : List α}
    (H : CompOk scope env cl) (F : FS env ρ s.heap P) (hh : A.handled = none) (h : Ev prog w A s P (eval iter env) (Ty.tuple τ) xs) (hk : ∀ C, Storable (ownCells scope) (compE scope cl env C) x) (hn : xs.length + 1 < scanBound)
    (hc : (capt cl ρ).lookup x = none)
    (el : ∀ C a s' P', a ∈ xs → Ext s P s' P' → FS (compE scope cl env C) ((x, τ.at a) :: capt cl ρ) s'.heap P' → Ev prog w A s' P' (eval elt (compE scope cl env C)) Ty.bool true)
    (hs : ∀ x, foldedSetIterable iter env x = pure x := by intro _; rfl) :
    Ev prog w A s P (eval (.SetComp elt [⟨.Name x px, iter, [], 0⟩] scope pos) env) (Ty.set (trueKind prog w) (ledOf w)) (xs.map fun _ => ()) := by
  have key := Comp.setOne (knd := trueKind prog w) (τ := Ty.tru) (B := pick x τ xs) (kk := fun _ => ()) (g := fun _ => ()) (elt := elt) (pos := pos) (target := .Name x px) H F
    (Src.tuple hh h fun C i a v P' hx r => by
      have : pick x τ xs i = [(x, τ.at a)] := by unfold pick; rw [hx]
      rw [this]; exact Asg.name r (hk C)) hn (fun i hi => by rw [pick_of hi]; simp [hc])
    (fun P v i r => by have r' : v = .bool true := r; subst r'; rfl) (fun P v i r => by have r' : v = .bool true := r; subst r'; rfl)
    (fun C i s' P' hi e F' => by
      rw [pick_of hi] at F'
      exact el C _ s' P' (List.getElem_mem hi) e F') hs
  have e : (List.range xs.length).flatMap (fun i => [()]) = xs.map fun _ => () := by
    have : ∀ n, (List.range n).flatMap (fun _ => [()]) = List.replicate n () := by
      intro n
      induction n with
      | zero => rfl
      | succ n ih => rw [List.range_succ, List.flatMap_append, ih, List.replicate_succ']; rfl
    rw [this, List.map_const']
  rw [e] at key
  exact key.ev
end
end VS

end PartS12

noncomputable section PartW5
namespace VS
open PySem PySem.Calls PySem.W PyProof.Rows

def Ty.nat : Ty Nat := ⟨fun P v n => ∃ t, v = .int (n : Int) t, fun _ h => h⟩
def Ty.nmb (one two : Str) : Ty Bool := ⟨fun P v b => ∃ t, v = .str (nm one two b) t, fun _ h => h⟩
abbrev Tcopy (one two : Str) := Ty.trip (Tms one two) (Tms one two) (Ty.list Ty.int)
theorem fdiv_nat (a b : Nat) : (a : Int).fdiv (b : Int) = ((a / b : Nat) : Int) := by rw [Int.fdiv_eq_ediv_of_nonneg _ (by omega)]; rfl
theorem filt {α : Type} (l : List α) : (l.filter fun _ => true) = l := List.filter_eq_self.mpr fun _ _ => rfl
theorem fd3 (c n : Nat) : ((c : Int).fdiv 3).fmod (n : Int) = ((c / 3 % n : Nat) : Int) := by
  rw [Int.fdiv_eq_ediv_of_nonneg _ (by omega), Int.fmod_eq_emod_of_nonneg _ (by omega)]; rfl
theorem fd12 (c n : Nat) : ((c : Int).fdiv 12).fmod (n : Int) = ((c / 12 % n : Nat) : Int) := by
  rw [Int.fdiv_eq_ediv_of_nonneg _ (by omega), Int.fmod_eq_emod_of_nonneg _ (by omega)]; rfl
theorem fmod_nat (a b : Nat) : (a : Int).fmod (b : Int) = ((a % b : Nat) : Int) := by rw [Int.fmod_eq_emod_of_nonneg _ (by omega)]; rfl

section
variable {prog : Program} {w : World} {lo : List Str} {p : Program} {mg mb : Str → Option Value} {P : PM}
set_option maxHeartbeats 4000000 in
theorem spec_run {v1 v2 v3 : Value} {one two : Str} {cells : List Nat} (G : Good one two) (hc : ∀ c ∈ cells, c < 1000000000) (h9 : cells.length ≤ 9)
    (r1 : Ty.str.rel P v1 one) (r2 : Ty.str.rel P v2 two) (r3 : (Ty.list Ty.nat).rel P v3 cells) :
    Returns prog w (KF w.params) p lo mg mb 9 (.ref 158) [v1, v2, v3] P (Ty.list (Tcopy one two)) (runR one two 0 cells start) := by
  refine Returns.def (ρ := [("one", Ty.str.at one), ("two", Ty.str.at two), ("cells", (Ty.list Ty.nat).at cells)]) rfl rfl rfl rfl (bind_pure rfl (.cons r1 (.cons r2 (.cons r3 .nil)))) rfl rfl rfl ?_
  intro A s₀ P₀ s L R W S
  have hs : sizeLine = 16777216 := rfl
  refine S.ownDisplay (τ := Tcopy one two) (xs := start) (EvL.cons (τ := Tcopy one two) (x := ([[]], [[]], [])) (Ev.tup3 (Ev.one (Ev.markB (m := []) Ev.cStr)) (Ev.one (Ev.markB (m := []) Ev.cStr)) (Ev.nilAs)) EvL.nil) ?_ (by decide) (.inl rfl) fun D s1 P1 l1 S1 => ?_
  · rintro P1 vs ⟨v, r, rfl, rv, rfl⟩
    exact .cons rv .nil
  have run_take : ∀ i (hi : i < cells.length), runR one two 0 (cells.take (i + 1)) start = stepR one two i cells[i] (runR one two 0 (cells.take i) start) := by
    have key : ∀ (l : List Nat) (c : Nat) (k : Nat) (cs : List Copy), runR one two k (l ++ [c]) cs = stepR one two (k + l.length) c (runR one two k l cs) := by
      intro l
      induction l with
      | nil => intro c k cs; rfl
      | cons a r ih =>
        intro c k cs
        rw [List.cons_append]
        show runR one two (k + 1) (r ++ [c]) _ = _
        rw [ih, List.length_cons, show k + 1 + r.length = k + (r.length + 1) by omega]; rfl
    intro i hi
    rw [List.take_succ_eq_append_getElem hi, key, List.length_take, Nat.min_eq_left (by omega), Nat.zero_add]
  refine St.forX S1 (fun i => [("copies", Ty.raw.at (.ref D)), ("one", Ty.str.at one), ("two", Ty.str.at two)]) (fun i => [(D, Ob.list (Tcopy one two) (runR one two 0 (cells.take i) start))])
    (Src.enum (τ := Ty.nat) (xs := cells) (B := pick "cell" Ty.nat cells) R.handled (Ev.built (S1.wd W) rfl b_enumerate rfl rfl rfl rfl) (Ev.name S1.fs rfl rfl) (fun _ => .inl rfl) fun C i a v P' hx r => by
      have : pick ("cell" : Str) Ty.nat cells i = [(("cell" : Str), Ty.nat.at a)] := by unfold pick; rw [hx]
      rw [this]; exact Asg.name r (.inl rfl)) ⟨rfl, rfl, rfl, trivial⟩ rfl ?_ ?_
  · intro i s2 P2 its E hi l2 S2
    rw [pick_of hi] at S2
    have hok := run_ok G (cells.take i) 0 start start_ok
    rw [List.length_take, Nat.min_eq_left (by omega), Nat.zero_add] at hok
    rw [run_take i hi]
    generalize runR one two 0 (cells.take i) start = copies at S2 hok
    have hc' := hc cells[i] (List.getElem_mem hi)
    generalize cells[i] = c at S2 hc'
    replace S2 := (S2.only (L := [("cell", Ty.nat.at c), ("step", Ty.int.at (i : Int)), ("copies", Ty.raw.at (.ref D)), ("one", Ty.str.at one), ("two", Ty.str.at two)]) ⟨rfl, rfl, rfl, rfl, rfl, trivial⟩).perm (pm_mid _)
    have ha := pick_mod hok.ne (c / 3)
    have hlen4 := hok.le4
    have hnn : copies.length ≠ 0 := by have := hok.ne; cases copies <;> simp_all
    refine wpAny_execs_cons (Assign_Tuple (St.popAt S2 (Ev.name S2.fs rfl rfl) (i := ((c / 3 % copies.length : Nat) : Int)) (x := copies[c / 3 % copies.length]) (fun s3 P3 l3 S3 => Ev.to (fd3 _ _) (Ev.modI (y := (copies.length : Int)) (Ev.divI (x := (c : Int)) (y := 3) (Ev.name S3.fs rfl rfl) Ev.cInt (by decide) (PyProof.noPylong_small (by decide))) (Ev.lenOwn S3 (Ev.built (S3.wd W) rfl b_len rfl rfl rfl rfl) (Ev.name S3.fs rfl rfl) (by omega)) (by omega))) (by omega) (by rw [Int.toNat_natCast]; exact List.getElem?_eq_getElem ha) (by omega) fun v s3 P3 l3 r3 S3 => ?_))
    rw [Int.toNat_natCast] at S3
    have hxm : copies[c / 3 % copies.length] ∈ copies := List.getElem_mem ha
    have hgd : copies.getD (c / 3 % copies.length) ([], [], []) = copies[c / 3 % copies.length] := by rw [List.getD_eq_getElem?_getD, List.getElem?_eq_getElem ha]; rfl
    have hsm := hok.small (by omega) hxm
    have hdep := hok.dep _ hxm
    have hjs : ∀ y ∈ copies, 2 ≤ copies.length → _ := fun y hy h2 => hok.join_sizes (by omega) hxm hy h2
    have hstep : stepR one two i c copies = (if c % 3 = 1 ∧ (copies.eraseIdx (c / 3 % copies.length)).length < 3 then wFork copies[c / 3 % copies.length] (copies.eraseIdx (c / 3 % copies.length))
      else if c % 3 = 2 ∧ copies.eraseIdx (c / 3 % copies.length) ≠ [] then wJoin one two copies[c / 3 % copies.length] ((copies.eraseIdx (c / 3 % copies.length)).getD (c / 12 % (copies.eraseIdx (c / 3 % copies.length)).length) ([], [], [])) ((copies.eraseIdx (c / 3 % copies.length)).eraseIdx (c / 12 % (copies.eraseIdx (c / 3 % copies.length)).length))
      else wUpd i copies[c / 3 % copies.length] (copies.eraseIdx (c / 3 % copies.length))) := by
      unfold stepR; dsimp only; rw [hgd]
    rw [hstep]
    clear hstep hgd
    have hrl := erase_len ha
    have hsub : ∀ y ∈ copies.eraseIdx (c / 3 % copies.length), y ∈ copies := fun y hy => erase_mem hy
    generalize copies.eraseIdx (c / 3 % copies.length) = rest at S3 hrl hsub
    generalize copies[c / 3 % copies.length] = x at r3 hsm hdep hjs
    obtain ⟨kn, mk, sn⟩ := x
    refine S3.assign3v R.handled r3 (.inr ⟨rfl, trivial, _, rfl⟩) (.inr ⟨rfl, trivial, _, rfl⟩) (.inr ⟨rfl, trivial, _, rfl⟩) fun s4 S4 => ?_
    have W4 := S4.wd W
    refine S4.ifs (b := decide (c % 3 = 1) && decide (rest.length < 3)) (EvB.and2 (EvB.to ?_ (EvB.eqI (x := ((c % 3 : Nat) : Int)) (y := 1) (Ev.to (fmod_nat c 3) (Ev.modI (x := (c : Int)) (y := 3) (Ev.name S4.fs rfl rfl) Ev.cInt (by decide))) Ev.cInt)) fun _ =>
      EvB.to ?_ (EvB.ltI (x := (rest.length : Int)) (y := 3) (Ev.lenOwn S4 (Ev.built W4 rfl b_len rfl rfl rfl rfl) (Ev.name S4.fs rfl rfl) (by omega)) Ev.cInt)) ?_ ?_
    · rw [decide_eq_decide]; omega
    · rw [decide_eq_decide]; omega
    · intro hq s5 P5 l5 S5
      simp only [Bool.and_eq_true, decide_eq_true_eq] at hq
      rw [if_pos hq]
      have W5 := S5.wd W
      refine wpAny_execs_cons (St.iaddOwn S5 (ys := [(kn, mk.map (· ++ [false]), sn), (kn, mk.map (· ++ [true]), sn)]) rfl rfl (Comp.eval (Comp.lst (τ := Ty.nmb one two) (σ := Tcopy one two) (xs := [false, true]) (p := fun _ => true) (f := fun b => (kn, mk.map (· ++ [b]), sn)) (CompOk.mk' (by with_unfolding_all rfl) rfl rfl rfl rfl rfl rfl rfl) S5.fs R.handled
        (Ev.twoL (τ := Ty.nmb one two) (x := false) (y := true) (Ev.name S5.fs rfl rfl) (Ev.name S5.fs rfl rfl)) (fun C => .inr ⟨rfl, rfl, _, rfl⟩) (by rw [hs]; decide) rfl ?_ ?_)) (.inl rfl) ?_ fun s6 P6 l6 S6 => ?_)
      · intro C a s2 P2 ha e F
        exact EvB.tests0
      · intro C b s2 P2 ha _ e F
        have W6 := W5.keeps e.keep
        refine Ev.tup3 (Ev.name F rfl rfl) (Ev.to (congrArg (List.map _) (filt mk)) (Comp.eval (Comp.lst (τ := Ty.mark one two) (σ := Ty.mark one two) (xs := mk) (p := fun _ => true) (f := fun m => m ++ [b]) (CompOk.mk' (by with_unfolding_all rfl) rfl rfl rfl rfl rfl rfl rfl) F R.handled (Ev.name F rfl rfl) (fun C => .inl rfl) (by have := hsm.2.1; dsimp only at this; omega) rfl ?_ ?_))) (Ev.name F rfl rfl)
        · intro C a s2 P2 ha e F
          exact EvB.tests0
        · intro C a s2 P2 ha _ e F
          have W7 := W6.keeps e.keep
          exact Ev.def2 W7 (R.le (by decide)) (Ev.name F rfl rfl) (Ev.name F rfl rfl) fun P v1 v2 q1 q2 => specM_join (n := 5) (by decide) G b (by have := hdep.2 a ha; omega) q1 q2
      · show rest.length + 2 ≤ sizeLine; omega
      · refine execs_nil' (execs_nil' ⟨P6, (l3.trans l5).trans l6, ?_⟩)
        exact (S6.only (L := [("copies", Ty.raw.at (.ref D)), ("one", Ty.str.at one), ("two", Ty.str.at two)]) ⟨rfl, rfl, rfl, trivial⟩).perm (pm_mid _).symm
    · intro hq s5 P5 l5 S5
      have hq' : ¬ (c % 3 = 1 ∧ rest.length < 3) := by simpa using hq
      rw [if_neg hq']
      have W5 := S5.wd W
      refine S5.ifs (b := decide (c % 3 = 2) && !rest.isEmpty) (EvB.and2 (EvB.to ?_ (EvB.eqI (x := ((c % 3 : Nat) : Int)) (y := 2) (Ev.to (fmod_nat c 3) (Ev.modI (x := (c : Int)) (y := 3) (Ev.name S5.fs rfl rfl) Ev.cInt (by decide))) Ev.cInt)) fun _ =>
        EvB.ownList S5 fun P' lP S' r => EvB.neNil ((Ev.name S'.fs rfl rfl).rawTo r) R.c) ?_ ?_
      · rw [decide_eq_decide]; omega
      · intro hq2 s6 P6 l6 S6
        have hq3 : c % 3 = 2 ∧ rest ≠ [] := by simpa using hq2
        rw [if_pos hq3]
        have hb := pick_mod hq3.2 (c / 12)
        have hn2 : rest.length ≠ 0 := by have := hq3.2; cases rest <;> simp_all
        refine wpAny_execs_cons (Assign_Tuple (St.popAt S6 (Ev.name S6.fs rfl rfl) (i := ((c / 12 % rest.length : Nat) : Int)) (x := rest[c / 12 % rest.length]) (fun s3 P3 l3 S3 => Ev.to (fd12 _ _) (Ev.modI (y := (rest.length : Int)) (Ev.divI (x := (c : Int)) (y := 12) (Ev.name S3.fs rfl rfl) Ev.cInt (by decide) (PyProof.noPylong_small (by decide))) (Ev.lenOwn S3 (Ev.built (S3.wd W) rfl b_len rfl rfl rfl rfl) (Ev.name S3.fs rfl rfl) (by omega)) (by omega))) (by omega) (by rw [Int.toNat_natCast]; exact List.getElem?_eq_getElem hb) (by omega) fun v s7 P7 l7 r7 S7 => ?_))
        rw [Int.toNat_natCast] at S7
        have hym : rest[c / 12 % rest.length] ∈ rest := List.getElem_mem hb
        have hgd : rest.getD (c / 12 % rest.length) ([], [], []) = rest[c / 12 % rest.length] := by rw [List.getD_eq_getElem?_getD, List.getElem?_eq_getElem hb]; rfl
        rw [hgd]
        clear hgd
        have hsm2 := hok.small (by omega) (hsub _ hym)
        have hdep2 := hok.dep _ (hsub _ hym)
        have hj2 := hjs _ (hsub _ hym) (by omega)
        have hrl2 := erase_len hb
        generalize rest.eraseIdx (c / 12 % rest.length) = rest2 at S7 hrl2
        generalize rest[c / 12 % rest.length] = y at r7 hsm2 hdep2 hj2
        obtain ⟨ot, mo, he⟩ := y
        dsimp only at hj2 hsm hsm2 hdep hdep2
        refine S7.assign3v R.handled r7 (.inl rfl) (.inl rfl) (.inl rfl) fun s8 S8 => ?_
        have W8 := S8.wd W
        refine wpAny_execs_cons (S8.assign2 R.handled (x := (iterJ (mk ++ mo).length (canonM one two (kn ++ ot), mk ++ mo)).1) (y := (iterJ (mk ++ mo).length (canonM one two (kn ++ ot), mk ++ mo)).2) (Ev.def4 (n := 7) W8 (R.le (by decide)) (Ev.sortedSetM G W8 R.handled (Ev.addL (Ev.name S8.fs rfl rfl) (Ev.name S8.fs rfl rfl) (by omega)) hj2.1) (Ev.addL (Ev.name S8.fs rfl rfl) (Ev.name S8.fs rfl rfl) (by omega)) (Ev.name S8.fs rfl rfl) (Ev.name S8.fs rfl rfl)
          fun P v1 v2 v3 v4 q1 q2 q3 q4 => spec_joined G ⟨fun m hm => ?_, fun m hm => ?_, ?_, ?_⟩ q1 q2 q3 q4) (.inr ⟨rfl, trivial, _, rfl⟩) (.inr ⟨rfl, trivial, _, rfl⟩) fun s9 P9 l9 S9 => ?_)
        · rcases List.mem_append.mp ((mem_canonM G).mp hm) with q | q
          · have := hdep.1 m q; omega
          · have := hdep2.1 m q; omega
        · rcases List.mem_append.mp hm with q | q
          · have := hdep.2 m q; omega
          · have := hdep2.2 m q; omega
        · have := len_canonM G (kn ++ ot); dsimp only; omega
        · dsimp only; omega
        · have W9 := S9.wd W
          refine wpAny_execs_cons (wpAny_Expr_any (St.append' S9 (Ev.name S9.fs rfl rfl) (fun sa Pa la Sa => Ev.tup3 (Ev.name Sa.fs rfl rfl) (Ev.name Sa.fs rfl rfl) (Ev.sortedSetI (Sa.wd W) R.handled (Ev.addL (Ev.name Sa.fs rfl rfl) (Ev.name Sa.fs rfl rfl) (by have := hj2.2.2; rw [List.length_append] at this; omega)) hj2.2.2)) (by omega) fun sb Pb lb Sb => ?_))
          refine execs_nil' (execs_nil' (execs_nil' ⟨Pb, ((((l3.trans l5).trans l6).trans l7).trans l9).trans lb, ?_⟩))
          exact (Sb.only (L := [("copies", Ty.raw.at (.ref D)), ("one", Ty.str.at one), ("two", Ty.str.at two)]) ⟨rfl, rfl, rfl, trivial⟩).perm (pm_mid _).symm
      · intro hq2 s6 P6 l6 S6
        have hq3 : ¬ (c % 3 = 2 ∧ rest ≠ []) := by simpa using hq2
        rw [if_neg hq3]
        refine wpAny_execs_cons (wpAny_Expr_any (St.append' S6 (Ev.name S6.fs rfl rfl) (fun sa Pa la Sa => Ev.tup3 (Ev.name Sa.fs rfl rfl) (Ev.name Sa.fs rfl rfl) (Ev.addL (Ev.name Sa.fs rfl rfl) (Ev.one (Ev.name Sa.fs rfl rfl)) (by have := hsm.2.2; dsimp only at this; rw [List.length_singleton]; omega))) (by omega) fun sb Pb lb Sb => ?_))
        refine execs_nil' (execs_nil' (execs_nil' ⟨Pb, ((l3.trans l5).trans l6).trans lb, ?_⟩))
        exact (Sb.only (L := [("copies", Ty.raw.at (.ref D)), ("one", Ty.str.at one), ("two", Ty.str.at two)]) ⟨rfl, rfl, rfl, trivial⟩).perm (pm_mid _).symm
  · intro s2 P2 l2 S2
    rw [List.take_length] at S2
    obtain ⟨o, ho, r, hP⟩ := S2.obj
    obtain ⟨o', r', S', l'⟩ := S2.freeze
    have r2 := Ob.listFin P2 o' D r' hP
    exact S'.ret ((Ev.name (τ := Ty.raw) S'.fs rfl rfl).rawTo r2)
end
end VS

end PartW5

noncomputable section PartW6
namespace VS
open PySem PySem.Calls PySem.W PyProof.Rows

section
variable {prog : Program} {w : World} {A : Around} {cs : Str → Prop} {env : Env} {s₀ s : Shared} {P₀ P : PM} {ρ : List (Str × Bd)} {O : List (Addr × Ob)}
/-- a statement, of which all that is kept is some names -/
theorem St.cut {t : Sem Flow} {Q : Flow → Shared → Prop} {E : Value → Shared → Prop} (S : St cs s₀ P₀ env ρ O s P) (L : List (Str × Bd))
    (h : wpAny (model prog w) A t (fun f s' => f = .next ∧ ∃ O P', St cs s₀ P₀ env L O s' P') (fun _ _ => False) s) (k : ∀ O s' P', St cs s₀ P₀ env L O s' P' → Q .next s') : wpAny (model prog w) A t Q E s :=
  wpAny_mono h (fun f s' ⟨e, O, P', S'⟩ => by subst e; exact k O s' P' S') fun _ _ h => h.elim
end
section
variable {prog : Program} {w : World} {lo : List Str} {p : Program} {mg mb : Str → Option Value} {P : PM}
theorem spec_common {v1 : Value} {one two : Str} (G : Good one two) {a b : List Bool} (ha : a.length ≤ 40) (hb : b.length ≤ 40) (r1 : (Ty.list (Ty.mark one two)).rel P v1 [a, b]) :
    Returns prog w (KF w.params) p lo mg mb 9 (.ref 134) [v1] P (Ty.mark one two) (lcp a b) := by
  refine Returns.def (ρ := [("paths", (Ty.list (Ty.mark one two)).at [a, b])]) rfl rfl rfl rfl (bind_pure rfl (.cons r1 .nil)) rfl rfl rfl ?_
  intro A s₀ P₀ s L R W S
  have hs : sizeLine = 16777216 := rfl
  have hpl : ∀ l ∈ [partsOf one two a, partsOf one two b], l.length ≤ 42 ∧ ∀ c ∈ l, c.length ≤ 3 := fun l hl => by
    rcases List.mem_cons.mp hl with rfl | hl
    · exact ⟨Nat.le_trans (parts_len a) (by omega), fun c hc => parts_small G hc⟩
    · rcases List.mem_cons.mp hl with rfl | hl
      · exact ⟨Nat.le_trans (parts_len b) (by omega), fun c hc => parts_small G hc⟩
      · cases hl
  have hlen : ∀ x ∈ [path one two a, path one two b], x.length ≤ 161 := fun x hx => by
    rcases List.mem_cons.mp hx with rfl | hx
    · have := path_len G a; omega
    · rcases List.mem_cons.mp hx with rfl | hx
      · have := path_len G b; omega
      · cases hx
  refine S.assigns (Ev.tupleMap (n := 3) (τ := Ty.str) (σ := Ty.str) (g := fun x => x) (S.wd W) (R.le (by decide)) (Ev.built (S.wd W) rfl b_tuple rfl rfl rfl rfl) (Ev.built (S.wd W) rfl b_map rfl rfl rfl rfl) (Ev.glob (v := .ref 94) (S.wd W) rfl rfl rfl rfl) (Ev.marksS (Ev.name S.fs rfl rfl)) (by show 2 ≤ sizeLine; rw [hs]; omega) (fun x hx P v r => spec_fspath r)) (.inl rfl) fun s1 P1 l1 S1 => ?_
  have W1 := S1.wd W
  replace S1 := S1.only (L := [("paths", (Ty.tuple Ty.str).at [path one two a, path one two b])]) ⟨rfl, trivial⟩
  refine S1.ifF (EvB.not (b := true) (EvB.val (Ev.name S1.fs rfl rfl) fun s' P' v e r => Truth.tuple e.sub r (by show 2 ≤ sizeLine; rw [hs]; omega))) fun s2 P2 l2 S2 => ?_
  refine execs_nil' ?_
  refine S2.ifF ?_ fun s3 P3 l3 S3 => ?_
  · refine EvB.val (τ := Ty.bool) (x := false) (Ev.callB (Ev.built (S2.wd W) rfl b_isinstance rfl rfl rfl rfl) (EvL.cons (Ev.itemT (τ := Ty.str) (j := 0) (x := path one two a) (Ev.name S2.fs rfl rfl) Ev.cInt (by decide) (by decide) rfl rfl) (EvL.cons (Ev.built (S2.wd W) rfl b_bytes rfl rfl rfl rfl) EvL.nil)) ?_) fun s1 P1 v e r => (by cases r; exact Truth.bool e.sub)
    rintro s1 P1 vs e ⟨v, r, rfl, ⟨t, rfl⟩, v2, r2, rfl, rfl, rfl⟩
    exact op_isi_bytes e.sub
  refine S3.assigns Ev.cStr (.inr ⟨rfl, trivial, _, rfl⟩) fun s4 P4 l4 S4 => ?_
  refine S4.assigns Ev.cStr (.inr ⟨rfl, trivial, _, rfl⟩) fun s5 P5 l5 S5 => ?_
  refine execs_nil' ?_
  replace S5 := S5.only (L := [("curdir", Ty.str.at "."), ("sep", Ty.str.at "/"), ("paths", (Ty.tuple Ty.str).at [path one two a, path one two b])]) ⟨rfl, rfl, rfl, trivial⟩
  refine wpAny_execs_cons (wpAny_Try_except ?_)
  have W5 := S5.wd W
  refine wpAny_execs_cons (St.assignComp S5 (Comp.tup (τ := Ty.str) (σ := Ty.list Ty.str) (xs := [path one two a, path one two b]) (p := fun _ => true) (f := fun x => Txt.split x "/") (CompOk.mk' (by with_unfolding_all rfl) rfl rfl rfl rfl rfl rfl rfl) S5.fs R.handled
    (Ev.name S5.fs rfl rfl) (fun C => .inl rfl) (by show 2 ≤ sizeLine; rw [hs]; omega) rfl ?_ ?_) (.inl rfl) fun s6 P6 l6 S6 => ?_)
  · intro C x s' P' hx e F
    exact EvB.tests0
  · intro C x s' P' hx _ e F
    exact Ev.strM (Ev.name F rfl rfl) (Ev.name F rfl rfl) PySem.F.slot_str_split PySem.F.type_str_split fun s1 P1 t u h => op_split h rfl (by have := hlen x hx; omega)
  replace S6 := S6.only (L := [("split_paths", (Ty.list (Ty.list Ty.str)).at [partsOf one two a, partsOf one two b]), ("curdir", Ty.str.at "."), ("sep", Ty.str.at "/"), ("paths", (Ty.tuple Ty.str).at [path one two a, path one two b])]) ⟨by rw [← split_path G a, ← split_path G b]; rfl, rfl, rfl, rfl, trivial⟩
  refine wpAny_execs_cons (wpAny_Try_except ?_)
  refine wpAny_execs_cons (Assign_Tuple ((Ev.setTrue (τ := Ty.str) (CompOk.mk' (by with_unfolding_all rfl) rfl rfl rfl rfl rfl rfl rfl) S6.fs R.handled (Ev.name S6.fs rfl rfl) (fun C => .inl rfl) (by show 3 < 4096; omega) rfl ?_).use S6.sub fun v s7 P7 e7 r7 => (S6.go e7).assignOne R.handled r7 (by simp) (.inl rfl) fun s8 P8 l8 S8 => ?_))
  · intro C x s' P' hx e F
    refine Ev.to ?_ (Ev.strM (Ev.name F rfl rfl) (Ev.name F rfl rfl) PySem.F.slot_str_startswith PySem.F.type_str_startswith fun s1 P1 t u h => op_startswith h)
    rcases List.mem_cons.mp hx with rfl | hx
    · exact starts_path a
    · rcases List.mem_cons.mp hx with rfl | hx
      · exact starts_path b
      · cases hx
  refine execs_nil' (execs_nil' ?_)
  replace S8 := S8.only (L := [("isabs", Ty.bool.at true), ("split_paths", (Ty.list (Ty.list Ty.str)).at [partsOf one two a, partsOf one two b]), ("curdir", Ty.str.at "."), ("sep", Ty.str.at "/"), ("paths", (Ty.tuple Ty.str).at [path one two a, path one two b])]) ⟨rfl, rfl, rfl, rfl, rfl, trivial⟩
  have W8 := S8.wd W
  refine wpAny_execs_cons (St.assignComp S8 (Comp.lst (τ := Ty.list Ty.str) (σ := Ty.list Ty.str) (xs := [partsOf one two a, partsOf one two b]) (p := fun _ => true) (f := fun l => l.filter keepName) (CompOk.mk' (by with_unfolding_all rfl) rfl rfl rfl rfl rfl rfl rfl) S8.fs R.handled
    (Ev.name S8.fs rfl rfl) (fun C => .inl rfl) (by show 2 ≤ sizeLine; rw [hs]; omega) rfl ?_ ?_) (.inl rfl) fun s9 P9 l9 S9 => ?_)
  · intro C x s' P' hx e F
    exact EvB.tests0
  · intro C l s' P' hx _ e F
    obtain ⟨hl1, hl2⟩ := hpl l hx
    refine Ev.to (List.map_id' _) (Comp.eval (Comp.lst (τ := Ty.str) (σ := Ty.str) (xs := l) (p := keepName) (f := fun c => c) (CompOk.mk' (by with_unfolding_all rfl) rfl rfl rfl rfl rfl rfl rfl) F R.handled (Ev.name F rfl rfl) (fun C => .inl rfl) ?_ rfl ?_ ?_))
    · rw [hs]; omega
    · intro C c s' P' hc e F
      refine EvB.tests1 (EvB.to ?_ (EvB.and2 (EvB.val (Ev.name F rfl rfl) fun s1 P1 v e r => Truth.str e.sub r ?_) fun _ => EvB.neS (Ev.name F rfl rfl) (Ev.name F rfl rfl)))
      · exact keep_eq c
      · have := hl2 c hc; omega
    · intro C c s' P' hc _ e F
      exact Ev.name F rfl rfl
  have hmap : (List.filter (fun _ => true) [partsOf one two a, partsOf one two b]).map (fun l => l.filter keepName) = [a.map (nm one two), b.map (nm one two)] := by
    show [(partsOf one two a).filter keepName, (partsOf one two b).filter keepName] = _
    rw [parts_names G, parts_names G]
  rw [hmap] at S9
  replace S9 := S9.only (L := [("split_paths", (Ty.list (Ty.list Ty.str)).at [a.map (nm one two), b.map (nm one two)]), ("isabs", Ty.bool.at true), ("sep", Ty.str.at "/")]) ⟨rfl, rfl, rfl, trivial⟩
  obtain ⟨hle, hlcp⟩ := ends_of (a.map (nm one two)) (b.map (nm one two))
  rw [lcp_map (fun x y h => nm_inj G h)] at hlcp
  have hu : A.units + 1 < cLine := by have := R.units; unfold cLine; omega
  refine S9.assigns (Ev.callB (Ev.built (S9.wd W) rfl b_min rfl rfl rfl rfl) (EvL.cons (Ev.name S9.fs rfl rfl) EvL.nil) (τ := Ty.list Ty.str) (x := mm false (a.map (nm one two)) (b.map (nm one two))) ?_) (.inl rfl) fun s10 P10 l10 S10 => ?_
  · rintro s1 P1 vs e ⟨v, r, rfl, rv, rfl⟩
    exact op_min2 e.sub R.handled hu rv
  refine S10.assigns (Ev.callB (Ev.built (S10.wd W) rfl b_max rfl rfl rfl rfl) (EvL.cons (Ev.name S10.fs rfl rfl) EvL.nil) (τ := Ty.list Ty.str) (x := mm true (a.map (nm one two)) (b.map (nm one two))) ?_) (.inl rfl) fun s11 P11 l11 S11 => ?_
  · rintro s1 P1 vs e ⟨v, r, rfl, rv, rfl⟩
    exact op_max2 e.sub R.handled hu rv
  have hlm : ∀ gt, (mm gt (a.map (nm one two)) (b.map (nm one two))).length ≤ 40 := fun gt => by
    unfold mm; split <;> rw [List.length_map] <;> omega
  have h1l := hlm false
  have h2l := hlm true
  generalize mm false (a.map (nm one two)) (b.map (nm one two)) = s1 at *
  generalize mm true (a.map (nm one two)) (b.map (nm one two)) = s2 at *
  refine S11.assigns (Ev.name S11.fs rfl rfl) (.inl rfl) fun s12 P12 l12 S12 => ?_
  replace S12 := S12.only (L := [("common", (Ty.list Ty.str).at s1), ("s2", (Ty.list Ty.str).at s2), ("s1", (Ty.list Ty.str).at s1), ("isabs", Ty.bool.at true), ("sep", Ty.str.at "/")]) ⟨rfl, rfl, rfl, rfl, rfl, trivial⟩
  refine wpAny_execs_cons (S12.cut [("common", (Ty.list Ty.str).at (lcp s1 s2)), ("isabs", Ty.bool.at true), ("sep", Ty.str.at "/")] ?loop ?fin)
  case fin =>
    intro O s13 P13 S13
    rw [hlcp] at S13
    refine S13.assigns (Ev.ifExp (c := true) (EvB.bool (Ev.name S13.fs rfl rfl)) (fun _ => Ev.name S13.fs rfl rfl) (fun q => by cases q)) (.inl rfl) fun s14 P14 l14 S14 => ?_
    have hll := lcp_le a b
    refine S14.ret (τ := Ty.mark one two) (x := lcp a b) (Ev.markB (Ev.to (tx_join one two (lcp a b)) ?_))
    refine Ev.addS (x := "/") (y := Txt.join "/" ((lcp a b).map (nm one two))) ?_ ?_ ?_
    · exact Ev.name S14.fs rfl rfl
    · refine Ev.joinS ?_ ?_ ?_
      · exact Ev.name S14.fs rfl rfl
      · exact Ev.name S14.fs rfl rfl
      refine joinOk_small (by rw [List.length_map]; omega) fun c hc => ?_
      obtain ⟨x, _, rfl⟩ := List.mem_map.mp hc
      have := nm_len G x
      rw [len_L]; exact this
    · have h2 := congrArg Str.length (tx_join one two (lcp a b))
      rw [Str.length_append] at h2
      have := path_len G (lcp a b)
      rw [h2, hs]; omega
  case loop =>
    refine St.forS S12 (Src.enum (τ := Ty.str) (xs := s1) (B := pick "c" Ty.str s1) R.handled (Ev.built (S12.wd W) rfl b_enumerate rfl rfl rfl rfl) (Ev.name S12.fs rfl rfl) (fun _ => .inl rfl) fun C i a v P' hx r => by
      have : pick ("c" : Str) Ty.str s1 i = [(("c" : Str), Ty.str.at a)] := by unfold pick; rw [hx]
      rw [this]; exact Asg.name r (.inl rfl)) (fun i ρ O => s1.take i = s2.take i ∧ O = [] ∧ ρ = [(("common" : Str), (Ty.list Ty.str).at s1), ("s2", (Ty.list Ty.str).at s2), ("s1", (Ty.list Ty.str).at s1), ("isabs", Ty.bool.at true), ("sep", Ty.str.at "/")]) ⟨rfl, rfl, rfl⟩ ?_ ?_
    · rintro i ρ O s13 P13 its E hi l13 ⟨ht, rfl, rfl⟩ S13
      rw [pick_of hi] at S13
      have hi2 := ends_room hle hi ht
      refine S13.ifs (b := !decide (s1[i] = s2[i])) (EvB.neS (Ev.name S13.fs rfl rfl) (Ev.item (k := (i : Int)) (x := s2[i]) (Ev.name S13.fs rfl rfl) (Ev.name S13.fs rfl rfl) (by omega) (by rw [Int.toNat_natCast]; exact List.getElem?_eq_getElem hi2) (by omega))) ?_ ?_
      · intro hq s14 P14 l14 S14
        have hne : s1[i] ≠ s2[i] := by simpa using hq
        refine S14.assigns (Ev.take (n := i) (Ev.name S14.fs rfl rfl) (Ev.name S14.fs rfl rfl) (by omega)) (.inl rfl) fun s15 P15 l15 S15 => ?_
        refine wpAny_execs_cons (wpAny_Break ⟨rfl, its ++ [], P15, S15.only ⟨?_, rfl, rfl, trivial⟩⟩)
        show some _ = some _
        rw [lcp_stop hi hi2 ht hne]
      · intro hq s14 P14 l14 S14
        have he : s1[i] = s2[i] := by simpa using hq
        refine execs_nil' (execs_nil' ⟨_, [], P14, l14, S14.only (L := [("common", (Ty.list Ty.str).at s1), ("s2", (Ty.list Ty.str).at s2), ("s1", (Ty.list Ty.str).at s1), ("isabs", Ty.bool.at true), ("sep", Ty.str.at "/")]) ⟨rfl, rfl, rfl, rfl, rfl, trivial⟩, ?_, rfl, rfl⟩)
        rw [List.take_succ_eq_append_getElem hi, List.take_succ_eq_append_getElem hi2, ht, he]
    · rintro ρ O s13 P13 l13 ⟨ht, rfl, rfl⟩ S13
      refine ⟨rfl, [], P13, S13.only ⟨?_, rfl, rfl, trivial⟩⟩
      show some _ = some _
      rw [lcp_all (by rw [List.take_length] at ht; exact ht)]
end
end VS

end PartW6

noncomputable section PartW7
namespace VS
open PySem PySem.Calls PySem.W PyProof.Rows
def nI (ns : List Nat) : List Int := ns.map Int.ofNat
theorem nI_len (ns : List Nat) : (nI ns).length = ns.length := List.length_map _
theorem fdm (c a b : Nat) : ((c : Int).fdiv (a : Int)).fmod (b : Int) = ((c / a % b : Nat) : Int) := by rw [fdiv_nat, fmod_nat]
section
variable {cs : Str → Prop} {s₀ s s' : Shared} {P₀ P P' : PM} {env : Env} {ρ : List (Str × Bd)} {O : List (Addr × Ob)}
/-- a name is known otherwise -/
theorem St.retype {n : Str} {b b' : Bd} (S : St cs s₀ P₀ env ((n, b) :: ρ) O s P) (h : ∀ v, b.rel P v → b'.rel P v) : St cs s₀ P₀ env ((n, b') :: ρ) O s P := S.names fun m d hm => by
  rw [List.lookup_cons] at hm ⊢
  cases q : m == n with
  | true => rw [q] at hm; cases hm; exact ⟨b, rfl, h⟩
  | false => rw [q] at hm; exact ⟨d, hm, fun _ r => r⟩
end
section
variable {prog : Program} {w : World} {A : Around} {env : Env} {s : Shared} {P : PM}
theorem Ev.natL {t : Sem Value} {ns : List Nat} (h : Ev prog w A s P t (Ty.list Ty.int) (nI ns)) : Ev prog w A s P t (Ty.list Ty.nat) ns := fun s1 P1 e =>
  wpAny_mono (h s1 P1 e) (fun v s2 ⟨P2, e2, vs, q, pr⟩ => ⟨P2, e2, vs, q, by
    have key : ∀ {vs : List Value} {ns : List Nat}, Paired (Ty.int.rel P2) vs (nI ns) → Paired (Ty.nat.rel P2) vs ns := by
      intro vs ns
      induction ns generalizing vs with
      | nil => intro h; cases h; exact .nil
      | cons n r ih => intro h; cases h with | cons a b => exact .cons a (ih b)
    exact key pr⟩) fun _ _ f => f
end
section
variable {prog : Program} {w : World} {lo : List Str} {p : Program} {mg mb : Str → Option Value} {P : PM}
set_option maxHeartbeats 4000000 in
theorem spec_drawn {v1 : Value} {xs : List Int} (hx : xs.length ≤ 100000) (r1 : (Ty.listW Ty.int).rel P v1 xs) :
    Returns prog w (KF w.params) p lo mg mb 3 (.ref 148) [v1] P (Ty.trip Ty.str Ty.str (Ty.list Ty.nat))
      (oneOf ((cellsI (xs.take 60) (xs.take 60).length).getD 0 0), twoOf ((cellsI (xs.take 60) (xs.take 60).length).getD 0 0), (cellsI (xs.take 60) (xs.take 60).length).drop 1) := by
  refine Returns.def (ρ := [("script", (Ty.listW Ty.int).at xs)]) rfl rfl rfl rfl (bind_pure rfl (.cons r1 .nil)) rfl rfl rfl ?_
  intro A s₀ P₀ s L R W S
  have hs : sizeLine = 16777216 := rfl
  refine S.ownDisplay (α := Int) (τ := Ty.int) (xs := [0, 1, 0, 0, 1, 1, 29, 1, 6, 35]) (R := fun P vs => Paired (Ty.int.rel P) vs [0, 1, 0, 0, 1, 1, 29, 1, 6, 35]) ?e1 ?e2 ?e3 ?e4 ?e5
  case e3 => exact Nat.le_of_ble_eq_true rfl
  case e4 => exact .inl rfl
  case e2 => exact fun P1 vs h => h
  case e1 =>
    show EvLs _ _ _ _ _ _ Ty.int _
    refine EvLs.cons (x := (0 : Int)) ?_ ?_ ?_; exact Ev.cInt; rotate_left; exact star_const _ _ _ _ _
    refine EvLs.cons (x := (1 : Int)) ?_ ?_ ?_; exact Ev.cInt; rotate_left; exact star_const _ _ _ _ _
    refine EvLs.cons (x := (0 : Int)) ?_ ?_ ?_; exact Ev.cInt; rotate_left; exact star_const _ _ _ _ _
    refine EvLs.cons (x := (0 : Int)) ?_ ?_ ?_; exact Ev.cInt; rotate_left; exact star_const _ _ _ _ _
    refine EvLs.cons (x := (1 : Int)) ?_ ?_ ?_; exact Ev.cInt; rotate_left; exact star_const _ _ _ _ _
    refine EvLs.cons (x := (1 : Int)) ?_ ?_ ?_; exact Ev.cInt; rotate_left; exact star_const _ _ _ _ _
    refine EvLs.cons (x := (29 : Int)) ?_ ?_ ?_; exact Ev.cInt; rotate_left; exact star_const _ _ _ _ _
    refine EvLs.cons (x := (1 : Int)) ?_ ?_ ?_; exact Ev.cInt; rotate_left; exact star_const _ _ _ _ _
    refine EvLs.cons (x := (6 : Int)) ?_ ?_ ?_; exact Ev.cInt; rotate_left; exact star_const _ _ _ _ _
    refine EvLs.cons (x := (35 : Int)) ?_ ?_ ?_; exact Ev.cInt; rotate_left; exact star_const _ _ _ _ _
    exact EvLs.nil
  intro D s1 P1 l1 S1
  have S1' := S1.weakList
  have hn : (xs.take 60).length ≤ 60 := by rw [List.length_take]; omega
  generalize hys : xs.take 60 = ys at hn ⊢
  refine St.forX S1' (fun i => [("cells", Ty.raw.at (.ref D))]) (fun i => [(D, Ob.listW Ty.int (nI (cellsI ys i)))])
    (Src.enum (τ := Ty.int) (xs := ys) (B := pick "x" Ty.int ys) R.handled (Ev.built (S1'.wd W) rfl b_enumerate rfl rfl rfl rfl) (Ev.to hys (Ev.takeW (n := 60) (Ev.name S1'.fs rfl rfl) Ev.cInt (by omega))) (fun _ => .inl rfl) fun C i a v P' hx r => by
      have : pick ("x" : Str) Ty.int ys i = [(("x" : Str), Ty.int.at a)] := by unfold pick; rw [hx]
      rw [this]; exact Asg.name r (.inl rfl)) ⟨rfl, trivial⟩ rfl ?_ ?_
  · intro i s2 P2 its E hi l2 S2
    rw [pick_of hi] at S2
    replace S2 := (S2.only (L := [("x", Ty.int.at ys[i]), ("k", Ty.int.at (i : Int)), ("cells", Ty.raw.at (.ref D))]) ⟨rfl, rfl, rfl, trivial⟩).perm (pm_mid _)
    have hl := cellsI_len ys i
    have hk : i % 10 < (cellsI ys i).length := by rw [hl]; omega
    refine wpAny_execs_cons (S2.augItem (j := i % 10) (y := ys[i].fmod 10000000) (Ev.name S2.fs rfl rfl) (Ev.to (fmod_nat i 10) (Ev.modI (x := (i : Int)) (y := 10) (Ev.name S2.fs rfl rfl) Ev.cInt (by decide))) (Ev.modI (Ev.name S2.fs rfl rfl) Ev.cInt (by decide)) (by rw [nI_len]; exact hk) (by rw [nI_len, hl]; omega) fun s3 P3 l3 S3 => ?_)
    refine execs_nil' ⟨P3, l3, ?_⟩
    have he : (nI (cellsI ys i)).set (i % 10) ((nI (cellsI ys i))[i % 10]'(by rw [nI_len]; exact hk) + ys[i].fmod 10000000) = nI (cellsI ys (i + 1)) := by
      show _ = nI (bump _ _ _)
      unfold nI bump
      rw [List.map_set, List.getElem_map, List.getD_eq_getElem?_getD, List.getElem?_eq_getElem hk, List.getD_eq_getElem?_getD, List.getElem?_eq_getElem hi]
      congr 1
      have := Int.fmod_nonneg_of_pos ys[i] (show (0 : Int) < 10000000 by decide)
      simp only [Option.getD_some]
      generalize ys[i].fmod 10000000 = z at *
      show ((_ : Nat) : Int) + z = ((_ + z.toNat : Nat) : Int)
      omega
    rw [he] at S3
    exact (S3.only (L := [("cells", Ty.raw.at (.ref D))]) ⟨rfl, trivial⟩).perm (pm_mid _).symm
  · intro s2 P2 l2 S2
    have hl := cellsI_len ys ys.length
    generalize cellsI ys ys.length = cells at S2 hl
    obtain ⟨c0, hc0⟩ : ∃ c0, cells[0]? = some c0 := ⟨_, List.getElem?_eq_getElem (by omega)⟩
    have hg : cells.getD 0 0 = c0 := by rw [List.getD_eq_getElem?_getD, hc0]; rfl
    rw [hg]
    have hc0' : (nI cells)[0]? = some (c0 : Int) := by unfold nI; rw [List.getElem?_map, hc0]; rfl
    obtain ⟨o, r, S3, l3⟩ := S2.freeze
    have q := Ob.listWFin r S2.obj.choose_spec.2.2
    have S4 := S3.retype (b' := (Ty.listW Ty.int).at (nI cells)) fun v e => by cases e; exact q
    have hcl := nI_len cells
    have hm12 : c0 % 12 < 12 := Nat.mod_lt _ (by decide)
    have hm11 : c0 / 12 % 11 < 11 := Nat.mod_lt _ (by decide)
    refine S4.ownDisplay (α := Str) (τ := Ty.str) (xs := poolL) (R := fun P vs => Paired (Ty.str.rel P) vs poolL) ?f1 ?f2 ?f3 ?f4 ?f5
    case f3 => exact Nat.le_of_ble_eq_true rfl
    case f4 => exact .inl rfl
    case f2 => exact fun P1 vs h => h
    case f1 =>
      show EvLs _ _ _ _ _ _ Ty.str ["a", "aa", "a.", ".a", "..a", "b", "0", "00", "-", " ", "a a", "..."]
      refine EvLs.cons (x := ("a" : Str)) ?_ ?_ ?_; exact Ev.cStr; rotate_left; exact star_const _ _ _ _ _
      refine EvLs.cons (x := ("aa" : Str)) ?_ ?_ ?_; exact Ev.cStr; rotate_left; exact star_const _ _ _ _ _
      refine EvLs.cons (x := ("a." : Str)) ?_ ?_ ?_; exact Ev.cStr; rotate_left; exact star_const _ _ _ _ _
      refine EvLs.cons (x := (".a" : Str)) ?_ ?_ ?_; exact Ev.cStr; rotate_left; exact star_const _ _ _ _ _
      refine EvLs.cons (x := ("..a" : Str)) ?_ ?_ ?_; exact Ev.cStr; rotate_left; exact star_const _ _ _ _ _
      refine EvLs.cons (x := ("b" : Str)) ?_ ?_ ?_; exact Ev.cStr; rotate_left; exact star_const _ _ _ _ _
      refine EvLs.cons (x := ("0" : Str)) ?_ ?_ ?_; exact Ev.cStr; rotate_left; exact star_const _ _ _ _ _
      refine EvLs.cons (x := ("00" : Str)) ?_ ?_ ?_; exact Ev.cStr; rotate_left; exact star_const _ _ _ _ _
      refine EvLs.cons (x := ("-" : Str)) ?_ ?_ ?_; exact Ev.cStr; rotate_left; exact star_const _ _ _ _ _
      refine EvLs.cons (x := (" " : Str)) ?_ ?_ ?_; exact Ev.cStr; rotate_left; exact star_const _ _ _ _ _
      refine EvLs.cons (x := ("a a" : Str)) ?_ ?_ ?_; exact Ev.cStr; rotate_left; exact star_const _ _ _ _ _
      refine EvLs.cons (x := ("..." : Str)) ?_ ?_ ?_; exact Ev.cStr; rotate_left; exact star_const _ _ _ _ _
      exact EvLs.nil
    intro D2 s5 P5 l5 S5
    have hp12 : poolL.length = 12 := rfl
    have hone : poolL[c0 % 12]? = some (oneOf c0) := by unfold oneOf; rw [List.getD_eq_getElem?_getD, List.getElem?_eq_getElem (by omega)]; rfl
    have htwo : (poolL.eraseIdx (c0 % 12))[c0 / 12 % 11]? = some (twoOf c0) := by
      have : (poolL.eraseIdx (c0 % 12)).length = 11 := by rw [List.length_eraseIdx_of_lt (by omega), hp12]
      unfold twoOf; rw [List.getD_eq_getElem?_getD, List.getElem?_eq_getElem (by omega)]; rfl
    refine wpAny_execs_cons (wpAny_Assign_Name (S5.popAt (i := ((c0 % 12 : Nat) : Int)) (x := oneOf c0) (Ev.name S5.fs rfl rfl) (fun sa Pa la Sa => Ev.to (fmod_nat c0 12) (Ev.modI (x := (c0 : Int)) (y := 12) (Ev.itemW (k := 0) (Ev.name Sa.fs rfl rfl) Ev.cInt (by decide) hc0' (by omega)) Ev.cInt (by decide))) (by omega) (by rw [Int.toNat_natCast]; exact hone) (by rw [hp12]; omega) fun v s6 P6 l6 r6 S6 => S6.store (b := Ty.str.at (oneOf c0)) r6 (.inl rfl) fun s7 S7 => ?_))
    rw [Int.toNat_natCast] at S7
    obtain ⟨o2, r2, S8, l8⟩ := S7.freeze
    have q2 := Ob.listFin P6 o2 D2 r2 S7.obj.choose_spec.2.2
    refine S8.ret (Ev.tup3 (Ev.name S8.fs rfl rfl) (Ev.item (k := ((c0 / 12 % 11 : Nat) : Int)) ((Ev.name (τ := Ty.raw) S8.fs rfl rfl).rawTo q2) (Ev.to ?_ (Ev.modI (y := 11) (Ev.divI (x := (c0 : Int)) (y := 12) (Ev.itemW (k := 0) (Ev.name S8.fs rfl rfl) Ev.cInt (by decide) hc0' (by omega)) Ev.cInt (by decide) (PyProof.noPylong_small (by decide))) Ev.cInt (by decide))) (by omega) (by rw [Int.toNat_natCast]; exact htwo) ?_) (Ev.natL ?_))
    · exact fdm c0 12 11
    · rw [List.length_eraseIdx_of_lt (by omega), hp12]; omega
    · refine Ev.to ?_ (Ev.dropW (n := 1) (Ev.name S8.fs rfl rfl) Ev.cInt (by omega))
      unfold nI; rw [List.map_drop]
end
end VS

end PartW7

noncomputable section PartX10
namespace VS
open PySem PySem.Calls PySem.W PyProof.Rows
theorem shift_bit (number i : Nat) : Builtin.bitAnd (((number : Nat) : Int).fdiv (2 ^ ((i : Nat) : Int).toNat)) 1 = ((number / 2 ^ i % 2 : Nat) : Int) := by
  rw [Int.toNat_natCast, show ((2 : Int) ^ i) = ((2 ^ i : Nat) : Int) from by rw [Int.natCast_pow]; rfl, fdiv_nat]
  unfold Builtin.bitAnd
  rw [decide_eq_true (Int.natCast_nonneg _), show decide ((0 : Int) ≤ 1) = true from rfl]
  show (((((number / 2 ^ i : Nat) : Int).toNat &&& (1 : Int).toNat : Nat)) : Int) = _
  rw [Int.toNat_natCast, show (1 : Int).toNat = 1 from rfl, Nat.and_one_is_mod]
section
variable {prog : Program} {w : World} {A : Around} {env : Env} {s s' : Shared} {P P' : PM} {α β γ δ : Type} {τ : Ty α} {σ : Ty β} {υ : Ty γ} {ξ : Ty δ} {x : α} {y : β} {z : γ} {l r : Expr} {pos : Pos} {whole : Sem Value}
/-- the parts of a row of three -/
theorem Ev.part0 {value slice : Expr} (h : Ev prog w A s P (eval value env) (Ty.trip τ σ υ) (x, y, z)) (h2 : Ev prog w A s P (eval slice env) Ty.int 0)
    (hs : ∀ v t, subscripted slice false v (.int 0 t) = operate [v, .int 0 t] (getItem v (.int 0 t)) := by intro _ _; with_unfolding_all rfl) : Ev prog w A s P (eval (.Subscript value slice pos) env) τ x :=
  Ev.sub h h2 fun s1 P1 a b e ⟨v1, v2, v3, q, r1, r2, r3⟩ ⟨t, rb⟩ => by subst rb; exact op_itemT e.sub q (by decide) (by decide) (j := 0) rfl rfl r1 (hs _ _)
theorem Ev.part2 {value slice : Expr} (h : Ev prog w A s P (eval value env) (Ty.trip τ σ υ) (x, y, z)) (h2 : Ev prog w A s P (eval slice env) Ty.int 2)
    (hs : ∀ v t, subscripted slice false v (.int 2 t) = operate [v, .int 2 t] (getItem v (.int 2 t)) := by intro _ _; with_unfolding_all rfl) : Ev prog w A s P (eval (.Subscript value slice pos) env) υ z :=
  Ev.sub h h2 fun s1 P1 a b e ⟨v1, v2, v3, q, r1, r2, r3⟩ ⟨t, rb⟩ => by subst rb; exact op_itemT e.sub q (by decide) (by decide) (j := 2) rfl rfl r3 (hs _ _)
theorem pair_nI {vs : List Value} : ∀ {ns : List Nat}, Paired (Ty.nat.rel P) vs ns → Paired (Ty.int.rel P) vs (nI ns)
  | _, .nil => .nil
  | _, .cons a r => .cons a (pair_nI r)
theorem Ev.intL {t : Sem Value} {ns : List Nat} (h : Ev prog w A s P t (Ty.list Ty.nat) ns) : Ev prog w A s P t (Ty.list Ty.int) (nI ns) := fun s1 P1 e =>
  wpAny_mono (h s1 P1 e) (fun v s2 ⟨P2, e2, vs, q, pr⟩ => ⟨P2, e2, vs, q, pair_nI pr⟩) fun _ _ f => f
theorem nI_has (ns : List Nat) (n : Nat) : (nI ns).contains (n : Int) = ns.contains n := by
  rw [Bool.eq_iff_iff, List.contains_iff_mem, List.contains_iff_mem]
  unfold nI
  rw [List.mem_map]
  constructor
  · rintro ⟨m, hm, e⟩
    have : m = n := by have e' : (m : Int) = (n : Int) := e; omega
    exact this ▸ hm
  · intro h; exact ⟨n, h, rfl⟩
theorem EvB.inN {n : Nat} {ns : List Nat} (h1 : Ev prog w A s P (eval l env) Ty.nat n) (h2 : Ev prog w A s P (eval r env) (Ty.list Ty.nat) ns) (hm : behindInMarks .In r = false := by with_unfolding_all rfl) : EvB prog w A s P (isTrue (.Compare l [.In] [r] pos) env whole) (ns.contains n) :=
  EvB.to (nI_has ns n) (EvB.inI (x := (n : Int)) h1 h2.intL hm)
theorem EvB.neN {m n : Nat} (h1 : Ev prog w A s P (eval l env) Ty.nat m) (h2 : Ev prog w A s P (eval r env) Ty.nat n) (hm : behindInMarks .NotEq r = false := by with_unfolding_all rfl) : EvB prog w A s P (isTrue (.Compare l [.NotEq] [r] pos) env whole) (decide (m ≠ n)) :=
  EvB.to (by
    by_cases h : m = n
    · subst h; simp
    · have h' : ¬ (m : Int) = (n : Int) := by omega
      simp [h, h']) (EvB.neI (x := (m : Int)) (y := (n : Int)) h1 h2 hm)
theorem flat_pick {α' γ' : Type} (xs : List α') (m : Nat → Nat) (f : Nat → Nat → List γ') (g : α' → List γ') (h : ∀ i (hi : i < xs.length), ((List.range (m i)).flatMap fun j => f i j) = g xs[i]) :
    ((List.range xs.length).flatMap fun i => (List.range (m i)).flatMap fun j => f i j) = xs.flatMap g := by
  have e1 : ((List.range xs.length).flatMap fun i => (List.range (m i)).flatMap fun j => f i j) = (List.range xs.length).flatMap fun i => match xs[i]? with | some a => g a | none => [] :=
    List.flatMap_congr' fun i hi => by
      have hi' := List.mem_range.mp hi
      rw [h i hi', List.getElem?_eq_getElem hi']
  rw [e1]
  have key : ∀ (ys : List α'), ((List.range ys.length).flatMap fun i => match ys[i]? with | some a => g a | none => []) = ys.flatMap g := by
    intro ys
    induction ys with
    | nil => rfl
    | cons a r ih =>
      rw [List.length_cons, List.range_succ_eq_map, List.flatMap_cons, List.flatMap_cons, List.flatMap_map, ← ih]
      rfl
  exact key xs
/-- two clauses, over lists; the first to any target -/
theorem Comp.lst2 {A : Around} {env : Env} {s : Shared} {P : PM} {ρ : List (Str × Bd)} {elt t1 i1 i2 : Expr} {ifs : List Expr} {y : Str} {py : Pos} {scope : Scope} {cl : List (Str × Addr)} {pos : Pos} {xs : List α} {ys : α → List β} {B : α → List (Str × Bd)} {p : α → β → Bool} {f : α → β → γ} {bound : Nat} [Inhabited γ]
    (H : CompOk scope env cl) (F : FS env ρ s.heap P) (hh : A.handled = none) (h : Ev prog w A s P (PySem.eval i1 env) (Ty.list τ) xs)
    (ht : ∀ C (i : Nat) (a : α) v P', xs[i]? = some a → τ.rel P' v a → Asg prog w A (ownCells scope) (compE scope cl env C) t1 v P' (B a))
    (hk : ∀ C, Storable (ownCells scope) (compE scope cl env C) y) (hm : ∀ a ∈ xs, (ys a).length ≤ bound) (hn : (xs.length + 1) * bound ≤ sizeLine)
    (hB : ∀ a, ((B a).all fun x => ((capt cl ρ).lookup x.1).isNone) = true) (hB2 : ∀ a, ((B a ++ capt cl ρ).lookup y).isNone = true)
    (src : ∀ C a s' P', a ∈ xs → Ext s P s' P' → FS (compE scope cl env C) (B a ++ capt cl ρ) s'.heap P' → Ev prog w A s' P' (PySem.eval i2 (compE scope cl env C)) (Ty.list σ) (ys a))
    (test : ∀ C a b s' P', a ∈ xs → b ∈ ys a → Ext s P s' P' → FS (compE scope cl env C) ((y, σ.at b) :: (B a ++ capt cl ρ)) s'.heap P' → EvB prog w A s' P' (testsOf ifs (compE scope cl env C)) (p a b))
    (el : ∀ C a b s' P', a ∈ xs → b ∈ ys a → p a b = true → Ext s P s' P' → FS (compE scope cl env C) ((y, σ.at b) :: (B a ++ capt cl ρ)) s'.heap P' → Ev prog w A s' P' (PySem.eval elt (compE scope cl env C)) υ (f a b))
    (hs2 : ∀ C x, foldedSetIterable i2 (compE scope cl env C) x = pure x := by intro _ _; rfl)
    (hs : ∀ x, foldedSetIterable i1 env x = pure x := by intro _; rfl) :
    Comp prog w A s P (lComp elt [⟨t1, i1, [], 0⟩, ⟨.Name y py, i2, ifs, 0⟩] scope pos env) (Ty.list υ) (xs.flatMap fun a => ((ys a).filter (p a)).map (f a)) := by
  have hbi : ∀ i (hi : i < xs.length), (match xs[i]? with | some a => B a | none => []) = B xs[i] := fun i hi => by rw [List.getElem?_eq_getElem hi]
  have hyi : ∀ i (hi : i < xs.length), (match xs[i]? with | some a => ys a | none => []) = ys xs[i] := fun i hi => by rw [List.getElem?_eq_getElem hi]
  have key := Comp.two (prog := prog) (w := w) (A := A) (elt := elt) (pos := pos) (σ := υ) (t1 := t1) (t2 := .Name y py) (ifs := ifs) (n := xs.length) (bound := bound)
    (m := fun i => (match xs[i]? with | some a => ys a | none => []).length)
    (B := fun i => match xs[i]? with | some a => B a | none => []) (B2 := fun i j => pick y σ (match xs[i]? with | some a => ys a | none => []) j)
    (p := fun i j => match xs[i]? with | some a => ((ys a)[j]?.map (p a)).getD false | none => false) (f := fun i j => match xs[i]? with | some a => ((ys a)[j]?.map (f a)).getD default | none => default) H F
    (Src.list hh h fun C i a v P' hx r => by rw [hx]; exact ht C i a v P' hx r)
    (fun i => by
      cases q : xs[i]? with
      | none => exact Nat.zero_le _
      | some a => exact hm a (List.mem_of_getElem? q)) hn (fun i hi => by rw [hbi i hi]; exact hB _)
    (fun i j hi hj => by
      rw [hyi i hi] at hj
      rw [hbi i hi, hyi i hi, pick_of hj]
      simpa using hB2 xs[i])
    (fun C i s' P' hi e F' => by
      rw [hbi i hi] at F'
      rw [hyi i hi]
      exact Src.list hh (src C _ s' P' (List.getElem_mem hi) e F') fun C' j b v P2 hx r => by
        have : pick y σ (ys xs[i]) j = [(y, σ.at b)] := by unfold pick; rw [hx]
        rw [this]; exact Asg.name r (hk C))
    (fun C i j s' P' hi hj e F' => by
      rw [hyi i hi] at hj
      rw [hbi i hi, hyi i hi, pick_of hj] at F'
      have := test C _ _ s' P' (List.getElem_mem hi) (List.getElem_mem hj) e F'
      simpa [List.getElem?_eq_getElem hi, List.getElem?_eq_getElem hj] using this)
    (fun C i j s' P' hi hj hp e F' => by
      rw [hyi i hi] at hj
      rw [hbi i hi, hyi i hi, pick_of hj] at F'
      have := el C _ _ s' P' (List.getElem_mem hi) (List.getElem_mem hj) (by simpa [List.getElem?_eq_getElem hi, List.getElem?_eq_getElem hj] using hp) e F'
      simpa [List.getElem?_eq_getElem hi, List.getElem?_eq_getElem hj] using this) hs2 hs
  rw [flat_pick (g := fun a => ((ys a).filter (p a)).map (f a)) xs _ _ (fun i hi => by
    simp only [List.getElem?_eq_getElem hi]
    exact range_pick (p := p xs[i]) (f := f xs[i]) _ _ (ys xs[i]) (fun j h => by simp [List.getElem?_eq_getElem h]) (fun j h => by simp [List.getElem?_eq_getElem h]))] at key
  exact key
end
end VS

end PartX10

noncomputable section PartP8
namespace VS
open PySem PyProof.Rows
/-! what the last question asks, in plain words -/
abbrev noCopy : Copy := ([], [], [])
def seenOf (cs : List Copy) (k : Nat) : List Int := (cs.getD k noCopy).2.2
def knownOf (cs : List Copy) (k : Nat) : List Mark := (cs.getD k noCopy).1
def othersOf (n j : Nat) : List Nat := (List.range n).filter fun k => decide (k ≠ j)
def holdsM (cs : List Copy) (k : Nat) (m : Mark) : Bool := !((knownOf cs k).filter fun o => decide (lcp m o = m)).isEmpty
def rowOf (cs : List Copy) (others : List Nat) (m : Mark) : List Nat := others.filter fun k => holdsM cs k m
def bitOn (number i : Nat) : Bool := decide (number / 2 ^ i % 2 ≠ 0)
def chosenOf (others : List Nat) (number : Nat) : List Nat := (List.range others.length).flatMap fun i => if bitOn number i then [others.getD i 0] else []
def heardOf (cs : List Copy) (chosen : List Nat) : List Int := canonI (chosen.flatMap fun k => seenOf cs k)
def bareOf (rows : List (List Nat)) (chosen : List Nat) : List (List Nat) := rows.filter fun row => (row.filter fun k => chosen.contains k).isEmpty
def HeardOk (cs : List Copy) : Prop := ∀ j, j < cs.length → ∀ number, 1 ≤ number → number < 2 ^ (othersOf cs.length j).length →
  (bareOf ((knownOf cs j).map (rowOf cs (othersOf cs.length j))) (chosenOf (othersOf cs.length j) number)).isEmpty = (sld (seenOf cs j) (heardOf cs (chosenOf (othersOf cs.length j) number))).1.isEmpty
theorem flat_filter (p : Nat → Bool) : ∀ l : List Nat, (l.flatMap fun i => if p i then [i] else []) = l.filter p
  | [] => rfl
  | a :: r => by
    rw [List.flatMap_cons, flat_filter p r, List.filter_cons]
    cases p a <;> rfl
theorem others_lt {n j k : Nat} (h : k ∈ othersOf n j) : k < n := List.mem_range.mp (List.mem_filter.mp h).1
theorem others_len (n j : Nat) : (othersOf n j).length ≤ n := Nat.le_trans (List.length_filter_le _ _) (by rw [List.length_range]; exact Nat.le_refl _)
theorem chosen_mem {others : List Nat} {number k : Nat} (h : k ∈ chosenOf others number) : k ∈ others := by
  obtain ⟨i, hi, hk⟩ := List.mem_flatMap.mp h
  have hi' := List.mem_range.mp hi
  split at hk
  · rw [List.mem_singleton.mp hk, List.getD_eq_getElem?_getD, List.getElem?_eq_getElem hi']
    exact List.getElem_mem hi'
  · cases hk
theorem flat_len {α β : Type} (g : α → List β) {b : Nat} : ∀ (l : List α), (∀ a ∈ l, (g a).length ≤ b) → (l.flatMap g).length ≤ l.length * b
  | [], _ => by simp
  | a :: r, h => by
    rw [List.flatMap_cons, List.length_append, List.length_cons, Nat.succ_mul]
    have h1 := h a (.head _)
    have h2 := flat_len g r fun x hx => h x (.tail _ hx)
    omega
theorem chosen_len (others : List Nat) (number : Nat) : (chosenOf others number).length ≤ others.length := by
  have := flat_len (b := 1) (fun i => if bitOn number i then [others.getD i 0] else []) (List.range others.length) fun i _ => by split <;> simp
  rw [List.length_range] at this
  unfold chosenOf; omega
theorem heard_rise (cs : List Copy) (chosen : List Nat) : (heardOf cs chosen).Pairwise (· < ·) := by
  unfold heardOf
  have h1 := sorted_canonI (chosen.flatMap fun k => seenOf cs k)
  have h2 := nodup_canonI (chosen.flatMap fun k => seenOf cs k)
  exact (h1.and h2).imp fun ⟨a, b⟩ => by omega
theorem getD_some {α : Type} {l : List α} {k : Nat} (d : α) (h : k < l.length) : l[k]? = some (l.getD k d) := by
  rw [List.getD_eq_getElem?_getD, List.getElem?_eq_getElem h]; rfl
theorem getD_in {α : Type} {l : List α} {k : Nat} (d : α) (h : k < l.length) : l.getD k d ∈ l := List.mem_of_getElem? (getD_some d h)
end VS

end PartP8

noncomputable section PartP9
namespace VS
open PySem PySem.Calls PySem.W PyProof.Rows
theorem slice_cut {x : Str} {k : Nat} (h0 : 0 < k) (h : k ≤ x.length) : Txt.slice x none (some (-(k : Int))) = Txt.slice x none (some ((x.length - k : Nat) : Int)) := by
  have e : Builtin.Str.strSliceIndices none (some (-(k : Int))) 1 x.length = Builtin.Str.strSliceIndices none (some ((x.length - k : Nat) : Int)) 1 x.length := by
    unfold Builtin.Str.strSliceIndices
    dsimp only
    rw [if_pos (show -(k : Int) < 0 by omega), if_neg (show ¬ ((x.length - k : Nat) : Int) < 0 by omega), show -(k : Int) + (x.length : Int) = ((x.length - k : Nat) : Int) by omega]
  unfold Txt.slice
  rw [e]
section
variable {one two : Str} (G : Good one two)
include G
theorem ends_name (m : Mark) : Txt.endswith (path one two m) ("/" ++ one) = isOne m := by
  rw [Bool.eq_iff_iff, ew_iff, L_app, L_slash]
  unfold isOne
  rw [beq_iff_eq]
  rcases snoc_or m with rfl | ⟨n, b, rfl⟩
  · rw [path_nil, L_slash]
    refine ⟨fun ⟨t, ht⟩ => ?_, fun h => by cases h⟩
    have := congrArg List.length ht
    have h2 := G.o2
    cases h3 : L one with
    | nil => exact absurd h3 h2
    | cons a r => rw [h3] at this; simp at this; omega
  · rw [path_snoc, List.getLast?_concat]
    constructor
    · rintro ⟨t, ht⟩
      have r1 := rfind_last (x := path one two (n ++ [b])) (path_snoc n b) (nm_free G b)
      have r2 := rfind_last (x := path one two (n ++ [b])) (pre := t) (t := L one) (by rw [path_snoc]; exact ht.symm) G.o1
      rw [r1] at r2
      have hl : (segL one two n).length = t.length := by omega
      have := List.append_inj_right ht hl.symm
      cases b with
      | false => rfl
      | true => exact absurd (str_ext (show L one = L two from (List.cons.inj this).2)) G.ne
    · intro h
      cases h
      exact ⟨segL one two n, rfl⟩
theorem cut_name {m : Mark} (h : isOne m = true) : Txt.slice (path one two m) none (some (-(one.length : Int))) ++ two = path one two (m.dropLast ++ [true]) := by
  unfold isOne at h
  rw [beq_iff_eq] at h
  rcases snoc_or m with rfl | ⟨n, b, rfl⟩
  · cases h
  · rw [List.getLast?_concat] at h
    cases h
    have h2 := G.o2
    have hp : 0 < one.length := by rw [len_L]; exact List.length_pos_iff.mpr h2
    have hl : (path one two (n ++ [false])).length = (segL one two n).length + 1 + one.length := by
      rw [len_L, path_snoc, List.length_append, List.length_cons, len_L]; show _ + ((L one).length + 1) = _; omega
    rw [slice_cut hp (by omega), hl, show (segL one two n).length + 1 + one.length - one.length = (segL one two n).length + 1 by omega, slice_to (by rw [← len_L, hl]; omega), List.dropLast_concat]
    apply str_ext
    rw [L_app, L_ofL, path_snoc, path_snoc, List.take_append, List.take_of_length_le (by omega), show (segL one two n).length + 1 - (segL one two n).length = 1 by omega]
    show segL one two n ++ [47] ++ L two = segL one two n ++ 47 :: L two
    simp
theorem names_len (m : Mark) : ((partsOf one two m).filter fun c => decide (c ≠ ("" : Str))).length = m.length := by
  unfold partsOf
  cases m with
  | nil => rfl
  | cons b r =>
    show (List.filter _ (("" : Str) :: (b :: r).map (nm one two))).length = _
    rw [List.filter_cons, if_neg (by simp), List.filter_eq_self.mpr, List.length_map]
    intro c hc
    obtain ⟨x, _, rfl⟩ := List.mem_map.mp hc
    have := nm_ne G x
    exact decide_eq_true fun q => this (by rw [q]; rfl)
theorem map_has (ms : List Mark) (m : Mark) : (ms.map (path one two)).contains (path one two m) = ms.contains m := by
  rw [Bool.eq_iff_iff, List.contains_iff_mem, List.contains_iff_mem, List.mem_map]
  constructor
  · rintro ⟨k, hk, e⟩; exact path_inj G e ▸ hk
  · intro h; exact ⟨m, h, rfl⟩
end
/-! sums -/
theorem preSum_eq (l : List (Int × Tok)) : ∀ j, j ≤ l.length → preSum (numAt l.toArray) j = ((l.take j).map (·.1)).sum
  | 0, _ => by rw [List.take_zero]; rfl
  | j + 1, h => by
    have hj : j < l.length := h
    rw [List.take_succ_eq_append_getElem hj, List.map_append, List.sum_append]
    show preSum _ j + numAt _ j = _
    rw [preSum_eq l j (by omega)]
    unfold numAt
    simp [List.getElem?_eq_getElem hj]
theorem sum_bound {B : Int} (h0 : 0 ≤ B) : ∀ xs : List Int, (∀ x ∈ xs, 0 ≤ x ∧ x ≤ B) → 0 ≤ xs.sum ∧ xs.sum ≤ xs.length * B
  | [], _ => by simp
  | a :: r, h => by
    obtain ⟨h1, h2⟩ := sum_bound h0 r fun x hx => h x (.tail _ hx)
    obtain ⟨h3, h4⟩ := h a (.head _)
    rw [List.sum_cons, List.length_cons, Int.natCast_succ, Int.add_mul]
    omega
section
variable {prog : Program} {w : World} {A : Around} {s : Shared} {P : PM}
theorem ints_of {vs : List Value} {xs : List Int} (pr : Paired (Ty.int.rel P) vs xs) : ∃ l : List (Int × Tok), vs = l.map (fun p => Value.int p.1 p.2) ∧ l.map (·.1) = xs := by
  induction pr with
  | nil => exact ⟨[], rfl, rfl⟩
  | cons h r ih =>
    obtain ⟨t, rfl⟩ := h
    obtain ⟨l, rfl, rfl⟩ := ih
    exact ⟨(_, t) :: l, rfl, rfl⟩
theorem op_sum {v : Value} {xs : List Int} {B : Int} (h : Sub P s) (hh : A.handled = none) (r : (Ty.list Ty.int).rel P v xs) (hB : ∀ x ∈ xs, 0 ≤ x ∧ x ≤ B) (h0 : 0 ≤ B) (hl : xs.length * B < 2 ^ 62) (hb : B < 2 ^ 62) : Op prog w A s P (call (.builtin "sum") [v] []) Ty.int xs.sum := by
  obtain ⟨vs, q, pr⟩ := r
  obtain ⟨l, rfl, rfl⟩ := ints_of pr
  obtain ⟨a, n, rfl, hp⟩ := id q
  have L := q.isList h
  have hi : (l.map fun p => Value.int p.1 p.2).toArray = intItems l.toArray := by unfold intItems; simp
  rw [hi] at L
  refine PySem.sum_intList hh L (fun j hj => ?_) fun h' tk t' hk => ?_
  · have hj' : j < l.length := by simpa using hj
    rw [preSum_eq l (j + 1) (by omega)]
    have hn : numAt l.toArray j = l[j].1 := by unfold numAt; simp [List.getElem?_eq_getElem hj']
    have b1 := hB l[j].1 (List.mem_map.mpr ⟨_, List.getElem_mem hj', rfl⟩)
    have b2 := sum_bound h0 ((l.take (j + 1)).map (·.1)) fun x hx => by
      obtain ⟨p, hp, rfl⟩ := List.mem_map.mp hx
      exact hB _ (List.mem_map.mpr ⟨p, List.mem_of_mem_take hp, rfl⟩)
    have b3 : (((l.take (j + 1)).map (·.1)).length : Int) * B ≤ ((l.map (·.1)).length : Int) * B := by
      refine Int.mul_le_mul_of_nonneg_right ?_ h0
      rw [List.length_map, List.length_map, List.length_take]; omega
    rw [hn]
    unfold InLong
    omega
  · have e : preSum (numAt l.toArray) l.toArray.size = (l.map (·.1)).sum := by
      rw [List.size_toArray, preSum_eq l l.length (Nat.le_refl _), List.take_length]
    exact ⟨P, .heap h hk, t', by rw [e]⟩
end
end VS

end PartP9

noncomputable section PartW8
namespace VS
open PySem PySem.Calls PySem.W PyProof.Rows
section
variable {prog : Program} {w : World} {A : Around} {env : Env} {s s' : Shared} {P P' : PM} {α β γ δ : Type} {τ : Ty α} {σ : Ty β} {x : α} {y : β}
theorem Ev.lenL {e : Expr} {np pos : Pos} {xs : List α} (hf : Ev prog w A s P (eval (.Name "len" np) env) Ty.raw (.builtin "len")) (he : Ev prog w A s P (eval e env) (Ty.list τ) xs) (hsz : xs.length ≤ sizeLine)
    (hs : starEach [e] env = (false, eval e env) :: starEach [] env := by rfl) (hp : (backTo pos (starEach [e] env)).any (·.1) = false := by rfl) : Ev prog w A s P (eval (.Call (.Name "len" np) [e] [] pos) env) Ty.nat xs.length :=
  Ev.callB (τ := Ty.nat) hf (EvL.cons he EvL.nil hs) (fun s1 P1 vs e ⟨v, r, hv, rv, hr⟩ => by subst hv; cases hr; exact op_len_list e.sub rv hsz) hs hp
theorem op_fst {value slice : Expr} {v : Value} {t : Tok} (h : Sub P s) (r : (Ty.pair τ σ).rel P v (x, y)) (hs : subscripted slice false v (.int 0 t) = operate [v, .int 0 t] (getItem v (.int 0 t)) := by with_unfolding_all rfl) : Op prog w A s P (subscriptTail value slice v (.int 0 t)) τ x := by
  obtain ⟨v1, v2, q, r1, r2⟩ := r
  exact op_itemT h q (by decide) (by decide) (j := 0) rfl rfl r1 hs
end
abbrev copyB (one two : Str) (c : Copy) : List (Str × Bd) := [("seen", (Ty.list Ty.int).at c.2.2), ("marks", (Tms one two).at c.2.1), ("known", (Tms one two).at c.1)]
section
variable {prog : Program} {w : World} {lo : List Str} {p : Program} {mg mb : Str → Option Value} {P : PM}
set_option maxHeartbeats 4000000 in
theorem spec_heard {v1 : Value} {one two : Str} {cs : List Copy} (G : Good one two) (h4 : cs.length ≤ 4) (hsz : ∀ x ∈ cs, x.1.length ≤ 16 ∧ x.2.2.length ≤ 9) (hdep : ∀ x ∈ cs, ∀ m ∈ x.1, m.length ≤ 40) (hseen : ∀ x ∈ cs, x.2.2.Pairwise (· < ·)) (hok : HeardOk cs)
    (r1 : (Ty.list (Tcopy one two)).rel P v1 cs) : ReturnsF prog w (KF w.params) p lo mg mb 13 (.ref 163) [v1] P Ty.bool true := by
  refine Returns.defF (ρ := [("copies", (Ty.list (Tcopy one two)).at cs)]) rfl rfl rfl rfl _ rfl (.cons r1 .nil) rfl rfl rfl ?_
  intro A s₀ P₀ s L l D R F W S
  have hs : sizeLine = 16777216 := rfl
  have hin : ∀ i (hi : i < cs.length), cs.getD i noCopy ∈ cs := fun i hi => getD_in _ hi
  refine St.forX S (fun i => [("copies", (Ty.list (Tcopy one two)).at cs)]) (fun _ => D)
    (Src.enum (τ := Tcopy one two) (xs := cs) (B := fun i => copyB one two (cs.getD i noCopy)) R.handled (Ev.built (S.wd W) rfl b_enumerate rfl rfl rfl rfl) (Ev.name S.fs rfl rfl) (fun _ => .inr ⟨rfl, trivial, _, rfl⟩) fun C i a v P' hx ⟨v1, v2, v3, q, ra, rb, rc⟩ => by
      have : cs.getD i noCopy = a := by rw [List.getD_eq_getElem?_getD, hx]; rfl
      rw [this]
      exact Asg.three R.handled q (Asg.name (b := (Tms one two).at a.1) ra (.inl rfl)) (Asg.name (b := (Tms one two).at a.2.1) rb (.inl rfl)) (Asg.name (b := (Ty.list Ty.int).at a.2.2) rc (.inl rfl))) ⟨rfl, trivial⟩ rfl ?_ ?_
  · intro j s2 P2 its E hj l2 S2
    have hcm := hin j hj
    have hok' := hok j hj
    have hsj := hsz _ hcm
    have hdj := hdep _ hcm
    have hrj := hseen _ hcm
    change ∀ number, 1 ≤ number → number < 2 ^ (othersOf cs.length j).length → (bareOf ((cs.getD j noCopy).1.map (rowOf cs (othersOf cs.length j))) (chosenOf (othersOf cs.length j) number)).isEmpty = (sld (cs.getD j noCopy).2.2 (heardOf cs (chosenOf (othersOf cs.length j) number))).1.isEmpty at hok'
    generalize cs.getD j noCopy = c at S2 hcm hok' hsj hdj hrj
    obtain ⟨kn, mk, sn⟩ := c
    dsimp only at hok' hsj hdj hrj
    replace S2 := S2.only (L := [("j", Ty.nat.at j), ("known", (Tms one two).at kn), ("seen", (Ty.list Ty.int).at sn), ("copies", (Ty.list (Tcopy one two)).at cs)]) ⟨rfl, rfl, rfl, rfl, trivial⟩
    have W2 := S2.wd W
    refine S2.assigns (Comp.eval (Comp.one (σ := Ty.nat) (p := fun i => decide (i ≠ j)) (f := fun i => i) (CompOk.mk' (by with_unfolding_all rfl) rfl rfl rfl rfl rfl rfl rfl) S2.fs
      (Src.range1 (n := cs.length) R.handled (Ev.built W2 rfl b_range rfl rfl rfl rfl) (Ev.lenL (Ev.built W2 rfl b_len rfl rfl rfl rfl) (Ev.name S2.fs rfl rfl) (by omega)) (by omega) (fun C => .inl rfl)) (by omega) (fun i hi => rfl) ?_ ?_)) (.inr ⟨rfl, trivial, _, rfl⟩) fun s3 P3 l3 S3 => ?_
    · intro C i s' P' hi e F'
      exact EvB.tests1 (EvB.neN (Ev.name F' rfl rfl) (Ev.name F' rfl rfl))
    · intro C i s' P' hi _ e F'
      exact Ev.name F' rfl rfl
    rw [flat_filter (fun i => decide (i ≠ j)) (List.range cs.length)] at S3
    change St _ s₀ P₀ _ (("others", (Ty.list Ty.nat).at (othersOf cs.length j)) :: _) _ s3 P3 at S3
    have hol := others_len cs.length j
    have hoin : ∀ k ∈ othersOf cs.length j, k < cs.length := fun k hk => others_lt hk
    generalize othersOf cs.length j = others at S3 hok' hol hoin
    replace S3 := S3.only (L := [("others", (Ty.list Ty.nat).at others), ("known", (Tms one two).at kn), ("seen", (Ty.list Ty.int).at sn), ("copies", (Ty.list (Tcopy one two)).at cs)]) ⟨rfl, rfl, rfl, rfl, trivial⟩
    have W3 := S3.wd W
    refine wpAny_execs_cons (St.assignComp S3 (Comp.lst (τ := Ty.mark one two) (σ := Ty.list Ty.nat) (xs := kn) (p := fun _ => true) (f := rowOf cs others) (CompOk.mk' (by with_unfolding_all rfl) rfl rfl rfl rfl rfl rfl rfl) S3.fs R.handled (Ev.name S3.fs rfl rfl) (fun C => .inr ⟨rfl, rfl, _, rfl⟩) (by omega) rfl ?_ ?_) (.inl rfl) fun s4 P4 l4 S4 => ?_)
    · intro C m s' P' hm e F'
      exact EvB.tests0
    · intro C m s' P' hm _ e F'
      refine Ev.to (List.map_id' _) (Comp.eval (Comp.lst (τ := Ty.nat) (σ := Ty.nat) (xs := others) (p := fun k => holdsM cs k m) (f := fun k => k) (CompOk.mk' (by with_unfolding_all rfl) rfl rfl rfl rfl rfl rfl rfl) F' R.handled (Ev.name F' rfl rfl) (fun C => .inl rfl) (by omega) rfl ?_ ?_))
      · intro C k s2 P2 hk e2 F2
        have hkc := hoin k hk
        have hkm := hin k hkc
        refine EvB.tests1 (EvB.neNil (xs := (knownOf cs k).filter fun o => decide (lcp m o = m)) (Ev.to (List.map_id' _) (Comp.eval (Comp.lst (τ := Ty.mark one two) (σ := Ty.mark one two) (xs := knownOf cs k) (p := fun o => decide (lcp m o = m)) (f := fun o => o) (CompOk.mk' (by with_unfolding_all rfl) rfl rfl rfl rfl rfl rfl rfl) F2 R.handled
          (Ev.part0 (x := knownOf cs k) (y := (cs.getD k noCopy).2.1) (z := (cs.getD k noCopy).2.2) (Ev.item (k := (k : Int)) (x := cs.getD k noCopy) (Ev.name F2 rfl rfl) (Ev.name F2 rfl rfl) (by omega) (by rw [Int.toNat_natCast]; exact getD_some _ hkc) (by omega)) Ev.cInt) (fun C => .inl rfl) (by have := (hsz _ hkm).1; unfold knownOf; omega) rfl ?_ ?_))) R.c)
        · intro C o s3 P3 ho e3 F3
          have W4 := ((W3.keeps e.keep).keeps e2.keep).keeps e3.keep
          refine EvB.tests1 (EvB.to ?_ (EvB.eqS (Ev.markS (m := lcp m o) (Ev.def1 (n := 9) W4 (R.le (by decide)) (Ev.twoL (τ := Ty.mark one two) (x := m) (y := o) (Ev.name F3 rfl rfl) (Ev.name F3 rfl rfl)) fun P v r => spec_common G (hdj m hm) (hdep _ hkm o ho) r)) (Ev.markS (m := m) (Ev.name F3 rfl rfl))))
          rw [decide_eq_decide]
          exact ⟨fun q => path_inj G q, fun q => by rw [q]⟩
        · intro C o s3 P3 ho _ e3 F3
          exact Ev.name F3 rfl rfl
      · intro C k s2 P2 hk _ e2 F2
        exact Ev.name F2 rfl rfl
    rw [show (List.filter (fun _ => true) kn) = kn from filt kn] at S4
    have hrl : (kn.map (rowOf cs others)).length ≤ 16 := by rw [List.length_map]; omega
    have hrr : ∀ row ∈ kn.map (rowOf cs others), row.length ≤ 4 := fun row hr => by
      obtain ⟨m, _, rfl⟩ := List.mem_map.mp hr
      exact Nat.le_trans (List.length_filter_le _ _) (by omega)
    generalize kn.map (rowOf cs others) = rows at S4 hok' hrl hrr
    obtain ⟨N, hN⟩ : ∃ N, 2 ^ others.length = N + 1 := ⟨2 ^ others.length - 1, by have : 0 < 2 ^ others.length := Nat.pow_pos (by decide); omega⟩
    have hN15 : N ≤ 15 := by
      have : 2 ^ others.length ≤ 2 ^ 4 := Nat.pow_le_pow_right (by decide) (by omega)
      omega
    rw [hN] at hok'
    replace S4 := S4.only (L := [("holders", (Ty.list (Ty.list Ty.nat)).at rows), ("others", (Ty.list Ty.nat).at others), ("seen", (Ty.list Ty.int).at sn), ("copies", (Ty.list (Tcopy one two)).at cs)]) ⟨rfl, rfl, rfl, rfl, trivial⟩
    have W4 := S4.wd W
    refine St.forX S4 (fun i => [("holders", (Ty.list (Ty.list Ty.nat)).at rows), ("others", (Ty.list Ty.nat).at others), ("seen", (Ty.list Ty.int).at sn), ("copies", (Ty.list (Tcopy one two)).at cs)]) (fun _ => its ++ D)
      (Src.range2 (a := 1) (n := N) R.handled (Ev.built W4 rfl b_range rfl rfl rfl rfl) Ev.cInt (Ev.to ?pw (Ev.powI (x := 2) (y := (others.length : Int)) Ev.cInt (Ev.lenL (Ev.built W4 rfl b_len rfl rfl rfl rfl) (Ev.name S4.fs rfl rfl) (by omega)) (by omega) (by omega) (by decide))) (by decide) (by omega) (fun C => .inr ⟨rfl, trivial, _, rfl⟩)) ⟨rfl, rfl, rfl, rfl, trivial⟩ rfl ?_ ?_
    case pw =>
      rw [Int.toNat_natCast, show ((2 : Int) ^ others.length) = ((2 ^ others.length : Nat) : Int) from by rw [Int.natCast_pow]; rfl, hN]
      omega
    · intro i s5 P5 its2 E5 hi l5 S5
      have hnum := hok' (1 + i) (by omega) (by omega)
      replace S5 := S5.only (L := [("number", Ty.nat.at (1 + i)), ("holders", (Ty.list (Ty.list Ty.nat)).at rows), ("others", (Ty.list Ty.nat).at others), ("seen", (Ty.list Ty.int).at sn), ("copies", (Ty.list (Tcopy one two)).at cs)]) ⟨rfl, rfl, rfl, rfl, rfl, trivial⟩
      generalize 1 + i = number at S5 hnum
      have W5 := S5.wd W
      refine S5.assigns (Comp.eval (Comp.one (σ := Ty.nat) (p := fun i => bitOn number i) (f := fun i => others.getD i 0) (CompOk.mk' (by with_unfolding_all rfl) rfl rfl rfl rfl rfl rfl rfl) S5.fs
        (Src.enum (τ := Ty.nat) (xs := others) (B := fun i => [("k", Ty.nat.at (others.getD i 0))]) R.handled (Ev.built W5 rfl b_enumerate rfl rfl rfl rfl) (Ev.name S5.fs rfl rfl) (fun C => .inl rfl) fun C i a v P' hx r => by
          have : others.getD i 0 = a := by rw [List.getD_eq_getElem?_getD, hx]; rfl
          rw [this]; exact Asg.name r (.inl rfl)) (by omega) (fun i hi => rfl) ?_ ?_)) (.inr ⟨rfl, trivial, _, rfl⟩) fun s6 P6 l6 S6 => ?_
      · intro C i s' P' hi e F'
        refine EvB.tests1 (EvB.to ?_ (EvB.val (Ev.andI (x := ((number : Nat) : Int).fdiv (2 ^ ((i : Nat) : Int).toNat)) (Ev.shrI (x := (number : Int)) (y := (i : Int)) (Ev.name F' rfl rfl) (Ev.name F' rfl rfl) (by omega)) Ev.cInt) fun s1 P1 v e r => Truth.int e.sub r))
        rw [shift_bit]
        unfold bitOn
        by_cases h : number / 2 ^ i % 2 = 0
        · rw [h]; rfl
        · have h1 : number / 2 ^ i % 2 = 1 := by omega
          rw [h1]; rfl
      · intro C i s' P' hi _ e F'
        exact Ev.name F' rfl rfl
      change St _ s₀ P₀ _ (("chosen", (Ty.list Ty.nat).at (chosenOf others number)) :: _) _ s6 P6 at S6
      have hcl := chosen_len others number
      have hcin : ∀ k ∈ chosenOf others number, k < cs.length := fun k hk => hoin k (chosen_mem hk)
      generalize chosenOf others number = chosen at S6 hnum hcl hcin
      replace S6 := S6.only (L := [("chosen", (Ty.list Ty.nat).at chosen), ("holders", (Ty.list (Ty.list Ty.nat)).at rows), ("others", (Ty.list Ty.nat).at others), ("seen", (Ty.list Ty.int).at sn), ("copies", (Ty.list (Tcopy one two)).at cs)]) ⟨rfl, rfl, rfl, rfl, rfl, trivial⟩
      have W6 := S6.wd W
      have hfl : (chosen.flatMap fun k => seenOf cs k).length < 64 := by
        have := flat_len (b := 9) (fun k => seenOf cs k) chosen fun k hk => (hsz _ (hin k (hcin k hk))).2
        omega
      refine S6.assigns (x := heardOf cs chosen) (Ev.sortedSetI (xs := chosen.flatMap fun k => seenOf cs k) W6 R.handled (Ev.to ?hh (Comp.eval (Comp.lst2 (τ := Ty.nat) (σ := Ty.int) (υ := Ty.int) (xs := chosen) (ys := fun k => seenOf cs k) (B := fun k => [("k", Ty.nat.at k)]) (p := fun _ _ => true) (f := fun _ x => x) (bound := 9) (CompOk.mk' (by with_unfolding_all rfl) rfl rfl rfl rfl rfl rfl rfl) S6.fs R.handled (Ev.name S6.fs rfl rfl)
        (fun C i a v P' hx r => Asg.name r (.inl rfl)) (fun C => .inl rfl) (fun k hk => (hsz _ (hin k (hcin k hk))).2) (by omega) (fun a => rfl) (fun a => rfl) ?_ ?_ ?_))) hfl) (.inl rfl) fun s7 P7 l7 S7 => ?_
      case hh =>
        refine List.flatMap_congr' fun k hk => ?_
        rw [List.map_id', filt]
      · intro C k s' P' hk e F'
        exact Ev.part2 (x := (cs.getD k noCopy).1) (y := (cs.getD k noCopy).2.1) (z := seenOf cs k) (Ev.item (k := (k : Int)) (x := cs.getD k noCopy) (Ev.name F' rfl rfl) (Ev.name F' rfl rfl) (by omega) (by rw [Int.toNat_natCast]; exact getD_some _ (hcin k hk)) (by omega)) Ev.cInt
      · intro C k b s' P' hk hb e F'
        exact EvB.tests0
      · intro C k b s' P' hk hb _ e F'
        exact Ev.name F' rfl rfl
      have hhr := heard_rise cs chosen
      have hhl : (heardOf cs chosen).length ≤ 64 := Nat.le_trans (len_canonI _) (by omega)
      generalize heardOf cs chosen = heard at S7 hnum hhr hhl
      refine wpAny_execs_cons (St.assignComp S7 (Comp.lst (τ := Ty.list Ty.nat) (σ := Ty.list Ty.nat) (xs := rows) (p := fun row => (row.filter fun k => chosen.contains k).isEmpty) (f := fun row => row) (CompOk.mk' (by with_unfolding_all rfl) rfl rfl rfl rfl rfl rfl rfl) S7.fs R.handled (Ev.name S7.fs rfl rfl) (fun C => .inl rfl) (by omega) rfl ?_ ?_) (.inl rfl) fun s8 P8 l8 S8 => ?_)
      · intro C row s' P' hr e F'
        refine EvB.tests1 (EvB.eqNil (xs := row.filter fun k => chosen.contains k) (Ev.to (List.map_id' _) (Comp.eval (Comp.lst (τ := Ty.nat) (σ := Ty.nat) (xs := row) (p := fun k => chosen.contains k) (f := fun k => k) (CompOk.mk' (by with_unfolding_all rfl) rfl rfl rfl rfl rfl rfl rfl) F' R.handled (Ev.name F' rfl rfl) (fun C => .inl rfl) (by have := hrr row hr; omega) rfl ?_ ?_))) R.c)
        · intro C k s2 P2 hk e2 F2
          exact EvB.tests1 (EvB.inN (Ev.name F2 rfl rfl) (Ev.name F2 rfl rfl))
        · intro C k s2 P2 hk _ e2 F2
          exact Ev.name F2 rfl rfl
      · intro C row s' P' hr _ e F'
        exact Ev.name F' rfl rfl
      rw [show List.map (fun row => row) (List.filter (fun row => (row.filter fun k => chosen.contains k).isEmpty) rows) = bareOf rows chosen from List.map_id' _] at S8
      generalize bareOf rows chosen = bare at S8 hnum
      have F8 : Frs A S8.en (its2 ++ (its ++ D)) l := F.sub fun q hq => List.mem_append.mpr (.inr (List.mem_append.mpr (.inr hq)))
      refine wpAny_execs_cons (wpAny_If (wpAny_isTrue_Compare1 ((Ev.eqNil (Ev.name S8.fs rfl rfl) R.c).use S8.sub fun va s9 P9 e9 r9 => ?_)))
      cases r9
      have S9 := S8.go e9
      refine wpAny_Compare1 (Subscript_ (St.call2F (n := 3) S9 F8 W (R.le (by decide)) (Ev.name S9.fs rfl rfl) (Ev.name S9.fs rfl rfl) (fun P v1 v2 q1 q2 => spec_sld hrj hhr (by omega) (by omega) q1 q2) fun v s10 P10 l10 S10 r10 => ?_))
      refine (Ev.cInt (env := S10.en) (c := 0)).use S10.sub fun u s11 P11 e11 r11 => ?_
      obtain ⟨t, rfl⟩ := r11
      have S11 := S10.go e11
      refine (op_fst (τ := Ty.list Ty.int) (σ := Ty.list Ty.int) S11.sub ((Ty.pair (Ty.list Ty.int) (Ty.list Ty.int)).mono e11.le r10)).use fun vl s12 P12 e12 r12 => ?_
      have S12 := S11.go e12
      refine (Ev.nilL (env := S12.en)).use S12.sub fun ve s13 P13 e13 r13 => ?_
      have S13 := S12.go e13
      refine (op_eq_nil S13.sub ((Ty.list Ty.int).mono e13.le r12) r13 R.c).use fun vb s14 P14 e14 r14 => ?_
      cases r14
      have S14 := S13.go e14
      refine PyProof.Rows.ne_bool ?_
      rw [hnum]
      refine wpAny_truthy_bool ?_
      rw [show (((sld sn heard).1.isEmpty != (sld sn heard).1.isEmpty) : Bool) = false from by simp, if_neg (by decide)]
      exact execs_nil' (execs_nil' ⟨P14, ((((((((l6.trans l7).trans l8).trans e9.le).trans l10).trans e11.le).trans e12.le).trans e13.le).trans e14.le), S14.only ⟨rfl, rfl, rfl, rfl, trivial⟩⟩)
    · intro s5 P5 l5 S5
      exact execs_nil' ⟨P5, (l3.trans l4).trans l5, S5.only ⟨rfl, trivial⟩⟩
  · intro s2 P2 l2 S2
    refine wpAny_execs_cons (S2.retE Ev.cBool fun v s' P' l' S' r' => ?_)
    exact ⟨v, P', _, _, rfl, S', fun _ h => h, r'⟩
end
end VS

end PartW8

noncomputable section PartW9
namespace VS
open PySem PySem.Calls PySem.W PyProof.Rows
section
variable {prog : Program} {w : World} {A : Around} {env : Env} {s s' : Shared} {P P' : PM} {α β γ δ : Type} {τ : Ty α} {σ : Ty β} {x : α} {y : β}
theorem Ev.lenS {e : Expr} {np pos : Pos} {x : Str} (hf : Ev prog w A s P (eval (.Name "len" np) env) Ty.raw (.builtin "len")) (he : Ev prog w A s P (eval e env) Ty.str x) (hsz : x.length ≤ sizeLine)
    (hs : starEach [e] env = (false, eval e env) :: starEach [] env := by rfl) (hp : (backTo pos (starEach [e] env)).any (·.1) = false := by rfl) : Ev prog w A s P (eval (.Call (.Name "len" np) [e] [] pos) env) Ty.int x.length :=
  Ev.callB (τ := Ty.int) hf (EvL.cons he EvL.nil hs) (fun s1 P1 vs e ⟨v, r, hv, ⟨t, rv⟩, hr⟩ => by subst hv; subst rv; cases hr; exact op_len_str e.sub hsz) hs hp
theorem Ev.neg {e : Expr} {pos : Pos} {x : Int} (h : Ev prog w A s P (eval e env) Ty.int x) : Ev prog w A s P (eval (.UnaryOp .USub e pos) env) Ty.int (-x) := fun s1 P1 e1 =>
  wpAny_UnaryOp ((h.at e1).use fun v s2 P2 e2 ⟨t, r⟩ => by subst r; exact PyProof.Rows.neg_int ⟨P2, e2.trans (.toks e2.sub), _, rfl⟩)
end
/-- what the script draws, and what the run makes of it -/
abbrev drawnC (xs : List Int) : List Nat := cellsI (xs.take 60) (xs.take 60).length
abbrev drawn1 (xs : List Int) : Str := oneOf ((drawnC xs).getD 0 0)
abbrev drawn2 (xs : List Int) : Str := twoOf ((drawnC xs).getD 0 0)
abbrev drawnR (xs : List Int) : List Copy := runR (drawn1 xs) (drawn2 xs) 0 ((drawnC xs).drop 1) start
/-- what the law asks of the copies, in plain words -/
structure LawOk (cs : List Copy) : Prop where
  pairs : ∀ x ∈ cs, ∀ m ∈ x.2.1, (isOne m && x.2.1.contains (m.dropLast ++ [true])) = false
  whole : (cs.flatMap fun x => x.2.1.map fun m => (2 : Int) ^ (20 - m.length)).sum = 2 ^ 20
  heard : HeardOk cs
  rise : ∀ x ∈ cs, x.2.2.Pairwise (· < ·)
section
variable {prog : Program} {w : World} {lo : List Str} {p : Program} {mg mb : Str → Option Value} {P : PM}
set_option maxHeartbeats 4000000 in
theorem spec_law {v1 : Value} {xs : List Int} (hx : xs.length ≤ 100000) (hok : LawOk (drawnR xs)) (r1 : (Ty.listW Ty.int).rel P v1 xs) : ReturnsF prog w (KF w.params) p lo mg mb 15 (.ref 168) [v1] P Ty.bool true := by
  refine Returns.defF (ρ := [("script", (Ty.listW Ty.int).at xs)]) rfl rfl rfl rfl _ rfl (.cons r1 .nil) rfl rfl rfl ?_
  intro A s₀ P₀ s L l D R F W S
  have hs : sizeLine = 16777216 := rfl
  refine wpAny_execs_cons (Assign_Tuple ((Ev.def1 (n := 3) (S.wd W) (R.le (by decide)) (Ev.name S.fs rfl rfl) fun P v r => spec_drawn hx r).use S.sub fun v s1 P1 e1 r1 => (S.go e1).assign3v R.handled r1 (.inr ⟨rfl, trivial, _, rfl⟩) (.inr ⟨rfl, trivial, _, rfl⟩) (.inl rfl) fun s2 S2 => ?_))
  have G := good_names ((drawnC xs).getD 0 0)
  have hcl : (drawnC xs).length = 10 := cellsI_len _ _
  have hcb : ∀ c ∈ (drawnC xs).drop 1, c < 1000000000 := fun c hc => cellsI_le _ (by rw [List.length_take]; omega) (List.mem_of_mem_drop hc)
  have hc9 : ((drawnC xs).drop 1).length ≤ 9 := by rw [List.length_drop]; omega
  refine S2.assigns (x := drawnR xs) (Ev.def3 (n := 9) (S2.wd W) (R.le (by decide)) (Ev.name S2.fs rfl rfl) (Ev.name S2.fs rfl rfl) (Ev.name S2.fs rfl rfl) fun P v1 v2 v3 q1 q2 q3 => spec_run G hcb hc9 q1 q2 q3) (.inl rfl) fun s3 P3 l3 S3 => ?_
  have hrun : RunOk 9 (drawnR xs) := by
    have := run_ok G ((drawnC xs).drop 1) 0 start start_ok
    rw [List.length_drop, hcl] at this
    exact this
  change Good (drawn1 xs) (drawn2 xs) at G
  replace S3 := S3.only (L := [("copies", (Ty.list (Tcopy (drawn1 xs) (drawn2 xs))).at (drawnR xs)), ("two", Ty.str.at (drawn2 xs)), ("one", Ty.str.at (drawn1 xs))]) ⟨rfl, rfl, rfl, trivial⟩
  generalize drawnR xs = cs at S3 hok hrun
  generalize drawn1 xs = one at S3 G
  generalize drawn2 xs = two at S3 G
  have h4 := hrun.le4
  have hsm := fun x (hx : x ∈ cs) => hrun.small (Nat.le_refl _) hx
  have hdp := fun x (hx : x ∈ cs) => hrun.dep x hx
  have W3 := S3.wd W
  have hol := G.o3
  have htl := G.t3
  have h1l : one.length ≤ 3 := by rw [len_L]; exact hol
  have h2l : two.length ≤ 3 := by rw [len_L]; exact htl
  have hsl : Str.length "/" = 1 := rfl
  refine wpAny_execs_cons (St.assignComp S3 (Comp.lst2 (τ := Tcopy one two) (σ := Ty.mark one two) (υ := Ty.mark one two) (xs := cs) (ys := fun x => x.2.1) (B := fun x => copyB one two x) (p := fun x m => isOne m && x.2.1.contains (m.dropLast ++ [true])) (f := fun _ m => m) (bound := 16) (CompOk.mk' (by with_unfolding_all rfl) rfl rfl rfl rfl rfl rfl rfl) S3.fs R.handled (Ev.name S3.fs rfl rfl)
    (fun C i a v P' hx ⟨v1, v2, v3, q, ra, rb, rc⟩ => Asg.three R.handled q (Asg.name (b := (Tms one two).at a.1) ra (.inl rfl)) (Asg.name (b := (Tms one two).at a.2.1) rb (.inl rfl)) (Asg.name (b := (Ty.list Ty.int).at a.2.2) rc (.inl rfl))) (fun C => .inl rfl) (fun x hx => (hsm x hx).2.1) (by omega) (fun a => rfl) (fun a => rfl) ?_ ?_ ?_) (.inl rfl) fun s4 P4 l4 S4 => ?_)
  · intro C x s' P' hx e F'
    exact Ev.name F' rfl rfl
  · intro C x m s' P' hx hm e F'
    have W4 := W3.keeps e.keep
    have hml := path_len G m
    have hmd := (hdp x hx).2 m hm
    refine EvB.tests1 (EvB.and2 (EvB.to (ends_name G m) (EvB.bool (Ev.strM (Ev.markS (Ev.name F' rfl rfl)) (Ev.addS Ev.cStr (Ev.name F' rfl rfl) (by rw [hsl]; omega)) PySem.F.slot_str_endswith PySem.F.type_str_endswith fun s1 P1 t u h => op_endswith h))) fun hq => EvB.to ?_ (EvB.inS (Ev.addS (Ev.sliceS (Ev.markS (Ev.name F' rfl rfl)) EvP.none (EvP.some (Ev.neg (Ev.lenS (Ev.built W4 rfl b_len rfl rfl rfl rfl) (Ev.name F' rfl rfl) (by omega)))) (by omega)) (Ev.name F' rfl rfl) ?_) (Ev.marksS (Ev.name F' rfl rfl))))
    · rw [cut_name G hq]; exact map_has G _ _
    · have := Txt.slice_le (path one two m) none (some (-(one.length : Int)))
      omega
  · intro C x m s' P' hx hm _ e F'
    exact Ev.name F' rfl rfl
  rw [show (cs.flatMap fun x => (x.2.1.filter fun m => isOne m && x.2.1.contains (m.dropLast ++ [true])).map fun m => m) = [] from by
    rw [List.flatMap_eq_nil_iff]
    intro x hx
    rw [List.map_id', List.filter_eq_nil_iff]
    intro m hm
    rw [hok.pairs x hx m hm]; decide] at S4
  have W4 := S4.wd W
  refine wpAny_execs_cons (St.assignComp S4 (Comp.lst2 (τ := Tcopy one two) (σ := Ty.mark one two) (υ := Ty.nat) (xs := cs) (ys := fun x => x.2.1) (B := fun x => copyB one two x) (p := fun _ _ => true) (f := fun _ m => m.length) (bound := 16) (CompOk.mk' (by with_unfolding_all rfl) rfl rfl rfl rfl rfl rfl rfl) S4.fs R.handled (Ev.name S4.fs rfl rfl)
    (fun C i a v P' hx ⟨v1, v2, v3, q, ra, rb, rc⟩ => Asg.three R.handled q (Asg.name (b := (Tms one two).at a.1) ra (.inl rfl)) (Asg.name (b := (Tms one two).at a.2.1) rb (.inl rfl)) (Asg.name (b := (Ty.list Ty.int).at a.2.2) rc (.inl rfl))) (fun C => .inl rfl) (fun x hx => (hsm x hx).2.1) (by omega) (fun a => rfl) (fun a => rfl) ?_ ?_ ?_) (.inl rfl) fun s5 P5 l5 S5 => ?_)
  · intro C x s' P' hx e F'
    exact Ev.name F' rfl rfl
  · intro C x m s' P' hx hm e F'
    exact EvB.tests0
  · intro C x m s' P' hx hm _ e F'
    have W5 := W4.keeps e.keep
    have hmd := (hdp x hx).2 m hm
    have hml := path_len G m
    have hpl := parts_len (one := one) (two := two) m
    refine Ev.to ?_ (Ev.lenL (Ev.built W5 rfl b_len rfl rfl rfl rfl) (Comp.eval (Comp.lst (τ := Ty.str) (σ := Ty.str) (xs := partsOf one two m) (p := fun c => decide (c ≠ ("" : Str))) (f := fun c => c) (CompOk.mk' (by with_unfolding_all rfl) rfl rfl rfl rfl rfl rfl rfl) F' R.handled
      (Ev.to (split_path G m) (Ev.strM (Ev.markS (Ev.name F' rfl rfl)) Ev.cStr PySem.F.slot_str_split PySem.F.type_str_split fun s1 P1 t u h => op_split h rfl (by omega))) (fun C => .inl rfl) (by omega) rfl ?_ ?_)) ?_)
    · rw [List.map_id']; exact names_len G m
    · intro C c s2 P2 hc e2 F2
      refine EvB.tests1 (EvB.to ?_ (EvB.neS (Ev.name F2 rfl rfl) Ev.cStr))
      by_cases h : c = ("" : Str) <;> simp [h]
    · intro C c s2 P2 hc _ e2 F2
      exact Ev.name F2 rfl rfl
    · rw [List.map_id']
      exact Nat.le_trans (List.length_filter_le _ _) (by omega)
  rw [show (cs.flatMap fun x => (x.2.1.filter fun _ => true).map fun m => m.length) = cs.flatMap fun x => x.2.1.map fun m => m.length from List.flatMap_congr' fun x _ => by rw [filt]] at S5
  have hds : ∀ d ∈ cs.flatMap fun x => x.2.1.map fun m => m.length, d ≤ 9 := fun d hd => by
    obtain ⟨x, hx, hd⟩ := List.mem_flatMap.mp hd
    obtain ⟨m, hm, rfl⟩ := List.mem_map.mp hd
    exact (hdp x hx).2 m hm
  have hdl : (cs.flatMap fun x => x.2.1.map fun m => m.length).length ≤ 64 := by
    have := flat_len (b := 16) (fun x : Copy => x.2.1.map fun m => m.length) cs fun x hx => by rw [List.length_map]; exact (hsm x hx).2.1
    omega
  have hsum : ((cs.flatMap fun x => x.2.1.map fun m => m.length).map fun d => (2 : Int) ^ (20 - d)).sum = 2 ^ 20 := by
    rw [List.map_flatMap, ← hok.whole]
    refine congrArg List.sum (List.flatMap_congr' fun x _ => ?_)
    rw [List.map_map]; rfl
  generalize (cs.flatMap fun x => x.2.1.map fun m => m.length) = ds at S5 hds hdl hsum
  have W5 := S5.wd W
  refine wpAny_execs_cons (wpAny_Return_some (BoolOp_and ((Ev.eqNil (Ev.name S5.fs rfl rfl) R.c).use S5.sub fun va s6 P6 e6 r6 => ?_)))
  cases r6
  refine wpAny_truthy_bool ?_
  rw [if_pos (by rfl)]
  have S6 := S5.go e6
  have hpw : ∀ d ∈ ds, (2 : Int) ^ (20 - (d : Int)).toNat = 2 ^ (20 - d) := fun d hd => by
    have := hds d hd
    rw [show (20 - (d : Int)).toNat = 20 - d by omega]
  refine BoolOp_and ((Ev.eqI (x := (2 : Int) ^ 20) (y := (2 : Int) ^ 20) ?e1 ?e2).use S6.sub fun vb s7 P7 e7 r7 => ?_)
  case e1 =>
    refine Ev.to hsum (Ev.callB (τ := Ty.int) (x := (ds.map fun d => (2 : Int) ^ (20 - d)).sum) (Ev.built (S6.wd W) rfl b_sum rfl rfl rfl rfl) (EvL.cons (Comp.eval (Comp.lst (τ := Ty.nat) (σ := Ty.int) (xs := ds) (p := fun _ => true) (f := fun d => (2 : Int) ^ (20 - d)) (CompOk.mk' (by with_unfolding_all rfl) rfl rfl rfl rfl rfl rfl rfl) S6.fs R.handled (Ev.name S6.fs rfl rfl) (fun C => .inl rfl) (by omega) rfl ?_ ?_)) EvL.nil) ?_)
    · intro C d s' P' hd e F'
      exact EvB.tests0
    · intro C d s' P' hd _ e F'
      have := hds d hd
      exact Ev.to (hpw d hd) (Ev.powI (x := 2) (y := 20 - (d : Int)) Ev.cInt (Ev.subI (x := 20) (y := (d : Int)) Ev.cInt (Ev.name F' rfl rfl)) (by omega) (by omega) (by decide))
    · rintro s1 P1 vs e ⟨v, r, rfl, rv, rfl⟩
      rw [filt] at rv
      refine op_sum (B := 2 ^ 20) e.sub R.handled rv (fun x hx => ?_) (by decide) ?_ (by decide)
      · obtain ⟨d, hd, rfl⟩ := List.mem_map.mp hx
        have h1 : (2 : Nat) ^ (20 - d) ≤ 2 ^ 20 := Nat.pow_le_pow_right (by decide) (by omega)
        have h2 : ((2 : Int) ^ (20 - d)) = ((2 ^ (20 - d) : Nat) : Int) := by rw [Int.natCast_pow]; rfl
        rw [h2]
        exact ⟨Int.natCast_nonneg _, Int.ofNat_le.mpr h1⟩
      · rw [List.length_map]; omega
  case e2 => exact Ev.powI (x := 2) (y := 20) Ev.cInt Ev.cInt (by decide) (by decide) (by decide)
  cases r7
  refine wpAny_truthy_bool ?_
  rw [if_pos (by decide)]
  have S7 := S6.go e7
  refine BoolOp_one (St.call1F (n := 13) S7 (F.sub fun q hq => hq) W (R.le (by decide)) (Ev.name S7.fs rfl rfl) (fun P v r => spec_heard G h4 (fun x hx => ⟨(hsm x hx).1, (hsm x hx).2.2⟩) (fun x hx m hm => by have := (hdp x hx).1 m hm; omega) hok.rise hok.heard r) fun v s8 P8 l8 S8 r8 => ?_)
  exact ⟨v, P8, _, _, rfl, S8, fun _ h => h, r8⟩
end
end VS

end PartW9

noncomputable section PartW10
namespace VS
open PySem PySem.Calls PySem.W PyProof.Rows
theorem caller_room : Room 15 callerA := ⟨rfl, by decide, by decide⟩
theorem law_top {prog : Program} {w : World} {lo : List Str} {p : Program} {mean : ExcName → Option Value} {mg mb : Str → Option Value} {s₁ : Shared} {fa a : Addr} {vs : List Value} {xs : List Int} {Q E : Value → Shared → Prop}
    (T : Top p lo mean mg mb s₁.heap) (KX : (KF w.params).In s₁.heap) (hmg : mg "law" = some (.ref fa)) (hL : s₁.heap.IsList a vs.toArray) (hI : IntsAre vs xs) (hlen : xs.length ≤ 63) (hok : LawOk (drawnR xs))
    (hQ : ∀ s', (∀ b o, s₁.heap.get? b = some o → s'.heap.get? b = some o) → s'.gens = s₁.gens → s'.os = s₁.os → Q (.bool true) s') : wpAny (model prog w) callerA (call (.ref fa) [.ref a] []) Q E s₁ := by
  have W : Wd (KF w.params) p lo mg mb s₁.heap := ⟨KX, topRead_of T⟩
  have e := mg_of (n := "law") W.own W.top.g (show nsIn (KF w.params) mainGlobals "law" = some (some (.ref 168)) from rfl)
  rw [e] at hmg
  cases hmg
  obtain ⟨o, ho, hc, n, hd⟩ := hL
  have sp := spec_law (prog := prog) (w := w) (lo := lo) (p := p) (mg := mg) (mb := mb) (P := fun b => s₁.heap.get? b) (v1 := .ref a) (xs := xs) (by omega) hok ⟨a, o, vs, n, rfl, ho, hc, hd, of_intsAre hI⟩
  refine wpAny_mono (sp callerA s₁ [] [] caller_room rfl (fun en hen => nomatch hen) (fun q hq => nomatch hq) .nil W fun b o e => e) (fun v s' ⟨P', e, r⟩ => ?_) fun _ _ f => f.elim
  cases r
  exact hQ s' (fun b o h => e.keep b o (fun hm => nomatch hm) h) e.gens e.os
end VS

end PartW10

noncomputable section PartP10
namespace VS
open PySem PyProof.Rows
/-! version stamps (Almeida, Baquero, Fonte), as the law lays them -/
/-- neither begins with the other -/
abbrev Inc (a b : Mark) : Prop := ¬ a <+: b ∧ ¬ b <+: a
theorem Inc.symm {a b : Mark} (h : Inc a b) : Inc b a := ⟨h.2, h.1⟩
theorem Inc.ne {a b : Mark} (h : Inc a b) : a ≠ b := fun e => h.1 (e ▸ List.prefix_refl a)
/-- a copy knows a mark, or one that begins with it; it has a mark that begins with it -/
def kno (x : Copy) (r : Mark) : Prop := ∃ k ∈ x.1, r <+: k
def has (x : Copy) (r : Mark) : Prop := ∃ m ∈ x.2.1, r <+: m
theorem pw_mem {α : Type} {R : α → α → Prop} (hs : ∀ a b, R a b → R b a) : ∀ {l : List α}, l.Pairwise R → ∀ {a b : α}, a ∈ l → b ∈ l → a ≠ b → R a b
  | c :: l, h, a, b, ha, hb, ne => by
    obtain ⟨h1, h2⟩ := List.pairwise_cons.mp h
    rcases List.mem_cons.mp ha with e1 | ha'
    · rcases List.mem_cons.mp hb with e2 | hb'
      · exact absurd (e1.trans e2.symm) ne
      · exact e1 ▸ h1 b hb'
    · rcases List.mem_cons.mp hb with e2 | hb'
      · exact hs _ _ (e2 ▸ h1 a ha')
      · exact pw_mem hs h2 ha' hb' ne
theorem pre_snoc {r a : Mark} {b : Bool} (h : r <+: a ++ [b]) : r = a ++ [b] ∨ r <+: a := (List.prefix_concat_iff.mp (by simpa using h))
theorem Inc.snocL {m t : Mark} (b : Bool) (h : Inc m t) : Inc (m ++ [b]) t :=
  ⟨fun q => h.1 ((List.prefix_append m [b]).trans q), fun q => (pre_snoc q).elim (fun e => h.1 (e ▸ List.prefix_append m [b])) fun q => h.2 q⟩
theorem Inc.two (m : Mark) : Inc (m ++ [false]) (m ++ [true]) :=
  ⟨fun q => by have := List.IsPrefix.eq_of_length q (by simp); simp at this, fun q => by have := List.IsPrefix.eq_of_length q (by simp); simp at this⟩
/-- the folder of two marks stands where they stood -/
theorem Inc.folder {a t : Mark} (h0 : Inc (a ++ [false]) t) (h1 : Inc (a ++ [true]) t) : Inc a t := by
  refine ⟨fun ⟨s, hs⟩ => ?_, fun q => h0.2 (q.trans (List.prefix_append a _))⟩
  cases s with
  | nil => rw [List.append_nil] at hs; exact h0.2 (hs ▸ List.prefix_append a _)
  | cons b s =>
    have : a ++ [b] <+: t := ⟨s, by rw [← hs]; simp⟩
    cases b with
    | false => exact h0.1 this
    | true => exact h1.1 this
abbrev allM (cs : List Copy) : List Mark := cs.flatMap fun x => x.2.1
structure Inv (cs : List Copy) : Prop where
  anti : (allM cs).Pairwise Inc
  ne : ∀ x ∈ cs, x.2.1 ≠ []
  i1 : ∀ x ∈ cs, ∀ r ∈ x.1, has x r
  i3 : ∀ x ∈ cs, ∀ y ∈ cs, ∀ r ∈ x.1, has y r → kno y r
  main : ∀ x ∈ cs, ∀ S : List Copy, S ≠ [] → (∀ y ∈ S, y ∈ cs) → ((∀ r ∈ x.1, ∃ y ∈ S, kno y r) ↔ ∀ e ∈ x.2.2, ∃ y ∈ S, e ∈ y.2.2)
theorem Inv.perm {cs cs' : List Copy} (I : Inv cs) (h : cs.Perm cs') : Inv cs' where
  anti := ((h.flatMap_right _).pairwise_iff fun h => h.symm).mp I.anti
  ne := fun x hx => I.ne x (h.mem_iff.mpr hx)
  i1 := fun x hx => I.i1 x (h.mem_iff.mpr hx)
  i3 := fun x hx y hy => I.i3 x (h.mem_iff.mpr hx) y (h.mem_iff.mpr hy)
  main := fun x hx S hS hin => I.main x (h.mem_iff.mpr hx) S hS fun y hy => h.mem_iff.mpr (hin y hy)
theorem Inv.cross {x : Copy} {rest : List Copy} (I : Inv (x :: rest)) {y : Copy} (hy : y ∈ rest) {m n : Mark} (hm : m ∈ x.2.1) (hn : n ∈ y.2.1) : Inc m n := by
  have h : (x.2.1 ++ allM rest).Pairwise Inc := I.anti
  exact (List.pairwise_append.mp h).2.2 m hm n (List.mem_flatMap.mpr ⟨y, hy, hn⟩)
theorem kno.has {cs : List Copy} (I : Inv cs) {x : Copy} (hx : x ∈ cs) {r : Mark} (h : kno x r) : has x r :=
  let ⟨k, hk, p⟩ := h; let ⟨m, hm, q⟩ := I.i1 x hx k hk; ⟨m, hm, p.trans q⟩
theorem kno.self {x : Copy} {r : Mark} (h : r ∈ x.1) : kno x r := ⟨r, h, List.prefix_refl r⟩
/-- a choice among one copy and the rest -/
theorem cov {x : Copy} {rest S : List Copy} (h : ∀ y ∈ S, y ∈ x :: rest) :
    (∀ y ∈ S, y ∈ rest) ∨ ∃ T : List Copy, (∀ y ∈ T, y ∈ rest) ∧ ∀ p : Copy → Prop, (∃ y ∈ S, p y) ↔ (p x ∨ ∃ y ∈ T, p y) := by
  by_cases hx : x ∈ S
  · refine .inr ⟨S.filter fun y => decide (y ∈ rest), fun y hy => of_decide_eq_true (List.mem_filter.mp hy).2, fun p => ⟨fun ⟨y, hy, hp⟩ => ?_, fun hp => ?_⟩⟩
    · rcases List.mem_cons.mp (h y hy) with rfl | hr
      · exact .inl hp
      · exact .inr ⟨y, List.mem_filter.mpr ⟨hy, decide_eq_true hr⟩, hp⟩
    · rcases hp with hp | ⟨y, hy, hp⟩
      · exact ⟨x, hx, hp⟩
      · exact ⟨y, (List.mem_filter.mp hy).1, hp⟩
  · refine .inl fun y hy => ?_
    rcases List.mem_cons.mp (h y hy) with rfl | hr
    · exact absurd hy hx
    · exact hr
theorem ex_cons {x : Copy} {T : List Copy} {p : Copy → Prop} : (∃ y ∈ x :: T, p y) ↔ (p x ∨ ∃ y ∈ T, p y) := by simp
theorem in_cons {x : Copy} {T rest : List Copy} (h : ∀ y ∈ T, y ∈ rest) : ∀ y ∈ x :: T, y ∈ x :: rest := fun y hy => (List.mem_cons.mp hy).elim (fun e => e ▸ .head _) fun hy => .tail _ (h y hy)
/-- a change -/
theorem Inv.upd {x : Copy} {rest : List Copy} {i : Int} (I : Inv (x :: rest)) (hi : ∀ y ∈ x :: rest, ∀ e ∈ y.2.2, e < i) : Inv ((x.2.1, x.2.1, x.2.2 ++ [i]) :: rest) where
  anti := I.anti
  ne := fun y hy => (List.mem_cons.mp hy).elim (fun e => by subst e; exact I.ne x (.head _)) fun hy => I.ne y (.tail _ hy)
  i1 := fun y hy r hr => (List.mem_cons.mp hy).elim (fun e => by subst e; exact ⟨r, hr, List.prefix_refl r⟩) fun hy => I.i1 y (.tail _ hy) r hr
  i3 := fun a ha b hb r hr hm => by
    rcases List.mem_cons.mp hb with rfl | hb
    · exact hm
    · rcases List.mem_cons.mp ha with rfl | ha
      · obtain ⟨m, hm, p⟩ := hm
        exact absurd p (I.cross hb hr hm).1
      · exact I.i3 a (.tail _ ha) b (.tail _ hb) r hr hm
  main := fun a ha S hS hin => by
    rcases cov hin with hr | ⟨T, hT, hp⟩
    · rcases List.mem_cons.mp ha with rfl | ha
      · have hne := I.ne x (.head _)
        refine ⟨fun h => ?_, fun h => ?_⟩
        · obtain ⟨m, hm⟩ := List.exists_mem_of_ne_nil _ hne
          obtain ⟨y, hy, hk⟩ := h m hm
          obtain ⟨n, hn, p⟩ := kno.has I (.tail _ (hr y hy)) hk
          exact absurd p (I.cross (hr y hy) hm hn).1
        · obtain ⟨y, hy, he⟩ := h i (List.mem_append.mpr (.inr (.head _)))
          exact absurd (hi y (.tail _ (hr y hy)) i he) (by omega)
      · exact I.main a (.tail _ ha) S hS fun y hy => .tail _ (hr y hy)
    · rcases List.mem_cons.mp ha with rfl | ha
      · exact ⟨fun _ e he => (hp _).mpr (.inl he), fun _ r hr => (hp _).mpr (.inl (kno.self hr))⟩
      · have hm := I.main a (.tail _ ha) (x :: T) (by simp) (in_cons hT)
        refine ⟨fun h e he => ?_, fun h r hr => ?_⟩
        · have h' : ∀ r ∈ a.1, ∃ y ∈ x :: T, kno y r := fun r hr => ex_cons.mpr (((hp _).mp (h r hr)).imp (fun q => I.i3 a (.tail _ ha) x (.head _) r hr q) id)
          exact (hp _).mpr ((ex_cons.mp (hm.mp h' e he)).imp (fun q => List.mem_append.mpr (.inl q)) id)
        · have h' : ∀ e ∈ a.2.2, ∃ y ∈ x :: T, e ∈ y.2.2 := fun e he => ex_cons.mpr (((hp _).mp (h e he)).imp (fun q => (List.mem_append.mp q).resolve_right fun q => by
            have := hi a (.tail _ ha) e he
            rw [List.mem_singleton.mp q] at this; omega) id)
          exact (hp _).mpr ((ex_cons.mp (hm.mpr h' r hr)).imp (fun q => kno.has I (.head _) q) id)
/-- two copies are put together -/
theorem Inv.join {x y z : Copy} {rest : List Copy} (I : Inv (x :: y :: rest)) (hk : ∀ r, r ∈ z.1 ↔ r ∈ x.1 ∨ r ∈ y.1) (hm : z.2.1 = x.2.1 ++ y.2.1) (hs : ∀ e, e ∈ z.2.2 ↔ e ∈ x.2.2 ∨ e ∈ y.2.2) : Inv (z :: rest) := by
  have kz : ∀ r, kno z r ↔ kno x r ∨ kno y r := fun r => ⟨fun ⟨k, h, p⟩ => ((hk k).mp h).imp (fun h => ⟨k, h, p⟩) fun h => ⟨k, h, p⟩, fun h => h.elim (fun ⟨k, h, p⟩ => ⟨k, (hk k).mpr (.inl h), p⟩) fun ⟨k, h, p⟩ => ⟨k, (hk k).mpr (.inr h), p⟩⟩
  have hz : ∀ r, has z r ↔ has x r ∨ has y r := fun r => ⟨fun ⟨k, h, p⟩ => (List.mem_append.mp (hm ▸ h)).imp (fun h => ⟨k, h, p⟩) fun h => ⟨k, h, p⟩, fun h => h.elim (fun ⟨k, h, p⟩ => ⟨k, hm ▸ List.mem_append.mpr (.inl h), p⟩) fun ⟨k, h, p⟩ => ⟨k, hm ▸ List.mem_append.mpr (.inr h), p⟩⟩
  have xi : x ∈ x :: y :: rest := .head _
  have yi : y ∈ x :: y :: rest := .tail _ (.head _)
  have ri : ∀ {a}, a ∈ rest → a ∈ x :: y :: rest := fun h => .tail _ (.tail _ h)
  exact {
    anti := by
      have h : (x.2.1 ++ (y.2.1 ++ allM rest)).Pairwise Inc := I.anti
      show (z.2.1 ++ allM rest).Pairwise Inc
      rw [hm, List.append_assoc]; exact h
    ne := fun a ha => (List.mem_cons.mp ha).elim (fun e => by subst e; rw [hm]; intro q; exact I.ne x xi (List.append_eq_nil_iff.mp q).1) fun h => I.ne a (ri h)
    i1 := fun a ha r hr => by
      rcases List.mem_cons.mp ha with rfl | ha
      · exact (hz r).mpr (((hk r).mp hr).imp (I.i1 x xi r) (I.i1 y yi r))
      · exact I.i1 a (ri ha) r hr
    i3 := fun a ha b hb r hr hq => by
      rcases List.mem_cons.mp hb with e2 | hb'
      · subst e2
        rcases List.mem_cons.mp ha with e1 | ha'
        · subst e1; exact kno.self hr
        · exact (kz r).mpr (((hz r).mp hq).imp (I.i3 a (ri ha') x xi r hr) (I.i3 a (ri ha') y yi r hr))
      · rcases List.mem_cons.mp ha with e1 | ha'
        · subst e1; exact ((hk r).mp hr).elim (fun h => I.i3 x xi b (ri hb') r h hq) fun h => I.i3 y yi b (ri hb') r h hq
        · exact I.i3 a (ri ha') b (ri hb') r hr hq
    main := fun a ha S hS hin => by
      rcases cov hin with hr | ⟨T, hT, hp⟩
      · rcases List.mem_cons.mp ha with rfl | ha
        · have hx := I.main x xi S hS fun q hq => ri (hr q hq)
          have hy := I.main y yi S hS fun q hq => ri (hr q hq)
          exact ⟨fun h e he => ((hs e).mp he).elim (hx.mp (fun r hr => h r ((hk r).mpr (.inl hr))) e) (hy.mp (fun r hr => h r ((hk r).mpr (.inr hr))) e),
            fun h r hr => ((hk r).mp hr).elim (hx.mpr (fun e he => h e ((hs e).mpr (.inl he))) r) (hy.mpr (fun e he => h e ((hs e).mpr (.inr he))) r)⟩
        · exact I.main a (ri ha) S hS fun q hq => ri (hr q hq)
      · rcases List.mem_cons.mp ha with rfl | ha
        · exact ⟨fun _ e he => (hp _).mpr (.inl he), fun _ r hr => (hp _).mpr (.inl (kno.self hr))⟩
        · have hm := I.main a (ri ha) (x :: y :: T) (by simp) (in_cons (in_cons hT))
          refine ⟨fun h e he => ?_, fun h r hr => ?_⟩
          · have h' : ∀ r ∈ a.1, ∃ q ∈ x :: y :: T, kno q r := fun r hr => by
              rw [ex_cons, ex_cons, ← or_assoc, ← kz r]; exact (hp _).mp (h r hr)
            have := hm.mp h' e he
            rw [ex_cons, ex_cons, ← or_assoc, ← hs e] at this
            exact (hp _).mpr this
          · have h' : ∀ e ∈ a.2.2, ∃ q ∈ x :: y :: T, e ∈ q.2.2 := fun e he => by
              rw [ex_cons, ex_cons, ← or_assoc, ← hs e]; exact (hp _).mp (h e he)
            have := hm.mpr h' r hr
            rw [ex_cons, ex_cons, ← or_assoc, ← kz r] at this
            exact (hp _).mpr this }
end VS

end PartP10

noncomputable section PartP11
namespace VS
open PySem PyProof.Rows
/-- a copy is copied -/
theorem Inv.fork {x : Copy} {rest : List Copy} (I : Inv (x :: rest)) : Inv ((x.1, x.2.1.map (· ++ [false]), x.2.2) :: (x.1, x.2.1.map (· ++ [true]), x.2.2) :: rest) := by
  have xi : x ∈ x :: rest := .head _
  have hA : (x.2.1 ++ allM rest).Pairwise Inc := I.anti
  obtain ⟨hA1, hA2, hA3⟩ := List.pairwise_append.mp hA
  have two : ∀ {m n : Mark} (b c : Bool), Inc m n → Inc (m ++ [b]) (n ++ [c]) := fun b c h => ((h.snocL b).symm.snocL c).symm
  have inmap : ∀ {b : Bool} {u : Mark}, u ∈ x.2.1.map (· ++ [b]) → ∃ m ∈ x.2.1, u = m ++ [b] := fun h => let ⟨m, hm, e⟩ := List.mem_map.mp h; ⟨m, hm, e.symm⟩
  have pm : ∀ b : Bool, (x.2.1.map (· ++ [b])).Pairwise Inc := fun b => List.pairwise_map.mpr (hA1.imp fun h => two b b h)
  have cr : ∀ b : Bool, ∀ u ∈ x.2.1.map (· ++ [b]), ∀ v ∈ allM rest, Inc u v := fun b u hu v hv => by
    obtain ⟨m, hm, rfl⟩ := inmap hu
    exact (hA3 m hm v hv).snocL b
  -- what is asked of a copy's halves
  have halves : ∀ {y : Copy}, y ∈ (x.1, x.2.1.map (· ++ [false]), x.2.2) :: (x.1, x.2.1.map (· ++ [true]), x.2.2) :: rest → (∃ b : Bool, y = (x.1, x.2.1.map (· ++ [b]), x.2.2)) ∨ y ∈ rest := fun hy => by
    rcases List.mem_cons.mp hy with e | hy
    · exact .inl ⟨_, e⟩
    · rcases List.mem_cons.mp hy with e | hy
      · exact .inl ⟨_, e⟩
      · exact .inr hy
  exact {
    anti := by
      show (x.2.1.map (· ++ [false]) ++ (x.2.1.map (· ++ [true]) ++ allM rest)).Pairwise Inc
      refine List.pairwise_append.mpr ⟨pm false, List.pairwise_append.mpr ⟨pm true, hA2, cr true⟩, fun u hu v hv => ?_⟩
      rcases List.mem_append.mp hv with hv | hv
      · obtain ⟨m, hm, rfl⟩ := inmap hu
        obtain ⟨n, hn, rfl⟩ := inmap hv
        by_cases e : m = n
        · subst e; exact Inc.two m
        · exact two _ _ (pw_mem (fun _ _ h => h.symm) hA1 hm hn e)
      · exact cr false u hu v hv
    ne := fun y hy => by
      rcases halves hy with ⟨b, rfl⟩ | hy
      · intro q; exact I.ne x xi (List.map_eq_nil_iff.mp q)
      · exact I.ne y (.tail _ hy)
    i1 := fun y hy r hr => by
      rcases halves hy with ⟨b, rfl⟩ | hy
      · obtain ⟨m, hm, p⟩ := I.i1 x xi r hr
        exact ⟨m ++ [b], List.mem_map.mpr ⟨m, hm, rfl⟩, p.trans (List.prefix_append m [b])⟩
      · exact I.i1 y (.tail _ hy) r hr
    i3 := fun a ha y hy r hr hq => by
      rcases halves hy with ⟨b, rfl⟩ | hy
      · rcases halves ha with ⟨b', rfl⟩ | ha
        · exact ⟨r, hr, List.prefix_refl r⟩
        · obtain ⟨u, hu, p⟩ := hq
          obtain ⟨m, hm, rfl⟩ := inmap hu
          rcases pre_snoc p with e | p
          · obtain ⟨n, hn, p2⟩ := I.i1 a (.tail _ ha) r hr
            exact absurd ((List.prefix_append m [b]).trans (e ▸ p2)) (I.cross ha hm hn).1
          · obtain ⟨k, hk, p2⟩ := I.i3 a (.tail _ ha) x xi r hr ⟨m, hm, p⟩
            exact ⟨k, hk, p2⟩
      · rcases halves ha with ⟨b', rfl⟩ | ha
        · exact I.i3 x xi y (.tail _ hy) r hr hq
        · exact I.i3 a (.tail _ ha) y (.tail _ hy) r hr hq
    main := fun a ha S hS hin => by
      let f : Copy → Copy := fun y => if y ∈ rest then y else x
      have hf : ∀ y ∈ S, (f y).1 = y.1 ∧ (f y).2.2 = y.2.2 ∧ f y ∈ x :: rest := fun y hy => by
        by_cases hr : y ∈ rest
        · have : f y = y := if_pos hr
          rw [this]; exact ⟨rfl, rfl, .tail _ hr⟩
        · have : f y = x := if_neg hr
          rw [this]
          rcases halves (hin y hy) with ⟨b, rfl⟩ | h
          · exact ⟨rfl, rfl, .head _⟩
          · exact absurd h hr
      have hk : ∀ r, (∃ y ∈ S, kno y r) ↔ ∃ y ∈ S.map f, kno y r := fun r => by
        constructor
        · rintro ⟨y, hy, k, h, p⟩
          exact ⟨f y, List.mem_map.mpr ⟨y, hy, rfl⟩, k, (hf y hy).1 ▸ h, p⟩
        · rintro ⟨z, hz, k, h, p⟩
          obtain ⟨y, hy, rfl⟩ := List.mem_map.mp hz
          exact ⟨y, hy, k, (hf y hy).1 ▸ h, p⟩
      have hs : ∀ e, (∃ y ∈ S, e ∈ y.2.2) ↔ ∃ y ∈ S.map f, e ∈ y.2.2 := fun e => by
        constructor
        · rintro ⟨y, hy, h⟩
          exact ⟨f y, List.mem_map.mpr ⟨y, hy, rfl⟩, (hf y hy).2.1 ▸ h⟩
        · rintro ⟨z, hz, h⟩
          obtain ⟨y, hy, rfl⟩ := List.mem_map.mp hz
          exact ⟨y, hy, (hf y hy).2.1 ▸ h⟩
      have hS' : S.map f ≠ [] := fun q => hS (List.map_eq_nil_iff.mp q)
      have hin' : ∀ z ∈ S.map f, z ∈ x :: rest := fun z hz => by
        obtain ⟨y, hy, rfl⟩ := List.mem_map.mp hz
        exact (hf y hy).2.2
      simp only [hk, hs]
      rcases halves ha with ⟨b, rfl⟩ | ha
      · exact I.main x xi _ hS' hin'
      · exact I.main a (.tail _ ha) _ hS' hin' }
/-- two marks of one folder make place for it -/
theorem Inv.fold {z z' : Copy} {rest : List Copy} {a : Mark} (I : Inv (z :: rest)) (h0 : a ++ [false] ∈ z.2.1) (h1 : a ++ [true] ∈ z.2.1) (e1 : (z'.1, z'.2.1) = stepA a (z.1, z.2.1)) (e2 : z'.2.2 = z.2.2) : Inv (z' :: rest) := by
  have zi : z ∈ z :: rest := .head _
  have hA : (z.2.1 ++ allM rest).Pairwise Inc := I.anti
  obtain ⟨hA1, hA2, hA3⟩ := List.pairwise_append.mp hA
  have pb : ∀ b : Bool, a ++ [b] ∈ z.2.1 := fun b => by cases b; exact h0; exact h1
  have notp : ∀ {t : Mark}, ¬ ([a ++ [false], a ++ [true]].contains t = true) ↔ ∀ b : Bool, t ≠ a ++ [b] := fun {t} => by
    rw [List.contains_iff_mem]
    constructor
    · intro h b e; exact h (by cases b <;> simp [e])
    · intro h q
      rcases List.mem_cons.mp q with e | q
      · exact h false e
      · exact h true (List.mem_singleton.mp q)
  have marks : ∀ t, t ∈ z'.2.1 ↔ (t ∈ z.2.1 ∧ ∀ b : Bool, t ≠ a ++ [b]) ∨ t = a := fun t => by
    have : z'.2.1 = (z.2.1.filter fun m => ![a ++ [false], a ++ [true]].contains m) ++ [a] := congrArg Prod.snd e1
    rw [this, List.mem_append, List.mem_filter, List.mem_singleton, Bool.not_eq_true', ← Bool.not_eq_true, notp]
  -- what was known, and what is known
  have known : (z'.1 = z.1 ∧ ∀ k ∈ z.1, ∀ b : Bool, k ≠ a ++ [b]) ∨ ((∃ b : Bool, a ++ [b] ∈ z.1) ∧ ∀ t, t ∈ z'.1 ↔ (t ∈ z.1 ∧ (∀ b : Bool, t ≠ a ++ [b]) ∧ t ≠ a) ∨ t = a) := by
    have hk : z'.1 = if (z.1.filter fun k => [a ++ [false], a ++ [true]].contains k).isEmpty then z.1 else (z.1.filter fun k => !([a ++ [false], a ++ [true]] ++ [a]).contains k) ++ [a] := congrArg Prod.fst e1
    split at hk
    · rename_i hq
      rw [List.isEmpty_iff, List.filter_eq_nil_iff] at hq
      exact .inl ⟨hk, fun k hk => notp.mp (hq k hk)⟩
    · rename_i hq
      refine .inr ⟨?_, fun t => ?_⟩
      · rw [List.isEmpty_iff] at hq
        obtain ⟨k, hk'⟩ := List.exists_mem_of_ne_nil _ hq
        obtain ⟨m1, m2⟩ := List.mem_filter.mp hk'
        by_cases c0 : k = a ++ [false]
        · exact ⟨false, c0 ▸ m1⟩
        · by_cases c1 : k = a ++ [true]
          · exact ⟨true, c1 ▸ m1⟩
          · exact absurd m2 (notp.mpr fun b => by cases b <;> assumption)
      · rw [hk, List.mem_append, List.mem_filter, List.mem_singleton]
        have : (!([a ++ [false], a ++ [true]] ++ [a]).contains t) = true ↔ (∀ b : Bool, t ≠ a ++ [b]) ∧ t ≠ a := by
          rw [Bool.not_eq_true', ← Bool.not_eq_true, List.contains_iff_mem, List.mem_append, not_or, List.mem_singleton, ← List.contains_iff_mem, notp]
        rw [this]
  -- the folder stands apart from all the rest
  have apart : ∀ {y : Copy}, y ∈ rest → ∀ m ∈ y.2.1, Inc a m := fun hy m hm => Inc.folder (I.cross hy h0 hm) (I.cross hy h1 hm)
  have notk : ∀ {y : Copy}, y ∈ rest → ∀ r, kno y r → (∀ b : Bool, r ≠ a ++ [b]) ∧ r ≠ a := fun hy r hr => by
    obtain ⟨m, hm, p⟩ := kno.has I (.tail _ hy) hr
    exact ⟨fun b e => (I.cross hy (pb b) hm).1 (e ▸ p), fun e => (apart hy m hm).1 (e ▸ p)⟩
  have nota : ∀ {y : Copy}, y ∈ rest → ¬ kno y a := fun hy q => (notk hy a q).2 rfl
  have hz : ∀ {r : Mark}, (∀ b : Bool, r ≠ a ++ [b]) → (has z' r ↔ has z r) := fun {r} hr => by
    constructor
    · rintro ⟨m, hm, p⟩
      rcases (marks m).mp hm with ⟨h, _⟩ | rfl
      · exact ⟨m, h, p⟩
      · exact ⟨_, h0, p.trans (List.prefix_append _ _)⟩
    · rintro ⟨m, hm, p⟩
      by_cases c : ∀ b : Bool, m ≠ a ++ [b]
      · exact ⟨m, (marks m).mpr (.inl ⟨hm, c⟩), p⟩
      · obtain ⟨b, hb⟩ : ∃ b : Bool, m = a ++ [b] := Classical.byContradiction fun q => c fun b e => q ⟨b, e⟩
        subst hb
        exact ⟨a, (marks a).mpr (.inr rfl), (pre_snoc p).resolve_left (hr b)⟩
  have kz : ∀ {r : Mark}, (∀ b : Bool, r ≠ a ++ [b]) → (kno z' r ↔ kno z r) := fun {r} hr => by
    rcases known with ⟨e, _⟩ | ⟨⟨b0, hb0⟩, h⟩
    · unfold kno; rw [e]
    · constructor
      · rintro ⟨k, hk, p⟩
        rcases (h k).mp hk with ⟨q, _⟩ | rfl
        · exact ⟨k, q, p⟩
        · exact ⟨_, hb0, p.trans (List.prefix_append _ _)⟩
      · rintro ⟨k, hk, p⟩
        by_cases ca : k = a
        · exact ⟨a, (h a).mpr (.inr rfl), ca ▸ p⟩
        · by_cases c : ∀ b : Bool, k ≠ a ++ [b]
          · exact ⟨k, (h k).mpr (.inl ⟨hk, c, ca⟩), p⟩
          · obtain ⟨b, hb⟩ : ∃ b : Bool, k = a ++ [b] := Classical.byContradiction fun q => c fun b e => q ⟨b, e⟩
            subst hb
            exact ⟨a, (h a).mpr (.inr rfl), (pre_snoc p).resolve_left (hr b)⟩
  have inz : ∀ {r : Mark}, r ∈ z'.1 → r = a ∨ (r ∈ z.1 ∧ ∀ b : Bool, r ≠ a ++ [b]) := fun {r} hr => by
    rcases known with ⟨e, hn⟩ | ⟨_, h⟩
    · rw [e] at hr; exact .inr ⟨hr, hn r hr⟩
    · exact ((h r).mp hr).symm.imp id fun ⟨q, c, _⟩ => ⟨q, c⟩
  exact {
    anti := by
      have hm : z'.2.1 = (z.2.1.filter fun m => ![a ++ [false], a ++ [true]].contains m) ++ [a] := congrArg Prod.snd e1
      show (z'.2.1 ++ allM rest).Pairwise Inc
      rw [hm]
      have hin : ∀ {t}, t ∈ z.2.1 → (∀ b : Bool, t ≠ a ++ [b]) → Inc a t := fun ht hb =>
        Inc.folder (pw_mem (fun _ _ h => h.symm) hA1 h0 ht (hb false).symm) (pw_mem (fun _ _ h => h.symm) hA1 h1 ht (hb true).symm)
      have hfm : ∀ {t}, t ∈ (z.2.1.filter fun m => ![a ++ [false], a ++ [true]].contains m) → t ∈ z.2.1 ∧ ∀ b : Bool, t ≠ a ++ [b] := fun ht => by
        obtain ⟨q1, q2⟩ := List.mem_filter.mp ht
        rw [Bool.not_eq_true', ← Bool.not_eq_true, notp] at q2
        exact ⟨q1, q2⟩
      refine List.pairwise_append.mpr ⟨List.pairwise_append.mpr ⟨hA1.filter _, List.pairwise_singleton _ _, fun t ht u hu => ?_⟩, hA2, fun t ht u hu => ?_⟩
      · obtain ⟨q1, q2⟩ := hfm ht
        rw [List.mem_singleton.mp hu]
        exact (hin q1 q2).symm
      · rcases List.mem_append.mp ht with ht | ht
        · exact hA3 t (hfm ht).1 u hu
        · rw [List.mem_singleton.mp ht]
          obtain ⟨y, hy, hu⟩ := List.mem_flatMap.mp hu
          exact apart hy u hu
    ne := fun y hy => by
      rcases List.mem_cons.mp hy with e | hy
      · subst e
        exact List.ne_nil_of_mem ((marks a).mpr (.inr rfl))
      · exact I.ne y (.tail _ hy)
    i1 := fun y hy r hr => by
      rcases List.mem_cons.mp hy with e | hy
      · subst e
        rcases inz hr with rfl | ⟨q, c⟩
        · exact ⟨r, (marks r).mpr (.inr rfl), List.prefix_refl r⟩
        · exact (hz c).mpr (I.i1 z zi r q)
      · exact I.i1 y (.tail _ hy) r hr
    i3 := fun x hx y hy r hr hq => by
      rcases List.mem_cons.mp hx with ex | hx'
      · subst ex
        rcases List.mem_cons.mp hy with ey | hy'
        · subst ey; exact kno.self hr
        · rcases inz hr with rfl | ⟨q, c⟩
          · obtain ⟨m, hm, p⟩ := hq
            exact absurd p (apart hy' m hm).1
          · exact I.i3 z zi y (.tail _ hy') r q hq
      · rcases List.mem_cons.mp hy with ey | hy'
        · subst ey
          have c := (notk hx' r (kno.self hr)).1
          exact (kz c).mpr (I.i3 x (.tail _ hx') z zi r hr ((hz c).mp hq))
        · exact I.i3 x (.tail _ hx') y (.tail _ hy') r hr hq
    main := fun x hx S hS hin => by
      rcases cov hin with hr | ⟨T, hT, hp⟩
      · rcases List.mem_cons.mp hx with ex | hx'
        · subst ex
          have hm := I.main z zi S hS fun y hy => .tail _ (hr y hy)
          rw [e2, ← hm]
          rcases known with ⟨e, _⟩ | ⟨⟨b0, hb0⟩, h⟩
          · rw [e]
          · constructor
            · intro q
              obtain ⟨y, hy, k⟩ := q a ((h a).mpr (.inr rfl))
              exact absurd k (nota (hr y hy))
            · intro q
              obtain ⟨y, hy, k⟩ := q _ hb0
              exact absurd rfl ((notk (hr y hy) _ k).1 b0)
        · exact I.main x (.tail _ hx') S hS fun y hy => .tail _ (hr y hy)
      · rcases List.mem_cons.mp hx with ex | hx'
        · subst ex
          exact ⟨fun _ e he => (hp _).mpr (.inl he), fun _ r hr => (hp _).mpr (.inl (kno.self hr))⟩
        · have hm := I.main x (.tail _ hx') (z :: T) (by simp) (in_cons hT)
          simp only [ex_cons] at hm
          constructor
          · intro q e he
            have := hm.mp (fun r hr => ((hp _).mp (q r hr)).imp (kz (notk hx' r (kno.self hr)).1).mp id) e he
            rw [← e2] at this
            exact (hp fun y => e ∈ y.2.2).mpr this
          · intro q r hr
            have := hm.mpr (fun e he => by have := (hp fun y => e ∈ y.2.2).mp (q e he); rwa [e2] at this) r hr
            exact (hp _).mpr (this.imp (kz (notk hx' r (kno.self hr)).1).mpr id) }
end VS

end PartP11

noncomputable section PartP12
namespace VS
open PySem PyProof.Rows PySem.Spec
/-! weights -/
def wt (ms : List Mark) : Int := (ms.map fun m => (2 : Int) ^ (20 - m.length)).sum
theorem wt_cons (m : Mark) (ms : List Mark) : wt (m :: ms) = (2 : Int) ^ (20 - m.length) + wt ms := by unfold wt; rw [List.map_cons, List.sum_cons]
theorem wt_append (a b : List Mark) : wt (a ++ b) = wt a + wt b := by unfold wt; rw [List.map_append, List.sum_append]
theorem wt_perm {a b : List Mark} (h : a.Perm b) : wt a = wt b := by
  induction h with
  | nil => rfl
  | cons x _ ih => rw [wt_cons, wt_cons, ih]
  | swap x y l => rw [wt_cons, wt_cons, wt_cons, wt_cons]; omega
  | trans _ _ h1 h2 => rw [h1, h2]
theorem half (l : Nat) (h : l ≤ 19) : (2 : Int) ^ (20 - (l + 1)) + (2 : Int) ^ (20 - (l + 1)) = (2 : Int) ^ (20 - l) := by
  rw [show 20 - l = (20 - (l + 1)) + 1 by omega, Int.pow_succ]; omega
theorem wt_fork : ∀ (ms : List Mark), (∀ m ∈ ms, m.length ≤ 19) → wt (ms.map (· ++ [false])) + wt (ms.map (· ++ [true])) = wt ms
  | [], _ => rfl
  | m :: ms, h => by
    have ih := wt_fork ms fun x hx => h x (.tail _ hx)
    have hm := half m.length (h m (.head _))
    rw [List.map_cons, List.map_cons, wt_cons, wt_cons, wt_cons, ← ih, ← hm, List.length_append, List.length_append, List.length_singleton, List.length_singleton]
    omega
theorem wt_fold {ms : List Mark} {a : Mark} (hn : ms.Nodup) (h0 : a ++ [false] ∈ ms) (h1 : a ++ [true] ∈ ms) (hl : a.length ≤ 19) :
    wt ((ms.filter fun m => ![a ++ [false], a ++ [true]].contains m) ++ [a]) = wt ms ∧ ((ms.filter fun m => ![a ++ [false], a ++ [true]].contains m) ++ [a]).length + 1 = ms.length := by
  have p : ms.Perm ((a ++ [false]) :: (a ++ [true]) :: ms.filter fun m => ![a ++ [false], a ++ [true]].contains m) := by
    refine perm_of_mem hn (List.nodup_cons.mpr ⟨fun q => ?_, List.nodup_cons.mpr ⟨fun q => ?_, hn.filter _⟩⟩) fun x => ?_
    · rcases List.mem_cons.mp q with e | q
      · simp at e
      · have := (List.mem_filter.mp q).2
        simp at this
    · have := (List.mem_filter.mp q).2
      simp at this
    · simp only [List.mem_cons, List.mem_filter]
      constructor
      · intro hx
        by_cases e0 : x = a ++ [false]
        · exact .inl e0
        · by_cases e1 : x = a ++ [true]
          · exact .inr (.inl e1)
          · exact .inr (.inr ⟨hx, by simp [e0, e1]⟩)
      · rintro (rfl | rfl | ⟨q, _⟩)
        · exact h0
        · exact h1
        · exact q
  refine ⟨?_, ?_⟩
  · rw [wt_perm p, wt_cons, wt_cons, wt_append, wt_cons, ← half a.length hl, List.length_append, List.length_append, List.length_singleton, List.length_singleton]
    show _ + (_ + 0) = _
    omega
  · have := p.length_eq
    rw [List.length_cons, List.length_cons] at this
    rw [List.length_append, List.length_singleton]; omega
theorem nodup_inc {l : List Mark} (h : l.Pairwise Inc) : l.Nodup := h.imp fun h => h.ne
/-- as long as two marks lie in one folder .. -/
theorem folds {z : Copy} {rest : List Copy} (I : Inv (z :: rest)) (hl : ∀ m ∈ z.2.1, m.length ≤ 19) : ∀ n,
    Inv (((iterJ n (z.1, z.2.1)).1, (iterJ n (z.1, z.2.1)).2, z.2.2) :: rest) ∧ (∀ m ∈ (iterJ n (z.1, z.2.1)).2, m.length ≤ 19) ∧ wt (iterJ n (z.1, z.2.1)).2 = wt z.2.1 ∧
      (bothOf (iterJ n (z.1, z.2.1)).2 = [] ∨ (iterJ n (z.1, z.2.1)).2.length + n = z.2.1.length)
  | 0 => ⟨I, hl, rfl, .inr rfl⟩
  | n + 1 => by
    obtain ⟨h1, h2, h3, h4⟩ := folds I hl n
    show Inv (((stepJ (iterJ n (z.1, z.2.1))).1, (stepJ (iterJ n (z.1, z.2.1))).2, z.2.2) :: rest) ∧ (∀ m ∈ (stepJ (iterJ n (z.1, z.2.1))).2, m.length ≤ 19) ∧ wt (stepJ (iterJ n (z.1, z.2.1))).2 = wt z.2.1 ∧ (bothOf (stepJ (iterJ n (z.1, z.2.1))).2 = [] ∨ (stepJ (iterJ n (z.1, z.2.1))).2.length + (n + 1) = z.2.1.length)
    generalize iterJ n (z.1, z.2.1) = km at h1 h2 h3 h4
    cases hb : bothOf km.2 with
    | nil =>
      have e : stepJ km = km := by unfold stepJ; rw [hb]
      rw [e]
      exact ⟨h1, h2, h3, .inl hb⟩
    | cons a r =>
      have e : stepJ km = stepA a km := by unfold stepJ; rw [hb]
      obtain ⟨m, hm, rfl, hm2⟩ := bothOf_mem (ms := km.2) (a := a) (by rw [hb]; exact .head _)
      have hal : a.length ≤ 19 := by have := h2 _ hm; rw [List.length_append] at this; omega
      have hn : km.2.Nodup := by
        have : (km.2 ++ allM rest).Pairwise Inc := h1.anti
        exact nodup_inc (List.pairwise_append.mp this).1
      obtain ⟨w1, w2⟩ := wt_fold hn hm hm2 hal
      rw [e]
      refine ⟨h1.fold (a := a) hm hm2 rfl rfl, fun t ht => ?_, w1.trans h3, .inr ?_⟩
      · rcases List.mem_append.mp ht with q | q
        · exact h2 t (List.mem_filter.mp q).1
        · rw [List.mem_singleton.mp q]; exact hal
      · have hne : km.2.length + n = z.2.1.length := h4.resolve_left fun q => by rw [hb] at q; cases q
        show ((km.2.filter fun m => ![a ++ [false], a ++ [true]].contains m) ++ [a]).length + (n + 1) = _
        omega
theorem no_both {ms : List Mark} {b : Bool} : bothOf (ms.map (· ++ [b])) = [] := List.eq_nil_iff_forall_not_mem.mpr fun a ha => by
  obtain ⟨m, hm, rfl, h2⟩ := bothOf_mem ha
  obtain ⟨u, _, e1⟩ := List.mem_map.mp hm
  obtain ⟨v, _, e2⟩ := List.mem_map.mp h2
  have q1 := (List.append_inj' e1 rfl).2
  have q2 := (List.append_inj' e2 rfl).2
  rw [q1] at q2; cases q2
/-! the run -/
structure Full (i : Nat) (cs : List Copy) : Prop where
  ok : RunOk i cs
  inv : Inv cs
  nosib : ∀ x ∈ cs, bothOf x.2.1 = []
  whole : wt (allM cs) = 2 ^ 20
  rise : ∀ x ∈ cs, x.2.2.Pairwise (· < ·)
theorem erase_perm {α : Type} : ∀ {l : List α} {a : Nat} (h : a < l.length), l.Perm (l[a] :: l.eraseIdx a)
  | x :: l, 0, _ => .refl _
  | x :: l, a + 1, h => ((erase_perm (l := l) (a := a) (by simpa using h)).cons x).trans (.swap _ _ _)
theorem pick_perm' {cs : List Copy} {a : Nat} (h : a < cs.length) : cs.Perm (cs.getD a noCopy :: cs.eraseIdx a) := by
  rw [List.getD_eq_getElem?_getD, List.getElem?_eq_getElem h]
  exact erase_perm h
theorem allM_perm {a b : List Copy} (h : a.Perm b) : wt (allM a) = wt (allM b) := wt_perm (h.flatMap_right _)
theorem allM_cons (x : Copy) (r : List Copy) : wt (allM (x :: r)) = wt x.2.1 + wt (allM r) := by unfold allM; rw [List.flatMap_cons, wt_append]
section
variable {one two : Str} (G : Good one two)
include G
theorem Full.step {i c : Nat} {cs : List Copy} (h : Full i cs) (hi : i ≤ 8) : Full (i + 1) (stepR one two i c cs) := by
  have hok := h.ok.step G (c := c)
  have ha := pick_mod h.ok.ne (c / 3)
  unfold stepR at hok ⊢
  dsimp only at hok ⊢
  generalize hA : c / 3 % cs.length = a at ha hok
  have pm := pick_perm' ha
  have I := h.inv.perm pm
  have hW := h.whole
  rw [allM_perm pm] at hW
  have hx : cs.getD a noCopy ∈ cs := pm.mem_iff.mpr (.head _)
  have hr : ∀ y ∈ cs.eraseIdx a, y ∈ cs := fun y hy => erase_mem hy
  generalize cs.getD a ([], [], []) = x at hok I hW hx
  generalize cs.eraseIdx a = rest at hok I hW hr
  rw [allM_cons] at hW
  have hdx := (h.ok.dep x hx).2
  have hsx := h.ok.seen x hx
  have hrx := h.rise x hx
  have hnx := h.nosib x hx
  split
  · rename_i hq
    rw [if_pos hq] at hok
    have p : ((x.1, x.2.1.map (· ++ [false]), x.2.2) :: (x.1, x.2.1.map (· ++ [true]), x.2.2) :: rest).Perm (wFork x rest) := List.perm_append_comm (l₁ := [(x.1, x.2.1.map (· ++ [false]), x.2.2), (x.1, x.2.1.map (· ++ [true]), x.2.2)])
    refine ⟨hok, I.fork.perm p, fun y hy => ?_, ?_, fun y hy => ?_⟩
    · rcases List.mem_cons.mp (p.mem_iff.mpr hy) with rfl | hy
      · exact no_both
      · rcases List.mem_cons.mp hy with rfl | hy
        · exact no_both
        · exact h.nosib y (hr y hy)
    · have hf := wt_fork x.2.1 fun m hm => by have := hdx m hm; omega
      rw [← allM_perm p, allM_cons, allM_cons, ← Int.add_assoc]
      exact (congrArg (fun q => q + wt (allM rest)) hf).trans hW
    · rcases List.mem_cons.mp (p.mem_iff.mpr hy) with rfl | hy
      · exact hrx
      · rcases List.mem_cons.mp hy with rfl | hy
        · exact hrx
        · exact h.rise y (hr y hy)
  · rename_i hq
    rw [if_neg hq] at hok
    split
    · rename_i hq2
      rw [if_pos hq2] at hok
      have hb := pick_mod hq2.2 (c / 12)
      generalize hB : c / 12 % rest.length = b at hb hok
      have pm2 := pick_perm' hb
      have I2 := I.perm (pm2.cons x)
      have hW2 := hW
      rw [allM_perm pm2] at hW2
      have hy : rest.getD b noCopy ∈ rest := pm2.mem_iff.mpr (.head _)
      have hr2 : ∀ y ∈ rest.eraseIdx b, y ∈ cs := fun y hy => hr y (erase_mem hy)
      generalize rest.getD b ([], [], []) = y at hok I2 hW2 hy
      generalize rest.eraseIdx b = rest2 at hok I2 hW2 hr2
      rw [allM_cons] at hW2
      have hdy := (h.ok.dep y (hr y hy)).2
      have J := I2.join (z := (canonM one two (x.1 ++ y.1), x.2.1 ++ y.2.1, canonI (x.2.2 ++ y.2.2))) (fun r => by rw [mem_canonM G, List.mem_append]) rfl (fun e => by rw [mem_canonI, List.mem_append])
      have hlm : ∀ m ∈ x.2.1 ++ y.2.1, m.length ≤ 19 := fun m hm => (List.mem_append.mp hm).elim (fun q => by have := hdx m q; omega) fun q => by have := hdy m q; omega
      obtain ⟨f1, f2, f3, f4⟩ := folds J hlm (x.2.1 ++ y.2.1).length
      have p : ((((iterJ (x.2.1 ++ y.2.1).length (canonM one two (x.1 ++ y.1), x.2.1 ++ y.2.1)).1, (iterJ (x.2.1 ++ y.2.1).length (canonM one two (x.1 ++ y.1), x.2.1 ++ y.2.1)).2, canonI (x.2.2 ++ y.2.2)) : Copy) :: rest2).Perm (wJoin one two x y rest2) := List.perm_append_comm (l₁ := [_])
      refine ⟨hok, f1.perm p, fun q hq => ?_, ?_, fun q hq => ?_⟩
      · rcases List.mem_cons.mp (p.mem_iff.mpr hq) with rfl | hq
        · refine f4.resolve_right fun e => ?_
          have h0 : (iterJ (x.2.1 ++ y.2.1).length (canonM one two (x.1 ++ y.1), x.2.1 ++ y.2.1)).2.length = 0 := by
            dsimp only at e; omega
          exact f1.ne _ (.head _) (List.eq_nil_of_length_eq_zero h0)
        · exact h.nosib q (hr2 q hq)
      · have hf := wt_append x.2.1 y.2.1
        rw [← allM_perm p, allM_cons]
        dsimp only at f3 ⊢
        rw [f3, hf]
        omega
      · rcases List.mem_cons.mp (p.mem_iff.mpr hq) with rfl | hq
        · exact ((sorted_canonI (x.2.2 ++ y.2.2)).and (nodup_canonI (x.2.2 ++ y.2.2))).imp fun ⟨a, b⟩ => by omega
        · exact h.rise q (hr2 q hq)
    · rename_i hq2
      rw [if_neg hq2] at hok
      have p : ((x.2.1, x.2.1, x.2.2 ++ [(i : Int)]) :: rest).Perm (wUpd i x rest) := List.perm_append_comm (l₁ := [_])
      have hseen : ∀ y ∈ x :: rest, ∀ e ∈ y.2.2, e < (i : Int) := fun y hy e he => ((h.ok.seen y ((List.mem_cons.mp hy).elim (fun e => e ▸ hx) (hr y))).2 e he).2
      refine ⟨hok, (I.upd hseen).perm p, fun y hy => ?_, ?_, fun y hy => ?_⟩
      · rcases List.mem_cons.mp (p.mem_iff.mpr hy) with rfl | hy
        · exact hnx
        · exact h.nosib y (hr y hy)
      · rw [← allM_perm p, allM_cons]; exact hW
      · rcases List.mem_cons.mp (p.mem_iff.mpr hy) with rfl | hy
        · refine List.pairwise_append.mpr ⟨hrx, List.pairwise_singleton _ _, fun u hu v hv => ?_⟩
          rw [List.mem_singleton.mp hv]
          exact (hsx.2 u hu).2
        · exact h.rise y (hr y hy)
end
end VS

end PartP12

noncomputable section PartP13
namespace VS
open PySem PyProof.Rows PySem.Spec
theorem run_full {one two : Str} (G : Good one two) : ∀ (l : List Nat) (i : Nat) (cs : List Copy), i + l.length ≤ 9 → Full i cs → Full (i + l.length) (runR one two i l cs)
  | [], i, cs, _, h => h
  | c :: r, i, cs, hi, h => by
    rw [List.length_cons] at hi ⊢
    have := run_full G r (i + 1) (stepR one two i c cs) (by omega) (h.step G (by omega))
    rw [show i + (r.length + 1) = i + 1 + r.length by omega]
    exact this
theorem start_full : Full 0 start where
  ok := start_ok
  inv := {
    anti := List.pairwise_singleton _ _
    ne := fun x hx => by rw [List.mem_singleton.mp hx]; simp
    i1 := fun x hx r hr => by rw [List.mem_singleton.mp hx] at hr ⊢; exact ⟨r, hr, List.prefix_refl r⟩
    i3 := fun x hx y hy r hr _ => by rw [List.mem_singleton.mp hx] at hr; rw [List.mem_singleton.mp hy]; exact ⟨r, hr, List.prefix_refl r⟩
    main := fun x hx S hS hin => by
      obtain ⟨y, hy⟩ := List.exists_mem_of_ne_nil S hS
      have hxy : x = y := (List.mem_singleton.mp hx).trans (List.mem_singleton.mp (hin y hy)).symm
      subst hxy
      exact ⟨fun _ e he => ⟨x, hy, he⟩, fun _ r hr => ⟨x, hy, kno.self hr⟩⟩ }
  nosib := fun x hx => by rw [List.mem_singleton.mp hx]; rfl
  whole := by decide +kernel
  rise := fun x hx => by rw [List.mem_singleton.mp hx]; exact .nil
theorem bit_there : ∀ (n number : Nat), 1 ≤ number → number < 2 ^ n → ∃ i, i < n ∧ bitOn number i = true
  | 0, number, h1, h2 => by rw [Nat.pow_zero] at h2; omega
  | n + 1, number, h1, h2 => by
    by_cases h : number % 2 = 0
    · have h3 : number / 2 < 2 ^ n := by rw [Nat.pow_succ] at h2; omega
      obtain ⟨i, hi, hb⟩ := bit_there n (number / 2) (by omega) h3
      refine ⟨i + 1, by omega, ?_⟩
      unfold bitOn at hb ⊢
      rw [Nat.pow_succ, Nat.mul_comm, ← Nat.div_div_eq_div_mul]
      exact hb
    · exact ⟨0, by omega, by unfold bitOn; rw [Nat.pow_zero, Nat.div_one]; exact decide_eq_true h⟩
theorem chosen_ne {others : List Nat} {number : Nat} (h1 : 1 ≤ number) (h2 : number < 2 ^ others.length) : chosenOf others number ≠ [] := by
  obtain ⟨i, hi, hb⟩ := bit_there _ _ h1 h2
  refine List.ne_nil_of_mem (a := others.getD i 0) (List.mem_flatMap.mpr ⟨i, List.mem_range.mpr hi, ?_⟩)
  rw [hb]; exact .head _
theorem holds_iff {cs : List Copy} {k : Nat} {m : Mark} : holdsM cs k m = true ↔ kno (cs.getD k noCopy) m := by
  unfold holdsM knownOf kno
  rw [Bool.not_eq_true', ← Bool.not_eq_true, List.isEmpty_iff, List.filter_eq_nil_iff]
  constructor
  · intro h
    refine Classical.byContradiction fun q => h fun o ho hd => q ⟨o, ho, ?_⟩
    exact lcp_eq_left.mp (of_decide_eq_true hd)
  · rintro ⟨o, ho, p⟩ h
    exact h o ho (decide_eq_true (lcp_eq_left.mpr p))
theorem heard_full {i : Nat} {cs : List Copy} (h : Full i cs) : HeardOk cs := by
  intro j hj number h1 h2
  have hjm := getD_in noCopy hj
  have hne := chosen_ne h1 h2
  have hcin : ∀ k ∈ chosenOf (othersOf cs.length j) number, k ∈ othersOf cs.length j := fun k hk => chosen_mem hk
  have hm := h.inv.main (cs.getD j noCopy) hjm ((chosenOf (othersOf cs.length j) number).map fun k => cs.getD k noCopy) (fun q => hne (List.map_eq_nil_iff.mp q)) fun y hy => by
    obtain ⟨k, hk, rfl⟩ := List.mem_map.mp hy
    exact getD_in noCopy (others_lt (hcin k hk))
  have hrj := h.rise _ hjm
  generalize othersOf cs.length j = others at hm hne hcin ⊢
  generalize chosenOf others number = chosen at hm hne hcin ⊢
  rw [Bool.eq_iff_iff]
  have e1 : (bareOf ((knownOf cs j).map (rowOf cs others)) chosen).isEmpty = true ↔ ∀ r ∈ (cs.getD j noCopy).1, ∃ y ∈ chosen.map (fun k => cs.getD k noCopy), kno y r := by
    unfold bareOf
    rw [List.isEmpty_iff, List.filter_eq_nil_iff]
    constructor
    · intro q r hr
      have q' := q (rowOf cs others r) (List.mem_map.mpr ⟨r, hr, rfl⟩)
      rw [List.isEmpty_iff] at q'
      obtain ⟨k, hk⟩ := List.exists_mem_of_ne_nil _ q'
      obtain ⟨hk1, hk2⟩ := List.mem_filter.mp hk
      exact ⟨_, List.mem_map.mpr ⟨k, List.contains_iff_mem.mp hk2, rfl⟩, holds_iff.mp (List.mem_filter.mp hk1).2⟩
    · intro q row hrow
      obtain ⟨r, hr, rfl⟩ := List.mem_map.mp hrow
      obtain ⟨y, hy, hk⟩ := q r hr
      obtain ⟨k, hk1, rfl⟩ := List.mem_map.mp hy
      rw [List.isEmpty_iff]
      exact List.ne_nil_of_mem (List.mem_filter.mpr ⟨List.mem_filter.mpr ⟨hcin k hk1, holds_iff.mpr hk⟩, List.contains_iff_mem.mpr hk1⟩)
  have e2 : (sld (seenOf cs j) (heardOf cs chosen)).1.isEmpty = true ↔ ∀ e ∈ (cs.getD j noCopy).2.2, ∃ y ∈ chosen.map (fun k => cs.getD k noCopy), e ∈ y.2.2 := by
    have hmem := fun e => sld_mem (x := e) (xs := seenOf cs j) (ys := heardOf cs chosen) hrj (heard_rise cs chosen)
    rw [List.isEmpty_iff, List.eq_nil_iff_forall_not_mem]
    constructor
    · intro q e he
      have hin : e ∈ heardOf cs chosen := Classical.byContradiction fun n => q e ((hmem e).mpr ⟨he, n⟩)
      obtain ⟨k, hk, hs⟩ := List.mem_flatMap.mp (mem_canonI.mp hin)
      exact ⟨_, List.mem_map.mpr ⟨k, hk, rfl⟩, hs⟩
    · intro q e he
      obtain ⟨a, b⟩ := (hmem e).mp he
      obtain ⟨y, hy, hs⟩ := q e a
      obtain ⟨k, hk, rfl⟩ := List.mem_map.mp hy
      exact b (mem_canonI.mpr (List.mem_flatMap.mpr ⟨k, hk, hs⟩))
  rw [e1, e2]
  exact hm
theorem law_ok (xs : List Int) : LawOk (drawnR xs) := by
  have hl : (drawnC xs).length = 10 := cellsI_len _ _
  have hf := run_full (good_names ((drawnC xs).getD 0 0)) ((drawnC xs).drop 1) 0 start (by rw [List.length_drop, hl]; decide) start_full
  change Full _ (drawnR xs) at hf
  generalize drawnR xs = cs at hf
  exact {
    pairs := fun x hx m hm => by
      have h0 := hf.nosib x hx
      rw [← Bool.not_eq_true]
      intro q
      have : m.dropLast ∈ bothOf x.2.1 := List.mem_map.mpr ⟨m, List.mem_filter.mpr ⟨hm, q⟩, rfl⟩
      rw [h0] at this; cases this
    whole := by
      have := hf.whole
      unfold wt allM at this
      rw [List.map_flatMap] at this
      exact this
    heard := heard_full hf
    rise := hf.rise }
end VS

end PartP13

set_option maxHeartbeats 16000000
open PySem PySem.W PyProof.Rows
theorem PySem.Challenge.cw_rt0038_01_holds : PySem.Challenge.rw_rt0038_01.Holds := by
  w_on; o_law; o_head (kHook VS.KF VS.KAs (fun _ => by kernel_rfl)); (case hw => w_witness2)
  intro w s₀ s₁ mg mb G Y fa o pm cd doc dV kV ho hd hcd hD hmg hg args vals as hpre hlay hrd hwl hlo
  have KX := kIn_of Y
  refine Ground.open G ?_
  intro T B D TE TW
  clear ho hd hcd hD
  wrow_args hpre hlay hrd hwl hlo
  refine VS.law_top T KX hmg (by assumption) (by assumption) (by omega) (VS.law_ok _) fun s' hk hg' hos => ?_
  exact ⟨.inl ⟨.bool true, .bool true, [], rfl, raisesW_false (by wrow_none_raised), ReadsW.bool _, by wrow_post, fun _ => ⟨.nil, fun _ h => nomatch h⟩⟩, .of_keep hk, hos, .of_eq (hg'.trans hg)⟩
