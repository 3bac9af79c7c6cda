import PyProof.Rows.All
import Wide.All
import OpenK.AllK
import Wide.FinOn
import PySem.Challenge.RW_oy0001_01

open PySem PySem.W PyProof.Rows
set_option Elab.async false
set_option linter.unusedVariables false

section
-- T1topx
open PySem PySem.W PyProof.Rows
set_option maxRecDepth 100000
set_option maxHeartbeats 8000000
namespace Mine
open_top hdx for PySem.Challenge.rw_oy0001_01
end Mine
end

section
-- PL
open PySem PySem.W PyProof.Rows PySem.Spec PySem.Calls
set_option maxRecDepth 100000
namespace Mine
def Kept (h h' : Heap) : Prop := ∀ b o, h.get? b = some o → h'.get? b = some o
theorem Kept.refl (h : Heap) : Kept h h := fun _ _ e => e
theorem Kept.trans {a b c : Heap} (x : Kept a b) (y : Kept b c) : Kept a c := fun p o e => y p o (x p o e)
theorem Kept.push (h : Heap) (o : Obj) : Kept h (h.push o) := fun _ _ e => Heap.get?_push_of_some _ e
/-- lists, tuples, functions, instances, classes: what no statement of ours changes -/
def plainD : Data → Bool
  | .seq .. => true
  | .func .. => true
  | .plain => true
  | .cls .. => true
  | _ => false
def Stay (h h' : Heap) : Prop := ∀ b o, h.get? b = some o → plainD o.data = true → h'.get? b = some o
theorem Stay.trans {a b c : Heap} (x : Stay a b) (y : Stay b c) : Stay a c := fun p o e q => y p o (x p o e q) q
theorem Kept.stay {a b : Heap} (x : Kept a b) : Stay a b := fun p o e _ => x p o e
structure Cx where
  prog : Program
  w : World
  A : Around
  g : Array GenState
  d : Drawn
  os : OsState
  X : List Addr := []
abbrev Cx.sh (c : Cx) (h : Heap) (tk : Nat) : Shared := ⟨h, c.g, c.d, tk, c.os⟩
abbrev Cx.M (c : Cx) : Model := model c.prog c.w
/-- room for n calls within each other -/
structure Room (A : Around) (n : Nat) : Prop where
  handled : A.handled = none
  depth : A.depth + n < recursionLimit
  units : A.units + 8 * n < cLine
theorem Room.le {A : Around} {n m : Nat} (r : Room A n) (h : m ≤ n) : Room A m := ⟨r.handled, by have := r.depth; omega, by have := r.units; omega⟩
/-- the heap that is spoken of: some addresses (lists in the making) are hidden -/
def lg (c : Cx) (h : Heap) : Heap := hideAll h c.X
section
variable {c : Cx} {h h1 h2 : Heap}
theorem lg_sub : Kept (lg c h) h := fun _ _ e => of_hideAll _ e
theorem lg_get {b : Addr} {o : Obj} (e : h.get? b = some o) (q : b ∉ c.X) : (lg c h).get? b = some o := hideAll_get _ e q
theorem lg_not {b : Addr} {o : Obj} (e : (lg c h).get? b = some o) : b ∉ c.X := fun q => by
  have z : (hideAll h c.X).get? b = none := hideAll_none _ q
  rw [show (hideAll h c.X).get? b = some o from e] at z; cases z
theorem Kept.lg (k : Kept h1 h2) : Kept (lg c h1) (lg c h2) := fun b o e => lg_get (k b o (lg_sub b o e)) (lg_not e)
/-- h1 is a later heap of the one spoken of -/
structure Lt (c : Cx) (h h1 : Heap) : Prop where
  keep : Kept h (Mine.lg c h1)
  old : ∀ x ∈ c.X, ∃ o, h1.get? x = some o
theorem Lt.top (l : Lt c h h1) : Kept h h1 := l.keep.trans lg_sub
theorem Lt.trans (l : Lt c h h1) (k : Kept h1 h2) : Lt c h h2 := ⟨l.keep.trans k.lg, fun x hx => let ⟨o, e⟩ := l.old x hx; ⟨o, k x o e⟩⟩
theorem Lt.lg (l : Lt c h h1) : Lt c (Mine.lg c h1) h1 := ⟨Kept.refl _, l.old⟩
theorem Lt.low (l : Lt c h2 h1) (k : Kept h h2) : Lt c h h1 := ⟨k.trans l.keep, l.old⟩
theorem Lt.new (l : Lt c h h1) {a : Addr} (ha : h1.get? a = none) : a ∉ c.X := fun q => by obtain ⟨o, e⟩ := l.old a q; rw [ha] at e; cases e
end
/-- a tree that ends, at every later heap, in a value of which P holds; all that stood stands -/
structure Pu {α : Type} (c : Cx) (t : Sem α) (h : Heap) (P : α → Heap → Prop) : Prop where
  run : ∀ h1 tk (Q : α → Shared → Prop) (E : Value → Shared → Prop), Lt c h h1 → (∀ v h2 tk2, Kept h1 h2 → P v (lg c h2) → Q v (c.sh h2 tk2)) → wpAny c.M c.A t Q E (c.sh h1 tk)
instance {α : Type} {c : Cx} {t : Sem α} {h : Heap} {P : α → Heap → Prop} : CoeFun (Pu c t h P) fun _ => ∀ h1 tk (Q : α → Shared → Prop) (E : Value → Shared → Prop), Lt c h h1 → (∀ v h2 tk2, Kept h1 h2 → P v (lg c h2) → Q v (c.sh h2 tk2)) → wpAny c.M c.A t Q E (c.sh h1 tk) := ⟨Pu.run⟩
section
variable {α β : Type} {c : Cx} {h h' : Heap} {P : α → Heap → Prop} {R : β → Heap → Prop}
theorem Pu.later {t : Sem α} (x : Pu c t h P) (k : Kept h h') : Pu c t h' P := Pu.mk fun h1 tk Q E k1 hq => x h1 tk Q E (k1.low k) hq
theorem Pu.mono {P' : α → Heap → Prop} {t : Sem α} (x : Pu c t h P) (hp : ∀ v h', Kept h h' → P v h' → P' v h') : Pu c t h P' :=
  Pu.mk fun h1 tk Q E k hq => x h1 tk Q E k fun v h2 tk2 k2 p => hq v h2 tk2 k2 (hp v _ (k.trans k2).keep p)
end
abbrev VP := Value → Heap → Prop
/-- what is told of a value stays told -/
class Mo (P : VP) : Prop where
  mo : ∀ {v h h'}, P v h → Stay h h' → P v h'
def isI (z : Int) : VP := fun v _ => ∃ t, v = .int z t
def isB (b : Bool) : VP := fun v _ => v = .bool b
def isN : VP := fun v _ => v = .none
def isV (x : Value) : VP := fun v _ => v = x
instance {z} : Mo (isI z) := ⟨fun x _ => x⟩
instance {z} : Mo (isB z) := ⟨fun x _ => x⟩
instance : Mo isN := ⟨fun x _ => x⟩
instance {z} : Mo (isV z) := ⟨fun x _ => x⟩
/-- the values vs are told by xs, one by one -/
structure Are {α : Type} (R : α → VP) (xs : List α) (vs : List Value) (h : Heap) : Prop where
  len : vs.length = xs.length
  at' : ∀ (i : Nat) (x : α) (v : Value), xs[i]? = some x → vs[i]? = some v → R x v h
/-- a list or a tuple -/
def isS {α : Type} (T : String) (R : α → VP) (xs : List α) : VP := fun v h => ∃ a vs n, v = .ref a ∧ h.get? a = some { cls := .type T, data := .seq vs.toArray n } ∧ Are R xs vs h
abbrev isL {α : Type} (R : α → VP) (xs : List α) : VP := isS "list" R xs
abbrev isT {α : Type} (R : α → VP) (xs : List α) : VP := isS "tuple" R xs
section
variable {α β : Type} {R : α → VP} {xs : List α} {vs : List Value} {h h' : Heap}
theorem Are.stay [∀ x, Mo (R x)] (a : Are R xs vs h) (s : Stay h h') : Are R xs vs h' := ⟨a.len, fun i x v hx hv => Mo.mo (a.at' i x v hx hv) s⟩
instance {T : String} [∀ x, Mo (R x)] : Mo (isS T R xs) := ⟨fun ⟨a, vs, n, e, ho, r⟩ s => ⟨a, vs, n, e, s _ _ ho rfl, r.stay s⟩⟩
theorem Are.get (a : Are R xs vs h) {i : Nat} {x : α} (hx : xs[i]? = some x) : ∃ v, vs[i]? = some v ∧ R x v h := by
  have hl : i < vs.length := by rw [a.len]; exact (List.getElem?_eq_some_iff.mp hx).1
  exact ⟨vs[i], List.getElem?_eq_getElem hl, a.at' i x _ hx (List.getElem?_eq_getElem hl)⟩
theorem Are.nil : Are R [] [] h := ⟨rfl, fun i x v hx => by simp at hx⟩
theorem Are.cons {x : α} {v : Value} (a : R x v h) (b : Are R xs vs h) : Are R (x :: xs) (v :: vs) h := by
  refine ⟨by simp [b.len], fun i y u hy hu => ?_⟩
  cases i with
  | zero => simp at hy hu; subst hy hu; exact a
  | succ i => simp at hy hu; exact b.at' i y u hy hu
theorem Are.uncons {x : α} (b : Are R (x :: xs) vs h) : ∃ v vs', vs = v :: vs' ∧ R x v h ∧ Are R xs vs' h := by
  cases vs with
  | nil => have := b.len; simp at this
  | cons v vs => exact ⟨v, vs, rfl, b.at' 0 x v rfl rfl, by have := b.len; simpa using this, fun i y u hy hu => b.at' (i + 1) y u (by simpa using hy) (by simpa using hu)⟩
theorem Are.append {ys : List α} {ws : List Value} : ∀ {xs : List α} {vs : List Value}, Are R xs vs h → Are R ys ws h → Are R (xs ++ ys) (vs ++ ws) h
  | [], vs, a, b => by
    have := a.len; cases vs with
    | nil => exact b
    | cons _ _ => simp at this
  | x :: xs, vs, a, b => by
    obtain ⟨v, vs', rfl, p, q⟩ := a.uncons
    exact Are.cons p (Are.append q b)
theorem Are.snoc {x : α} {v : Value} (a : Are R xs vs h) (b : R x v h) : Are R (xs ++ [x]) (vs ++ [v]) h := a.append (Are.cons b Are.nil)
end
abbrev Ev (c : Cx) (env : Env) (e : Expr) (h : Heap) (P : VP) : Prop := Pu c (eval e env) h P
section
variable {c : Cx} {env : Env} {h : Heap} {P P1 P2 : VP}
theorem Ev.cint {i k pos} : Ev c env (.Constant (.int i) k pos) h (isI i) := Pu.mk fun h1 tk _ _ _ hq => wpAny_Constant_int (hq _ h1 (tk + 1) (Kept.refl _) ⟨_, rfl⟩)
theorem Ev.cbool {i k pos} : Ev c env (.Constant (.bool i) k pos) h (isB i) := Pu.mk fun h1 tk _ _ _ hq => wpAny_Constant_bool (hq _ h1 _ (Kept.refl _) rfl)
theorem Ev.bin {l op r pos} [Mo P1] (hl : Ev c env l h P1) (hr : Ev c env r h P2) (hop : ∀ a b h', Kept h h' → P1 a h' → P2 b h' → Pu c (binaryOp op a b) h' P) : Ev c env (.BinOp l op r pos) h P :=
  Pu.mk fun h1 tk Q E k hq => wpAny_BinOp (hl h1 tk _ E k fun a h2 tk2 k2 p => hr h2 tk2 _ E (k.trans k2) fun b h3 tk3 k3 q =>
    hop a b _ ((k.trans k2).trans k3).keep (Mo.mo p k3.lg.stay) q h3 tk3 Q E ((k.trans k2).trans k3).lg fun v h4 tk4 k4 r => hq v h4 tk4 ((k2.trans k3).trans k4) r)
theorem Ev.add {l r pos} {x y : Int} (hl : Ev c env l h (isI x)) (hr : Ev c env r h (isI y)) : Ev c env (.BinOp l .Add r pos) h (isI (x + y)) :=
  Ev.bin hl hr fun a b _ _ ⟨_, ea⟩ ⟨_, eb⟩ => Pu.mk fun h1 tk Q E _ hq => by subst ea eb; exact wpAny_add_int (hq _ h1 _ (Kept.refl _) ⟨_, rfl⟩)
theorem Ev.sub {l r pos} {x y : Int} (hl : Ev c env l h (isI x)) (hr : Ev c env r h (isI y)) : Ev c env (.BinOp l .Sub r pos) h (isI (x - y)) :=
  Ev.bin hl hr fun a b _ _ ⟨_, ea⟩ ⟨_, eb⟩ => Pu.mk fun h1 tk Q E _ hq => by subst ea eb; exact PyProof.Rows.sub_int (hq _ h1 _ (Kept.refl _) ⟨_, rfl⟩)
end
end Mine
end

section
-- PL2
open PySem PySem.W PyProof.Rows PySem.Spec PySem.Calls
set_option maxRecDepth 100000
namespace Mine
theorem isS.list {α : Type} {R : α → VP} {xs : List α} {v : Value} {h : Heap} (x : isL R xs v h) : ∃ a vs, v = .ref a ∧ h.IsList a vs.toArray ∧ Are R xs vs h :=
  let ⟨a, vs, n, e, ho, r⟩ := x; ⟨a, vs, e, ⟨_, ho, rfl, n, rfl⟩, r⟩
theorem isS.tup {α : Type} {R : α → VP} {xs : List α} {v : Value} {h : Heap} (x : isT R xs v h) : ∃ a vs, v = .ref a ∧ IsTup h a vs.toArray ∧ Are R xs vs h :=
  let ⟨a, vs, n, e, ho, r⟩ := x; ⟨a, vs, e, ⟨_, ho, rfl, n, rfl⟩, r⟩
section
variable {c : Cx} {env : Env} {h : Heap} {P P1 P2 : VP}
theorem Ev.mul {l r pos} {x y : Int} (hl : Ev c env l h (isI x)) (hr : Ev c env r h (isI y)) (hm : IntMulOk x y := by mul_fits) : Ev c env (.BinOp l .Mult r pos) h (isI (x * y)) :=
  Ev.bin hl hr fun a b _ _ ⟨_, ea⟩ ⟨_, eb⟩ => Pu.mk fun h1 tk Q E _ hq => by subst ea eb; exact PyProof.Rows.mul_int (hq _ h1 _ (Kept.refl _) ⟨_, rfl⟩) hm
theorem Ev.mod {l r pos} {x y : Int} (hl : Ev c env l h (isI x)) (hr : Ev c env r h (isI y)) (hy : y ≠ 0) : Ev c env (.BinOp l .Mod r pos) h (isI (x.fmod y)) :=
  Ev.bin hl hr fun a b _ _ ⟨_, ea⟩ ⟨_, eb⟩ => Pu.mk fun h1 tk Q E _ hq => by subst ea eb; exact PyProof.Rows.mod_int' hy (hq _ h1 _ (Kept.refl _) ⟨_, rfl⟩)
theorem Ev.neg {e pos} {x : Int} (hl : Ev c env e h (isI x)) : Ev c env (.UnaryOp .USub e pos) h (isI (-x)) :=
  Pu.mk fun h1 tk Q E k hq => wpAny_UnaryOp (hl h1 tk _ E k fun a h2 tk2 k2 ⟨_, ea⟩ => by subst ea; exact PyProof.Rows.neg_int (hq _ h2 _ k2 ⟨_, rfl⟩))
/-- a comparison of two -/
theorem Ev.cmp {l op r pos} {z : Bool} [Mo P1] (hl : Ev c env l h P1) (hr : Ev c env r h P2) (hop : ∀ a b h', Kept h h' → P1 a h' → P2 b h' → Pu c (compareOp op a b) h' (isB z))
    (hm : behindInMarks op r = false := by with_unfolding_all rfl) : Ev c env (.Compare l [op] [r] pos) h (isB z) :=
  Pu.mk fun h1 tk Q E k hq => wpAny_Compare1 (hl h1 tk _ E k fun a h2 tk2 k2 p => hr h2 tk2 _ E (k.trans k2) fun b h3 tk3 k3 q =>
    hop a b _ ((k.trans k2).trans k3).keep (Mo.mo p k3.lg.stay) q h3 tk3 Q E ((k.trans k2).trans k3).lg fun v h4 tk4 k4 r => hq v h4 tk4 ((k2.trans k3).trans k4) r) hm
theorem cmp_lt {a b : Value} {x y : Int} (ha : isI x a h) (hb : isI y b h) : Pu c (compareOp .Lt a b) h (isB (decide (x < y))) := by
  obtain ⟨_, rfl⟩ := ha; obtain ⟨_, rfl⟩ := hb; exact Pu.mk fun h1 tk Q E _ hq => PyProof.Rows.lt_int (hq _ h1 _ (Kept.refl _) rfl)
theorem cmp_gt {a b : Value} {x y : Int} (ha : isI x a h) (hb : isI y b h) : Pu c (compareOp .Gt a b) h (isB (decide (y < x))) := by
  obtain ⟨_, rfl⟩ := ha; obtain ⟨_, rfl⟩ := hb; exact Pu.mk fun h1 tk Q E _ hq => PyProof.Rows.gt_int (hq _ h1 _ (Kept.refl _) rfl)
theorem cmp_eq {a b : Value} {x y : Int} (ha : isI x a h) (hb : isI y b h) : Pu c (compareOp .Eq a b) h (isB (x == y)) := by
  obtain ⟨_, rfl⟩ := ha; obtain ⟨_, rfl⟩ := hb; exact Pu.mk fun h1 tk Q E _ hq => PyProof.Rows.eq_int (hq _ h1 _ (Kept.refl _) rfl)
theorem cmp_ne {a b : Value} {x y : Int} (ha : isI x a h) (hb : isI y b h) : Pu c (compareOp .NotEq a b) h (isB (x != y)) := by
  obtain ⟨_, rfl⟩ := ha; obtain ⟨_, rfl⟩ := hb; exact Pu.mk fun h1 tk Q E _ hq => PyProof.Rows.ne_int (hq _ h1 _ (Kept.refl _) rfl)
section
variable {l r : Expr} {pos : Pos} {x y : Int}
theorem Ev.lt (hl : Ev c env l h (isI x)) (hr : Ev c env r h (isI y)) (hm : behindInMarks .Lt r = false := by with_unfolding_all rfl) : Ev c env (.Compare l [.Lt] [r] pos) h (isB (decide (x < y))) := Ev.cmp hl hr (fun _ _ _ _ p q => cmp_lt p q) hm
end
/-- a test -/
abbrev Tst (c : Cx) (env : Env) (e : Expr) (h : Heap) (z : Bool) : Prop := Pu c (isTrue e env (eval e env)) h fun b _ => b = z
theorem Tst.cmp {l op r pos} {z : Bool} [Mo P1] (hl : Ev c env l h P1) (hr : Ev c env r h P2) (hop : ∀ a b h', Kept h h' → P1 a h' → P2 b h' → Pu c (compareOp op a b) h' (isB z))
    (hm : behindInMarks op r = false := by with_unfolding_all rfl) : Tst c env (.Compare l [op] [r] pos) h z :=
  Pu.mk fun h1 tk Q E k hq => wpAny_isTrue_Compare1 (hl h1 tk _ E k fun a h2 tk2 k2 p => hr h2 tk2 _ E (k.trans k2) fun b h3 tk3 k3 q =>
    hop a b _ ((k.trans k2).trans k3).keep (Mo.mo p k3.lg.stay) q h3 tk3 _ E ((k.trans k2).trans k3).lg fun v h4 tk4 k4 e => by cases e; exact wpAny_truthy_bool (hq _ h4 tk4 ((k2.trans k3).trans k4) rfl)) hm
section
variable {l r : Expr} {pos : Pos} {x y : Int}
theorem Tst.lt (hl : Ev c env l h (isI x)) (hr : Ev c env r h (isI y)) (hm : behindInMarks .Lt r = false := by with_unfolding_all rfl) : Tst c env (.Compare l [.Lt] [r] pos) h (decide (x < y)) := Tst.cmp hl hr (fun _ _ _ _ p q => cmp_lt p q) hm
theorem Tst.gt (hl : Ev c env l h (isI x)) (hr : Ev c env r h (isI y)) (hm : behindInMarks .Gt r = false := by with_unfolding_all rfl) : Tst c env (.Compare l [.Gt] [r] pos) h (decide (y < x)) := Tst.cmp hl hr (fun _ _ _ _ p q => cmp_gt p q) hm
theorem Tst.eq (hl : Ev c env l h (isI x)) (hr : Ev c env r h (isI y)) (hm : behindInMarks .Eq r = false := by with_unfolding_all rfl) : Tst c env (.Compare l [.Eq] [r] pos) h (x == y) := Tst.cmp hl hr (fun _ _ _ _ p q => cmp_eq p q) hm
theorem Tst.ne (hl : Ev c env l h (isI x)) (hr : Ev c env r h (isI y)) (hm : behindInMarks .NotEq r = false := by with_unfolding_all rfl) : Tst c env (.Compare l [.NotEq] [r] pos) h (x != y) := Tst.cmp hl hr (fun _ _ _ _ p q => cmp_ne p q) hm
end
theorem Ev.ifexp {t a b : Expr} {pos : Pos} {z : Bool} (ht : Tst c env t h z) (ha : z = true → Ev c env a h P) (hb : z = false → Ev c env b h P) : Ev c env (.IfExp t a b pos) h P :=
  Pu.mk fun h1 tk Q E k hq => wpAny_IfExp (ht h1 tk _ E k fun v h2 tk2 k2 e => by
    subst e
    cases v with
    | true => exact ha rfl h2 tk2 Q E (k.trans k2) fun v h3 tk3 k3 p => hq v h3 tk3 (k2.trans k3) p
    | false => exact hb rfl h2 tk2 Q E (k.trans k2) fun v h3 tk3 k3 p => hq v h3 tk3 (k2.trans k3) p)
theorem Ev.ifI {t a b : Expr} {pos : Pos} {z : Bool} {x y : Int} (ht : Tst c env t h z) (ha : z = true → Ev c env a h (isI x)) (hb : z = false → Ev c env b h (isI y)) : Ev c env (.IfExp t a b pos) h (isI (if z then x else y)) :=
  Ev.ifexp ht (fun e => by subst e; exact ha rfl) (fun e => by subst e; exact hb rfl)
/-! names -/
theorem Ev.loc {x : Str} {pos : Pos} {m : Str → Option Value} {v : Value} (hn : h.Ns env.locals m) (hv : m x = some v) (hp : ∀ h', Kept h h' → P v h') (hk : env.scope.kind = .function := by rfl) (hl : env.kindOf x = some .local := by rfl)
    (hd : (x == ("__debug__" : Str)) = false := by decide) : Ev c env (.Name x pos) h P :=
  Pu.mk fun h1 tk Q E k hq => wpAny_Name (wpAny_loadName_local hk hl (hn.keeps k.top) hv (hq v h1 tk (Kept.refl _) (hp _ k.keep))) hd
theorem Ev.cell {x : Str} {pos : Pos} {a : Addr} {v : Value} (hc : h.IsCell a (some v)) (hp : ∀ h', Kept h h' → P v h') (ha : env.cells.lookup x = some a) (hk : env.scope.kind = .function := by rfl) (hl : env.kindOf x = some .cell := by rfl)
    (hd : (x == ("__debug__" : Str)) = false := by decide) : Ev c env (.Name x pos) h P :=
  Pu.mk fun h1 tk Q E k hq => wpAny_Name (wpAny_loadName_cell hk hl ha (hc.keeps k.top) (hq v h1 tk (Kept.refl _) (hp _ k.keep))) hd
theorem Ev.free {x : Str} {pos : Pos} {a : Addr} {v : Value} (hc : h.IsCell a (some v)) (hp : ∀ h', Kept h h' → P v h') (ha : env.cells.lookup x = some a) (hk : env.scope.kind = .function := by rfl) (hl : env.kindOf x = some .free := by rfl)
    (hd : (x == ("__debug__" : Str)) = false := by decide) (hn : (x == ("__classdict__" : Str)) = false := by decide) : Ev c env (.Name x pos) h P :=
  Pu.mk fun h1 tk Q E k hq => wpAny_Name (wpAny_loadName_free hk hl ha (hc.keeps k.top) (hq v h1 tk (Kept.refl _) (hp _ k.keep)) hn) hd
theorem Ev.glob {x : Str} {pos : Pos} {mg : Str → Option Value} {v : Value} (hg : h.Ns env.globals mg) (hv : mg x = some v) (hk : env.scope.kind = .function := by rfl) (hl : env.kindOf x = some .globalImplicit := by rfl)
    (hd : (x == ("__debug__" : Str)) = false := by decide) : Ev c env (.Name x pos) h (isV v) :=
  Pu.mk fun h1 tk Q E k hq => Name_function_global hk hl (loadGlobal_global (hg.keeps k.top) hv (hq v h1 tk (Kept.refl _) rfl)) hd
theorem Ev.built {x : Str} {pos : Pos} {mg mb : Str → Option Value} {v : Value} (hg : h.Ns env.globals mg) (hm : mg x = none) (hb : h.Ns env.builtins mb) (hv : mb x = some v) (hk : env.scope.kind = .function := by rfl) (hl : env.kindOf x = some .globalImplicit := by rfl)
    (hd : (x == ("__debug__" : Str)) = false := by decide) : Ev c env (.Name x pos) h (isV v) :=
  Pu.mk fun h1 tk Q E k hq => Name_function_global hk hl (loadGlobal_builtin (hg.keeps k.top) hm (hb.keeps k.top) hv (hq v h1 tk (Kept.refl _) rfl)) hd
/-! items -/
theorem Ev.item {α : Type} {R : α → VP} [∀ x, Mo (R x)] {xs : List α} {value slice : Expr} {pos : Pos} {k : Int} {x : α} (hv : Ev c env value h (isL R xs)) (hi : Ev c env slice h (isI k)) (h0 : 0 ≤ k) (hhi : k < 2 ^ 63) (hx : xs[k.toNat]? = some x)
    (hs : ∀ t u, subscripted slice false (.ref t) (.int k u) = operate [.ref t, .int k u] (getItem (.ref t) (.int k u)) := by intro _ _; with_unfolding_all rfl) : Ev c env (.Subscript value slice pos) h (R x) :=
  Pu.mk fun h1 tk Q E k1 hq => Subscript_ (hv h1 tk _ E k1 fun o h2 tk2 k2 p => hi h2 tk2 _ E (k1.trans k2) fun i h3 tk3 k3 q => by
    obtain ⟨u, rfl⟩ := q
    obtain ⟨a, vs, rfl, hl, r⟩ := (Mo.mo p k3.lg.stay : isL R xs o (lg c h3)).list
    obtain ⟨v, hvx, hr⟩ := r.get hx
    have hl : h3.IsList a vs.toArray := let ⟨o, ho, q⟩ := hl; ⟨o, lg_sub _ _ ho, q⟩
    exact tail_any (s := c.sh h3 tk3) hl.typeIs slot_list_getitem.lookup (wpAny_getItem_list hl h0 hhi (by simpa using hvx) (hq v h3 tk3 (k2.trans k3) hr)) (hs _ _))
theorem Ev.itemT {α : Type} {R : α → VP} [∀ x, Mo (R x)] {xs : List α} {value slice : Expr} {pos : Pos} {k : Int} {x : α} (hv : Ev c env value h (isT R xs)) (hi : Ev c env slice h (isI k)) (h0 : 0 ≤ k) (hhi : k < 2 ^ 63) (hx : xs[k.toNat]? = some x)
    (hs : ∀ t u, subscripted slice false (.ref t) (.int k u) = operate [.ref t, .int k u] (getItem (.ref t) (.int k u)) := by intro _ _; with_unfolding_all rfl) : Ev c env (.Subscript value slice pos) h (R x) :=
  Pu.mk fun h1 tk Q E k1 hq => Subscript_ (hv h1 tk _ E k1 fun o h2 tk2 k2 p => hi h2 tk2 _ E (k1.trans k2) fun i h3 tk3 k3 q => by
    obtain ⟨u, rfl⟩ := q
    obtain ⟨a, vs, rfl, hl, r⟩ := (Mo.mo p k3.lg.stay : isT R xs o (lg c h3)).tup
    obtain ⟨v, hvx, hr⟩ := r.get hx
    have hl : IsTup h3 a vs.toArray := let ⟨o, ho, q⟩ := hl; ⟨o, lg_sub _ _ ho, q⟩
    have hlt : k.toNat < vs.length := (List.getElem?_eq_some_iff.mp hvx).1
    refine tail_any (s := c.sh h3 tk3) hl.typeIs slot_tuple_getitem.lookup (PyProof.Rows.getItem_tuple (j := k.toNat) hl (by omega) hhi ?_ (by simpa using hvx) (hq v h3 tk3 (k2.trans k3) hr)) (hs _ _)
    unfold seqIndex?
    have e1 : ¬ k < 0 := by omega
    have e2 : k < (vs.length : Int) := by omega
    simp [e1, h0, e2])
end
end Mine
end

section
-- PL3
open PySem PySem.W PyProof.Rows PySem.Spec PySem.Calls
set_option maxRecDepth 100000
namespace Mine
/-- the values of the names -/
abbrev Vs := Str → Option Value
abbrev upd (m : Vs) (x : Str) (v : Value) : Vs := fun y => if y = x then some v else m y
/-- a name of the frame's own -/
def isOwn (env : Env) (x : Str) : Bool := match env.kindOf x with
  | some .local => true
  | some .cell => (env.cells.lookup x).isSome
  | _ => false
theorem own_of {env : Env} {x : Str} (h : isOwn env x = true) : env.kindOf x = some .local ∨ (env.kindOf x = some .cell ∧ (env.cells.lookup x).isSome = true) := by
  unfold isOwn at h
  split at h
  · next e => exact .inl e
  · next e => exact .inr ⟨e, h⟩
  · cases h
/-- what a frame's statements write -/
def Wr (env : Env) (b : Addr) : Prop := b = env.locals ∨ ∃ n, env.cells.lookup n = some b
def KB (W : Addr → Prop) (h h' : Heap) : Prop := ∀ b o, h.get? b = some o → ¬ W b → h'.get? b = some o
theorem KB.trans {W} {a b c : Heap} (x : KB W a b) (y : KB W b c) : KB W a c := fun p o e q => y p o (x p o e q) q
theorem Kept.kb {W} {a b : Heap} (x : Kept a b) : KB W a b := fun p o e _ => x p o e
theorem KB.mono {W W' : Addr → Prop} {a b : Heap} (x : KB W a b) (hw : ∀ p, W p → W' p) : KB W' a b := fun p o e q => x p o e fun z => q (hw p z)
/-- a frame: what is below is kept, the names have the values V -/
structure Fm (h0 : Heap) (env : Env) (h : Heap) (V : Vs) : Prop where
  kind : env.scope.kind = .function
  loc : ∃ m, h.Ns env.locals m ∧ ∀ x, env.kindOf x = some .local → m x = V x
  kept : Kept h0 h
  newL : h0.get? env.locals = none
  cell : ∀ n a, env.cells.lookup n = some a → h.IsCell a (V n)
  apart : env.cells.Pairwise fun x y => x.2 ≠ y.2
  newC : ∀ n a, env.cells.lookup n = some a → h0.get? a = none
  ne : ∀ n a, env.cells.lookup n = some a → a ≠ env.locals
  kinds : ∀ n a, env.cells.lookup n = some a → env.kindOf n = some .cell
  mem : ∀ n a, (n, a) ∈ env.cells → env.cells.lookup n = some a
section
variable {h0 h h' : Heap} {env : Env} {V : Vs}
theorem Fm.at (F : Fm h0 env h V) (k : Kept h h') : Fm h0 env h' V :=
  ⟨F.kind, let ⟨m, f, e⟩ := F.loc; ⟨m, f.keeps k, e⟩, F.kept.trans k, F.newL, fun n a e => (F.cell n a e).keeps k, F.apart, F.newC, F.ne, F.kinds, F.mem⟩
/-- what is written is no plain object -/
theorem Fm.notWr (F : Fm h0 env h V) {a : Addr} {o : Obj} (e : h.get? a = some o) (hd : (∀ es n, o.data ≠ .dict es n) ∧ ∀ v, o.data ≠ .cell v) : ¬ Wr env a := by
  rintro (rfl | ⟨n, hn⟩)
  · obtain ⟨m, f, _⟩ := F.loc
    obtain ⟨o', es, ep, e', hd', _⟩ := f
    rw [e] at e'; cases e'; exact hd.1 _ _ hd'
  · obtain ⟨o', e', hd'⟩ := F.cell n a hn
    rw [e] at e'; cases e'; exact hd.2 _ hd'
theorem Fm.stay (F : Fm h0 env h V) (k : KB (Wr env) h h') : Stay h h' := fun b o e p => k b o e (F.notWr e ⟨fun _ _ q => (by rw [q] at p; cases p), fun _ q => (by rw [q] at p; cases p)⟩)
/-- the written addresses are none of the heap below -/
theorem Fm.newWr (F : Fm h0 env h V) {a : Addr} (w : Wr env a) : h0.get? a = none := by
  rcases w with rfl | ⟨n, hn⟩
  · exact F.newL
  · exact F.newC n a hn
theorem Fm.wrObj (F : Fm h0 env h V) {a : Addr} (w : Wr env a) : ∃ o, h.get? a = some o ∧ plainD o.data = false := by
  rcases w with rfl | ⟨n, hn⟩
  · obtain ⟨m, ⟨o, es, ep, e, hd, _⟩, _⟩ := F.loc
    exact ⟨o, e, by rw [hd]; rfl⟩
  · obtain ⟨o, e, hd⟩ := F.cell n a hn
    exact ⟨o, e, by rw [hd]; rfl⟩
theorem Ev.var {c : Cx} {P : VP} [Mo P] {x : Str} {pos : Pos} {v : Value} (F : Fm h0 env h V) (hX : ∀ x, Wr env x → x ∉ c.X) (hv : V x = some v) (hp : P v (lg c h)) (hk : env.kindOf x = some .local ∨ (env.kindOf x = some .cell ∧ (env.cells.lookup x).isSome = true) := by exact own_of (by rfl))
    (hd : (x == ("__debug__" : Str)) = false := by decide) : Ev c env (.Name x pos) (lg c h) P := by
  rcases hk with hl | ⟨hl, hc⟩
  · obtain ⟨m, f, e⟩ := F.loc
    refine Ev.loc (f.at' fun o eo => lg_get eo (hX _ (.inl rfl))) ((e x hl).trans hv) (fun h' k => Mo.mo hp k.stay) F.kind hl hd
  · obtain ⟨a, ha⟩ := Option.isSome_iff_exists.mp hc
    obtain ⟨o, eo, hd'⟩ := hv ▸ F.cell x a ha
    exact Ev.cell ⟨o, lg_get eo (hX _ (.inr ⟨x, ha⟩)), hd'⟩ (fun h' k => Mo.mo hp k.stay) ha F.kind hl hd
/-- storing -/
theorem Fm.store {M : Model} {A : Around} {Q : Unit → Shared → Prop} {E : Value → Shared → Prop} {s : Shared} {x : Str} {v : Value} (F : Fm h0 env s.heap V)
    (hk : env.kindOf x = some .local ∨ (env.kindOf x = some .cell ∧ (env.cells.lookup x).isSome = true))
    (h : ∀ h' tk', Fm h0 env h' (upd V x v) → KB (Wr env) s.heap h' → Q () { s with heap := h', toks := tk' }) : wpAny M A (storeName env x v) Q E s := by
  obtain ⟨m, f, e⟩ := F.loc
  have old : ∀ {a h'}, Heap.SameBut a s.heap h' → h0.get? a = none → Kept h0 h' := fun hs ha b o eb => hs.extBut b o (fun q => by rw [q, ha] at eb; cases eb) (F.kept b o eb)
  rcases hk with hl | ⟨hl, hc⟩
  · refine wpAny_storeName_local hl f (fun h' hn hs => h h' _ ⟨F.kind, ⟨_, hn, fun y hy => ?_⟩, old hs F.newL, F.newL, fun n a ea => ?_, F.apart, F.newC, F.ne, F.kinds, F.mem⟩ fun b o eb wb => ?_) (by rw [F.kind]; rfl)
    · show (if y = x then some v else m y) = (if y = x then some v else V y)
      split
      · rfl
      · exact e y hy
    · have hnx : n ≠ x := fun q => by rw [q] at ea; have := F.kinds x a ea; rw [hl] at this; cases this
      show h'.IsCell a (if n = x then some v else V n)
      rw [if_neg hnx]
      exact (F.cell n a ea).sameBut hs (F.ne n a ea)
    · exact hs.extBut b o (fun q => wb (.inl q)) eb
  · obtain ⟨a, ha⟩ := Option.isSome_iff_exists.mp hc
    have ha0 : h0.get? a = none := F.newWr (.inr ⟨x, ha⟩)
    refine wpAny_storeName_cell F.kind hl ha (F.cell x a ha) fun h' hc' hs => h h' s.toks ⟨F.kind, ⟨m, f.sameBut hs (Ne.symm (F.ne x a ha)), fun y hy => ?_⟩, old hs ha0, F.newL, fun n b eb => ?_, F.apart, F.newC, F.ne, F.kinds, F.mem⟩ fun b o eb wb => ?_
    · show m y = if y = x then some v else V y
      rw [if_neg (fun q => by rw [q, hl] at hy; cases hy)]; exact e y hy
    · by_cases hnx : n = x
      · subst hnx
        rw [ha] at eb; cases eb
        show h'.IsCell a (if n = n then some v else V n)
        rw [if_pos rfl]; exact hc'
      · show h'.IsCell b (if n = x then some v else V n)
        rw [if_neg hnx]
        exact (F.cell n b eb).sameBut hs fun q => hnx (name_of_addr F.apart (mem_of_lookup eb) (q ▸ mem_of_lookup ha))
    · exact hs.extBut b o (fun q => wb (.inr ⟨x, q ▸ ha⟩)) eb
end
/-- statements: they go on (N), or return a value of which P holds -/
structure Ex (c : Cx) (env : Env) (h0 : Heap) (ss : List Stmt) (h : Heap) (N : Heap → Prop) (P : VP) : Prop where
  run : ∀ tk (Q : Flow → Shared → Prop) (E : Value → Shared → Prop), (∀ h' tk', N h' → Q .next (c.sh h' tk')) → (∀ v h' tk', Kept h0 h' → P v (lg c h') → Q (.ret v) (c.sh h' tk')) → wpAny c.M c.A (execs ss env) Q E (c.sh h tk)
/-- the frame; what is hidden is none of its own names -/
structure Fx (c : Cx) (h0 : Heap) (env : Env) (h : Heap) (V : Vs) : Prop extends Fm h0 env h V where
  hid : ∀ x ∈ c.X, ¬ Wr env x ∧ ∃ o, h.get? x = some o
section
variable {c : Cx} {env : Env} {h0 h h' : Heap} {V : Vs} {N : Heap → Prop} {P P1 : VP} {rest : List Stmt}
theorem Fx.lt (F : Fx c h0 env h V) : Lt c (lg c h) h := ⟨Kept.refl _, fun x hx => (F.hid x hx).2⟩
theorem Fx.noX (F : Fx c h0 env h V) {x : Addr} (w : Wr env x) : x ∉ c.X := fun q => (F.hid x q).1 w
theorem Fx.next {V2 : Vs} (F : Fx c h0 env h V) (F2 : Fm h0 env h' V2) (kb : KB (Wr env) h h') : Fx c h0 env h' V2 := ⟨F2, fun x hx => let ⟨w, o, e⟩ := F.hid x hx; ⟨w, o, kb x o e w⟩⟩
theorem Fx.at (F : Fx c h0 env h V) (k : Kept h h') : Fx c h0 env h' V := F.next (F.toFm.at k) k.kb
theorem Fx.stay (F : Fx c h0 env h V) (k : KB (Wr env) h h') : Stay (lg c h) (lg c h') := fun b o e p => lg_get (F.toFm.stay k b o (lg_sub _ _ e) p) (lg_not e)
theorem Fx.var [Mo P] {x : Str} {v : Value} (F : Fx c h0 env h V) (hv : V x = some v) (hp : P v (lg c h)) (hk : env.kindOf x = some .local ∨ (env.kindOf x = some .cell ∧ (env.cells.lookup x).isSome = true) := by exact own_of (by rfl))
    (hd : (x == ("__debug__" : Str)) = false := by decide) (pos : Pos) : Ev c env (.Name x pos) (lg c h) P := Ev.var F.toFm (fun _ w => F.noX w) hv hp hk hd
theorem Ex.nil (x : N h) : Ex c env h0 [] h N P := Ex.mk fun tk Q E hn hr => wpAny_execs_nil (hn h tk x)
/-- one statement -/
instance {c : Cx} {env : Env} {h0 h : Heap} {ss : List Stmt} {N : Heap → Prop} {P : VP} : CoeFun (Ex c env h0 ss h N P) fun _ => ∀ tk (Q : Flow → Shared → Prop) (E : Value → Shared → Prop), (∀ h' tk', N h' → Q .next (c.sh h' tk')) → (∀ v h' tk', Kept h0 h' → P v (lg c h') → Q (.ret v) (c.sh h' tk')) → wpAny c.M c.A (execs ss env) Q E (c.sh h tk) := ⟨Ex.run⟩
structure Sx (c : Cx) (env : Env) (h0 : Heap) (st : Stmt) (h : Heap) (N : Heap → Prop) (P : VP) : Prop where
  run : ∀ tk (Q : Flow → Shared → Prop) (E : Value → Shared → Prop), (∀ h' tk', N h' → Q .next (c.sh h' tk')) → (∀ v h' tk', Kept h0 h' → P v (lg c h') → Q (.ret v) (c.sh h' tk')) → wpAny c.M c.A (exec st env) Q E (c.sh h tk)
theorem Ex.cons {st : Stmt} (x : ∀ tk (Q : Flow → Shared → Prop) (E : Value → Shared → Prop), (∀ h' tk', Ex c env h0 rest h' N P → Q .next (c.sh h' tk')) → (∀ v h' tk', Kept h0 h' → P v (lg c h') → Q (.ret v) (c.sh h' tk')) → wpAny c.M c.A (exec st env) Q E (c.sh h tk)) :
    Ex c env h0 (st :: rest) h N P := Ex.mk fun tk Q E hn hr => wpAny_execs_cons (x tk _ E (fun h' tk' y => y tk' Q E hn hr) fun v h' tk' k p => hr v h' tk' k p)
theorem Ex.of {st : Stmt} (x : Sx c env h0 st h (fun h1 => Ex c env h0 rest h1 N P) P) : Ex c env h0 (st :: rest) h N P := Ex.cons x.run
/-- x = e -/
theorem Ex.assign {x : Str} {e : Expr} {p1 p2 : Pos} (F : Fx c h0 env h V) (he : Ev c env e (lg c h) P1) [Mo P1] (hr : ∀ v h', Fx c h0 env h' (upd V x v) → KB (Wr env) h h' → Stay (lg c h) (lg c h') → P1 v (lg c h') → Ex c env h0 rest h' N P)
    (hk : env.kindOf x = some .local ∨ (env.kindOf x = some .cell ∧ (env.cells.lookup x).isSome = true) := by exact own_of (by rfl)) (hs : swapsWith e (some (.Name x p1)) p2.line env = pure false := by rfl) : Ex c env h0 (.Assign [.Name x p1] e p2 :: rest) h N P :=
  Ex.cons fun tk Q E hn _ => wpAny_Assign_Name (he h tk _ E F.lt fun v h1 tk1 k p => (F.toFm.at k).store (s := c.sh h1 tk1) hk fun h2 tk2 F2 kb =>
    have kb' : KB (Wr env) h h2 := k.kb.trans kb
    hn h2 tk2 (hr v h2 (F.next F2 kb') kb' (F.stay kb') (Mo.mo p ((F.at k).stay kb)))) hs
/-- return e -/
theorem Ex.ret {e : Expr} {p : Pos} (F : Fx c h0 env h V) (he : Ev c env e (lg c h) P) : Ex c env h0 (.Return (some e) p :: rest) h N P :=
  Ex.cons fun tk Q E _ hr => wpAny_Return_some (he h tk _ E F.lt fun v h1 tk1 k p => hr v h1 tk1 (F.kept.trans k) p)
/-- if t: .. -/
theorem Ex.ite {t : Expr} {a b : List Stmt} {p : Pos} {z : Bool} (F : Fx c h0 env h V) (ht : Tst c env t (lg c h) z) (ha : z = true → ∀ h', Kept h h' → Ex c env h0 a h' (fun h2 => Ex c env h0 rest h2 N P) P)
    (hb : z = false → ∀ h', Kept h h' → Ex c env h0 b h' (fun h2 => Ex c env h0 rest h2 N P) P) : Ex c env h0 (.If t a b p :: rest) h N P :=
  Ex.cons fun tk Q E hn hr => wpAny_If (ht h tk _ E F.lt fun v h1 tk1 k e => by
    subst e
    cases v with
    | true => exact ha rfl h1 k tk1 Q E hn hr
    | false => exact hb rfl h1 k tk1 Q E hn hr)
theorem Ex.aug {x : Str} {e : Expr} {p1 p2 : Pos} {a b : Int} {v0 : Value} (F : Fx c h0 env h V) (h0' : V x = some v0) (hv0 : isI a v0 (lg c h)) (he : Ev c env e (lg c h) (isI b)) (hr : ∀ v h', Fx c h0 env h' (upd V x v) → KB (Wr env) h h' → Stay (lg c h) (lg c h') → isI (a + b) v (lg c h') → Ex c env h0 rest h' N P)
    (hl : env.kindOf x = some .local := by rfl) : Ex c env h0 (.AugAssign (.Name x p1) .Add e p2 :: rest) h N P :=
  Ex.cons fun tk Q E hn _ => wpAny_AugAssign_Name (by
    obtain ⟨m, f, e1⟩ := F.loc
    obtain ⟨t0, rfl⟩ := hv0
    refine wpAny_loadName_local F.kind hl f ((e1 x hl).trans h0') (he h tk _ E F.lt fun v h1 tk1 k p => ?_)
    obtain ⟨t, rfl⟩ := p
    refine wpAny_iadd_int ((F.toFm.at k).store (s := c.sh h1 (tk1 + 1)) (.inl hl) fun h2 tk2 F2 kb => ?_)
    have kb' : KB (Wr env) h h2 := k.kb.trans kb
    exact hn h2 tk2 (hr _ h2 (F.next F2 kb') kb' (F.stay kb') ⟨_, rfl⟩))
end
end Mine
end

section
-- PL4
open PySem PySem.W PyProof.Rows PySem.Spec PySem.Calls
set_option maxRecDepth 100000
namespace Mine
/-! entry of a def -/
def Vof (binds : List (Str × Value)) : Vs := binds.foldl (fun m p => upd m p.1 p.2) fun _ => none
theorem bindL_V {kd : Str → Option NameKind} : ∀ (r : List (Str × Value)) (m m' : Vs), (∀ y, kd y = some .local → m y = m' y) → ∀ y, kd y = some .local → bindL kd r m y = r.foldl (fun m p => upd m p.1 p.2) m' y
  | [], m, m', h, y, hy => h y hy
  | (n, v) :: r, m, m', h, y, hy => by
    show bindL kd r (if kd n = some .local then fun y => if y = n then some v else m y else m) y = r.foldl _ (upd m' n v) y
    refine bindL_V r _ _ (fun z hz => ?_) y hy
    show (if kd n = some .local then fun y => if y = n then some v else m y else m) z = if z = n then some v else m' z
    split
    · show (if z = n then some v else m z) = _
      split
      · rfl
      · exact h z hz
    · next q => rw [if_neg (fun e : z = n => q (e ▸ hz))]; exact h z hz
theorem bindC_V {kd : Str → Option NameKind} : ∀ (r : List (Str × Value)) (m m' : Vs), (∀ y, kd y ≠ some .local → m y = m' y) → ∀ y, kd y ≠ some .local → bindC kd r m y = r.foldl (fun m p => upd m p.1 p.2) m' y
  | [], m, m', h, y, hy => h y hy
  | (n, v) :: r, m, m', h, y, hy => by
    show bindC kd r (if kd n = some .local then m else fun y => if y = n then some v else m y) y = r.foldl _ (upd m' n v) y
    refine bindC_V r _ _ (fun z hz => ?_) y hy
    show (if kd n = some .local then m else fun y => if y = n then some v else m y) z = if z = n then some v else m' z
    split
    · next q => rw [if_neg (fun e : z = n => hz (e ▸ q))]; exact h z hz
    · show (if z = n then some v else m z) = _
      split
      · rfl
      · exact h z hz
section
variable {c : Cx} {h : Heap} {P : VP}
theorem cellsFrom_kinds {names : List (Str × NameKind)} {lo : Nat} (hck : (((cellsFrom 0 names []).map (·.1)).all fun n => names.lookup n == some .cell) = true) : ∀ n a, (cellsFrom lo names []).lookup n = some a → names.lookup n = some .cell := fun n a e => by
  have hm : n ∈ (cellsFrom lo names []).map (·.1) := List.mem_map.mpr ⟨(n, a), mem_of_lookup e, rfl⟩
  rw [cellsFrom_names names lo 0 [] [] rfl] at hm
  exact eq_of_beq (List.all_eq_true.mp hck n hm)
theorem Pu.enter {name qual : Str} {params : Arguments} {body : List Stmt} {scope : Scope} {dV kV doc pm cdv ct : Value} {an : Option Addr} {fo : Obj} {f : Addr} {vs : List Value} {binds : List (Str × Value)}
    (ho : h.get? f = some fo) (hd : fo.data = .func (fnX name qual params body scope [] dV kV doc pm an cdv ct)) (hcd : h.CodeRec cdv qual) (hlim : h.NoLimit) (hroom : Room c.A 1)
    (hbind : ∀ s : Shared, Kept h s.heap → BindsTo s (fnX name qual params body scope [] dV kV doc pm an cdv ct) ⟨vs, []⟩ binds)
    (hkind : (binds.all fun y => scope.names.lookup y.1 == some .local || scope.names.lookup y.1 == some .cell) = true)
    (hck : (((cellsFrom 0 scope.names []).map (·.1)).all fun n => scope.names.lookup n == some .cell) = true) (hnd : ((cellsFrom 0 scope.names []).map (·.1)).Nodup)
    (hb : ∀ h1 h2 L, Kept h (lg c h1) → Fx { c with A := c.A.deeper (envOfC qual scope L f cdv) } h1 (envOfC qual scope L f cdv) h2 (Vof binds) →
      Ex { c with A := c.A.deeper (envOfC qual scope L f cdv) } (envOfC qual scope L f cdv) h1 body h2 (fun _ => False) P)
    (hco : scope.isCoroutine = false := by rfl) (hgen : scope.isGenerator = false := by rfl) (hk : scope.kind = .function := by rfl) : Pu c (call (.ref f) vs) h P := by
  refine Pu.mk fun h1 tk Q E k hq => ?_
  refine wpAny_call ?_
  refine codeAny_call_function (Nat.lt_of_succ_lt (hroom.depth : c.A.depth + 1 < recursionLimit)) (k.top _ _ ho) hd hco hgen rfl (hcd.keeps k.top) (hbind _ k.top _ _ _ _ ?_)
  refine wpAny_newFunctionEnv_cells hk (kindsX hkind _) fun env' he s' x => ?_
  subst he
  have hk1 := x.toInCall.keep
  refine ⟨hlim.keeps (k.top.trans hk1), codeAny_func ?_⟩
  obtain ⟨h2, tk2, rfl, _⟩ := x.done
  have F : Fm h1 (envOfC qual scope (c.sh h1 tk).heap.objs.size f cdv) h2 (Vof binds) := by
    have hb : ∀ n a, (cellsFrom ((c.sh h1 tk).heap.objs.size + 1) scope.names []).lookup n = some a → (c.sh h1 tk).heap.objs.size < a := fun n a e => x.above n a (mem_of_lookup e)
    refine ⟨hk, ⟨_, x.toInCall.ns, fun y hy => ?_⟩, x.toInCall.keep, Heap.get?_none_of_le (Nat.le_refl _), fun n a e => ?_, x.apart, fun n a e => Heap.get?_none_of_le (Nat.le_of_lt (hb n a e)), fun n a e => Nat.ne_of_gt (hb n a e), cellsFrom_kinds hck,
      fun n a e => lookup_of_mem_nodup (cellsFrom_names scope.names 0 ((c.sh h1 tk).heap.objs.size + 1) [] [] rfl ▸ hnd) e⟩
    · exact bindL_V binds _ _ (fun _ _ => rfl) y hy
    · have := x.cell n a e
      have hkn := cellsFrom_kinds hck n a e
      rwa [bindC_V binds _ _ (fun _ _ => rfl) n (by intro q; have q' : scope.names.lookup n = some .local := q; rw [hkn] at q'; cases q')] at this
  refine hb h1 h2 _ k.keep ⟨F, fun x hx => let ⟨o, e⟩ := k.old x hx; ⟨fun w => (by have := F.newWr w; rw [e] at this; cases this), o, F.kept _ _ e⟩⟩ tk2 _ _ (fun _ _ q => q.elim) (fun v h3 tk3 k3 p => ?_)
  exact hq v h3 tk3 k3 p
theorem Room.deeper {A : Around} {n : Nat} (r : Room A (n + 1)) (env : Env) : Room (A.deeper env) n := ⟨r.handled, by have := r.depth; show A.depth + 1 + n < _; omega, by have := r.units; show A.units + 3 + 8 * n < _; omega⟩
theorem Room.in1 {A : Around} {n : Nat} (r : Room A (n + 1)) : Room A.in1 n := ⟨r.handled, by have := r.depth; show A.depth + n < _; omega, by have := r.units; show A.units + 1 + 8 * n < _; omega⟩
end
/-! arguments, displays, calls -/
def AllP : List VP → List Value → Heap → Prop
  | [], [], _ => True
  | P :: Ps, v :: vs, h => P v h ∧ AllP Ps vs h
  | _, _, _ => False
section
variable {c : Cx} {env : Env} {h : Heap} {P P1 P2 : VP} {pos : Pos}
abbrev EA (c : Cx) (env : Env) (pos : Pos) (es : List Expr) (h : Heap) (Ps : List VP) : Prop := Pu c (spliced (backTo pos (starEach es env))) h (AllP Ps)
theorem EA.nil : EA c env pos [] h [] := Pu.mk fun h1 tk Q E k hq => args_nil (hq [] h1 tk (Kept.refl _) trivial)
theorem EA.cons {e : Expr} {es : List Expr} {Ps : List VP} [Mo P] (he : Ev c env e h P) (hr : EA c env pos es h Ps) (hs : starEach (e :: es) env = (false, eval e env) :: starEach es env := by rfl) : EA c env pos (e :: es) h (P :: Ps) :=
  Pu.mk fun h1 tk Q E k hq => args_cons (he h1 tk _ E k fun v h2 tk2 k2 p => hr h2 tk2 _ E (k.trans k2) fun vs h3 tk3 k3 ps => hq (v :: vs) h3 tk3 (k2.trans k3) ⟨Mo.mo p k3.lg.stay, ps⟩) hs
theorem AllP.one {v : List Value} (x : AllP [P] v h) : ∃ a, v = [a] ∧ P a h := by
  match v, x with
  | [a], ⟨p, _⟩ => exact ⟨a, rfl, p⟩
theorem AllP.two {v : List Value} (x : AllP [P, P1] v h) : ∃ a b, v = [a, b] ∧ P a h ∧ P1 b h := by
  match v, x with
  | [a, b], ⟨p, q, _⟩ => exact ⟨a, b, rfl, p, q⟩
theorem AllP.three {v : List Value} (x : AllP [P, P1, P2] v h) : ∃ a b d, v = [a, b, d] ∧ P a h ∧ P1 b h ∧ P2 d h := by
  match v, x with
  | [a, b, d], ⟨p, q, r, _⟩ => exact ⟨a, b, d, rfl, p, q, r⟩
/-- items of a display, all told alike -/
abbrev EL {α : Type} (c : Cx) (env : Env) (pos : Pos) (es : List Expr) (h : Heap) (R : α → VP) (xs : List α) : Prop := Pu c (spliced (backTo pos (starEach es env))) h (Are R xs)
theorem EL.nil {α : Type} {R : α → VP} : EL c env pos [] h R [] := Pu.mk fun h1 tk Q E k hq => args_nil (hq [] h1 tk (Kept.refl _) Are.nil)
theorem EL.cons {α : Type} {R : α → VP} [∀ x, Mo (R x)] {e : Expr} {es : List Expr} {x : α} {xs : List α} (he : Ev c env e h (R x)) (hr : EL c env pos es h R xs) (hs : starEach (e :: es) env = (false, eval e env) :: starEach es env := by rfl) : EL c env pos (e :: es) h R (x :: xs) :=
  Pu.mk fun h1 tk Q E k hq => args_cons (he h1 tk _ E k fun v h2 tk2 k2 p => hr h2 tk2 _ E (k.trans k2) fun vs h3 tk3 k3 ps => hq (v :: vs) h3 tk3 (k2.trans k3) (Are.cons (Mo.mo p k3.lg.stay) ps)) hs
theorem Ev.list {α : Type} {R : α → VP} [∀ x, Mo (R x)] {es : List Expr} {xs : List α} (he : EL c env pos es h R xs) (hsz : xs.length ≤ sizeLine := by exact Nat.le_of_ble_eq_true rfl) : Ev c env (.List es pos) h (isL R xs) :=
  Pu.mk fun h1 tk Q E k hq => List_ (he h1 tk _ E k fun vs h2 tk2 k2 a => wpAny_newList (s := c.sh h2 tk2) (hq _ _ tk2 (k2.trans (Kept.push _ _)) ⟨_, vs, 0, rfl, lg_get (Heap.get?_push_size _ rfl) ((k.trans k2).new (Heap.get?_none_of_le (Nat.le_refl _))), a.stay (Kept.push _ _).lg.stay⟩) (by rw [a.len]; exact hsz))
theorem Ev.tuple {α : Type} {R : α → VP} [∀ x, Mo (R x)] {es : List Expr} {xs : List α} {k : Nat} (he : EL c env pos es h R xs) (hsz : xs.length ≤ sizeLine := by exact Nat.le_of_ble_eq_true rfl) : Ev c env (.Tuple es k pos) h (isT R xs) :=
  Pu.mk fun h1 tk Q E k hq => Tuple_ (he h1 tk _ E k fun vs h2 tk2 k2 a => wpAny_newTuple (s := c.sh h2 tk2) (hq _ _ tk2 (k2.trans (Kept.push _ _)) ⟨_, vs, 0, rfl, lg_get (Heap.get?_push_size _ rfl) ((k.trans k2).new (Heap.get?_none_of_le (Nat.le_refl _))), a.stay (Kept.push _ _).lg.stay⟩) (by rw [a.len]; exact hsz))
/-- a built-in function called -/
theorem Ev.callB {id : String} {fe e : Expr} {es : List Expr} {Ps : List VP} (hf : Ev c env fe h (isV (.builtin id))) (ha : EA c env pos (e :: es) h Ps) (hc : ∀ vs h', Kept h h' → AllP Ps vs h' → Pu c (call (.builtin id) vs) h' P)
    (hs : starEach (e :: es) env = (false, eval e env) :: starEach es env := by rfl) (hplain : (backTo pos (starEach es env)).any (·.1) = false := by rfl)
    (he : eval (.Call fe (e :: es) [] pos) env = (do callWith pos (← eval fe env) [] (backTo pos (starEach (e :: es) env)) (backToKw pos (keywordEach [] env))) := by rfl) : Ev c env (.Call fe (e :: es) [] pos) h P :=
  Pu.mk fun h1 tk Q E k hq => Call_ (hf h1 tk _ E k fun f h2 tk2 k2 ef => by
    cases ef
    exact callWith_builtin1 (ha h2 tk2 _ E (k.trans k2) fun vs h3 tk3 k3 ps => hc vs _ ((k.trans k2).trans k3).keep ps h3 tk3 Q E ((k.trans k2).trans k3).lg fun v h4 tk4 k4 p => hq v h4 tk4 ((k2.trans k3).trans k4) p) hs hplain) he
theorem Ev.callT {T : String} {fe e : Expr} {es : List Expr} {Ps : List VP} (hf : Ev c env fe h (isV (.type T))) (ha : EA c env pos (e :: es) h Ps) (hc : ∀ vs h', Kept h h' → AllP Ps vs h' → Pu c (call (.type T) vs) h' P)
    (hs : starEach (e :: es) env = (false, eval e env) :: starEach es env := by rfl) (hplain : (backTo pos (starEach es env)).any (·.1) = false := by rfl)
    (he : eval (.Call fe (e :: es) [] pos) env = (do callWith pos (← eval fe env) [] (backTo pos (starEach (e :: es) env)) (backToKw pos (keywordEach [] env))) := by rfl) : Ev c env (.Call fe (e :: es) [] pos) h P :=
  Pu.mk fun h1 tk Q E k hq => Call_ (hf h1 tk _ E k fun f h2 tk2 k2 ef => by
    cases ef
    exact PyProof.Rows.callWith_type1 (ha h2 tk2 _ E (k.trans k2) fun vs h3 tk3 k3 ps => hc vs _ ((k.trans k2).trans k3).keep ps h3 tk3 Q E ((k.trans k2).trans k3).lg fun v h4 tk4 k4 p => hq v h4 tk4 ((k2.trans k3).trans k4) p) hs hplain) he
/-- a def called -/
theorem Ev.callF {f : Addr} {o : Obj} {fd : FuncData} {fe e : Expr} {es : List Expr} {Ps : List VP} (hf : Ev c env fe h (isV (.ref f))) (ho : h.get? f = some o) (hd : o.data = .func fd) (ha : EA c env pos (e :: es) h Ps) (hc : ∀ vs h', Kept h h' → AllP Ps vs h' → Pu c (call (.ref f) vs) h' P)
    (hs : starEach (e :: es) env = (false, eval e env) :: starEach es env := by rfl)
    (he : eval (.Call fe (e :: es) [] pos) env = (do callWith pos (← eval fe env) [] (backTo pos (starEach (e :: es) env)) (backToKw pos (keywordEach [] env))) := by rfl) : Ev c env (.Call fe (e :: es) [] pos) h P :=
  Pu.mk fun h1 tk Q E k hq => Call_ (hf h1 tk _ E k fun f h2 tk2 k2 ef => by
    cases ef
    exact callWith_def hd (ha h2 tk2 _ E (k.trans k2) fun vs h3 tk3 k3 ps => ⟨((k.trans k2).trans k3).top _ _ ho, hc vs _ ((k.trans k2).trans k3).keep ps h3 tk3 Q E ((k.trans k2).trans k3).lg fun v h4 tk4 k4 p => hq v h4 tk4 ((k2.trans k3).trans k4) p⟩) hs) he
/-! built-ins -/
theorem b_max2 {x y : Int} (hR : c.A.handled = none) {vs : List Value} (a : AllP [isI x, isI y] vs h) : Pu c (call (.builtin "max") vs) h (isI (max x y)) := by
  obtain ⟨u, v, rfl, ⟨t, rfl⟩, ⟨t', rfl⟩⟩ := a.two
  refine Pu.mk fun h1 tk Q E k hq => ?_
  refine max_two_ints (s := c.sh h1 tk) hR fun h2 tk2 k2 => hq _ h2 tk2 k2 ?_
  split
  · next q => exact ⟨_, by rw [show max x y = y by omega]⟩
  · next q => exact ⟨_, by rw [show max x y = x by omega]⟩
theorem Ev.max2 {fe a b : Expr} {x y : Int} (hR : c.A.handled = none) (hf : Ev c env fe h (isV (.builtin "max"))) (ha : Ev c env a h (isI x)) (hb : Ev c env b h (isI y))
    (hs : starEach [a, b] env = (false, eval a env) :: starEach [b] env := by rfl) (hs2 : starEach [b] env = (false, eval b env) :: starEach [] env := by rfl) (hplain : (backTo pos (starEach [b] env)).any (·.1) = false := by rfl)
    (he : eval (.Call fe [a, b] [] pos) env = (do callWith pos (← eval fe env) [] (backTo pos (starEach [a, b] env)) (backToKw pos (keywordEach [] env))) := by rfl) : Ev c env (.Call fe [a, b] [] pos) h (isI (max x y)) :=
  Ev.callB hf (EA.cons ha (EA.cons hb EA.nil hs2) hs) (fun vs h' _ p => b_max2 hR p) hs hplain he
theorem b_len {α : Type} {R : α → VP} {xs : List α} {vs : List Value} (hx : xs.length ≤ sizeLine) (a : AllP [isL R xs] vs h) : Pu c (call (.builtin "len") vs) h (isI (xs.length : Int)) := by
  obtain ⟨u, rfl, p⟩ := a.one
  obtain ⟨l, ws, rfl, hl, r⟩ := p.list
  refine Pu.mk fun h1 tk Q E k hq => ?_
  have e : ws.toArray.size = xs.length := by rw [List.size_toArray]; exact r.len
  have hl' : h1.IsList l ws.toArray := let ⟨o, ho, q⟩ := hl; ⟨o, k.top _ _ ho, q⟩
  refine call_len_list (s := c.sh h1 tk) hl' ?_ (hq _ h1 (tk + 1 + 1) (Kept.refl _) ⟨tk + 1, by rw [e]⟩)
  rw [e]; unfold sizeLine at hx; omega
end
end Mine
end

section
-- PL5
open PySem PySem.W PyProof.Rows PySem.Spec PySem.Calls
set_option maxRecDepth 100000
namespace Mine
def iterT : Value → Bool
  | .type T => T == "list_iterator" || T == "tuple_iterator" || T == "range_iterator"
  | _ => false
/-- kept by whatever a walk of an iterator and a store do -/
def strongO (o : Obj) : Bool := match o.data with
  | .dict .. => false
  | .cell .. => false
  | .fields _ => !iterT o.cls
  | _ => true
theorem plain_strong {o : Obj} (h : plainD o.data = true) : strongO o = true := by
  unfold strongO; unfold plainD at h
  split <;> simp_all
def Strg (h h' : Heap) : Prop := ∀ b o, h.get? b = some o → strongO o = true → h'.get? b = some o
theorem Strg.stay {a b : Heap} (x : Strg a b) : Stay a b := fun p o e q => x p o e (plain_strong q)
theorem Stay.lg {c : Cx} {a b : Heap} (x : Stay a b) : Stay (lg c a) (lg c b) := fun p o e q => lg_get (x p o (lg_sub _ _ e) q) (lg_not e)
theorem Strg.trans {a b c : Heap} (x : Strg a b) (y : Strg b c) : Strg a c := fun p o e q => y p o (x p o e q) q
theorem Strg.lg {c : Cx} {a b : Heap} (x : Strg a b) : Strg (lg c a) (lg c b) := fun p o e q => lg_get (x p o (lg_sub _ _ e) q) (lg_not e)
theorem Fm.str {h0 h h' : Heap} {env : Env} {V : Vs} (F : Fm h0 env h V) (k : KB (Wr env) h h') : Strg h h' := fun b o e p => k b o e (F.notWr e ⟨fun _ _ q => (by
    unfold strongO at p; rw [q] at p; simp at p), fun _ q => (by unfold strongO at p; rw [q] at p; simp at p)⟩)
def IterO (o : Obj) : Prop := (∃ vs, o.data = .fields vs) ∧ iterT o.cls = true
theorem IterO.weak {o : Obj} (x : IterO o) : strongO o = false := by
  obtain ⟨⟨vs, hd⟩, ht⟩ := x
  unfold strongO; rw [hd]; simp [ht]
theorem iter_fields {o : Obj} {T : String} {vs : Array Value} (hc : o.cls = .type T) (hd : o.data = .fields vs) (hT : iterT (.type T) = true := by decide) : IterO o := ⟨⟨vs, hd⟩, by rw [hc]; exact hT⟩
/-- an iterator over xs, at I -/
structure Wk (c : Cx) (A : Around) {α : Type} (R : α → VP) (xs : List α) (h : Heap) (I : Addr) (h' : Heap) (fp : List Addr) (P : Nat → Value → Prop) (St : Nat → Heap → Prop) : Prop where
  W : Walks c.prog c.w A I fp [I] xs.length P St
  st : St 0 h'
  it : ∀ i u x, P i u → xs[i]? = some x → R x u (lg c h)
  fpo : ∀ b ∈ fp, b ≠ I → ∃ o, (lg c h).get? b = some o ∧ plainD o.data = true
  obj : ∀ i g, St i g → ∃ o, g.get? I = some o ∧ IterO o
  new : h.get? I = none
  kept : Kept h h'
def Itb (c : Cx) {α : Type} (R : α → VP) (xs : List α) : VP := fun v h => ∀ (s : Shared) (A : Around) (Q : Value → Shared → Prop) (E : Value → Shared → Prop), A.handled = none → Lt c h s.heap →
  (∀ I h' fp P St, Wk c A R xs s.heap I h' fp P St → Q (.ref I) { s with heap := h' }) → wpAny c.M A (pyIter v) Q E s
theorem push_new {h : Heap} {a : Addr} (ha : h.objs.size ≤ a) : h.get? a = none := Heap.get?_none_of_le ha
section
variable {c : Cx} {α : Type} {R : α → VP} {xs : List α} {v : Value} {h : Heap}
theorem isS.itL [∀ x, Mo (R x)] (x : isL R xs v h) : Itb c R xs v h := fun s A Q E hh k hq => by
  obtain ⟨a, vs, rfl, hll, r⟩ := isS.list (Mo.mo x k.keep.stay : isL R xs v (lg c s.heap))
  obtain ⟨o, hol, hcl, n, hd⟩ := id hll
  have hl : s.heap.IsList a vs.toArray := ⟨o, lg_sub _ _ hol, hcl, n, hd⟩
  have ho := lg_sub _ _ hol
  have hlt : a < s.heap.objs.size := Heap.lt_size ho
  have W := Walks.list (prog := c.prog) (w := c.w) hh s.heap.objs.size a (Nat.ne_of_lt hlt) vs.toArray
  rw [show vs.toArray.size = xs.length by rw [List.size_toArray]; exact r.len] at W
  refine wpAny_pyIter_list hl (hq _ _ _ _ _ ⟨W, ⟨⟨_, Heap.get?_push_size _ rfl, rfl, rfl⟩, hl.push _⟩, fun i u y hp hy => ?_, fun b hb hne => ?_, fun i g st => ?_, push_new (Nat.le_refl _), Kept.push _ _⟩)
  · exact r.at' i y u hy (by simpa using hp)
  · simp at hb
    rcases hb with rfl | rfl
    · exact absurd rfl hne
    · exact ⟨o, hol, by rw [hd]; rfl⟩
  · obtain ⟨o', e, hc', hd'⟩ := st.1
    exact ⟨o', e, iter_fields hc' hd'⟩
theorem isS.itT [∀ x, Mo (R x)] (x : isT R xs v h) : Itb c R xs v h := fun s A Q E hh k hq => by
  obtain ⟨a, vs, rfl, hll, r⟩ := isS.tup (Mo.mo x k.keep.stay : isT R xs v (lg c s.heap))
  obtain ⟨o, hol, hcl, n, hd⟩ := id hll
  have hl : IsTup s.heap a vs.toArray := ⟨o, lg_sub _ _ hol, hcl, n, hd⟩
  have ho := lg_sub _ _ hol
  have hlt : a < s.heap.objs.size := Heap.lt_size ho
  have hl' : s.heap.IsTuple a vs.toArray := hl
  have W := Walks.tuple (prog := c.prog) (w := c.w) hh s.heap.objs.size a (Nat.ne_of_lt hlt) vs.toArray
  rw [show vs.toArray.size = xs.length by rw [List.size_toArray]; exact r.len] at W
  refine wpAny_pyIter_tuple hl' (hq _ _ _ _ _ ⟨W, ⟨⟨_, Heap.get?_push_size _ rfl, rfl, rfl⟩, hl'.push _⟩, fun i u y hp hy => ?_, fun b hb hne => ?_, fun i g st => ?_, push_new (Nat.le_refl _), Kept.push _ _⟩)
  · exact r.at' i y u hy (by simpa using hp)
  · simp at hb
    rcases hb with rfl | rfl
    · exact absurd rfl hne
    · exact ⟨o, hol, by rw [hd]; rfl⟩
  · obtain ⟨o', e, hc', hd'⟩ := st.1
    exact ⟨o', e, iter_fields hc' hd'⟩
/-- a range of n ints from a by d -/
def rangeL (a d : Int) (n : Nat) : List Int := (List.range n).map fun i : Nat => a + (i : Int) * d
def isR (a b d : Int) (n : Nat) : VP := fun v h => ∃ r t u w, v = .ref r ∧ IsRange h r a b d t u w ∧ Builtin.Range.small a b d = true ∧ Builtin.Range.rangeSize a b d = (n : Int)
theorem isR.it {a b d : Int} {n : Nat} (x : isR a b d n v h) : Itb c isI (rangeL a d n) v h := fun s A Q E hh k hq => by
  obtain ⟨r, t, u, w, rfl, hr, hsm, hn⟩ := x
  have hr' : IsRange s.heap r a b d t u w := k.top _ _ hr
  have W := (Walks.range (prog := c.prog) (w := c.w) hh s.heap.objs.size a d n).bound
  have hlen : (rangeL a d n).length = n := by unfold rangeL; simp
  refine wpAny_pyIter_range hr' hsm (hq _ _ [s.heap.objs.size] _ _ ⟨hlen ▸ W, ?_, fun i u y hp hy => ?_, fun b hb hne => absurd (List.mem_singleton.mp hb) hne, fun i g st => ⟨_, st, iter_fields rfl rfl⟩, push_new (Nat.le_refl _), Kept.push _ _⟩)
  · show IsRangeIter _ _ _ _ _
    rw [hn]; show (s.heap.push _).get? _ = _; rw [Heap.get?_push_size _ rfl]; simp [hlen]
  · obtain ⟨hi, t, rfl⟩ := hp
    unfold rangeL at hy
    rw [List.getElem?_map, List.getElem?_range (by simpa [hlen] using hi)] at hy
    simp at hy
    exact ⟨t, by rw [← hy]⟩
end
/-- what stands when all but one new address is kept -/
theorem Fm.but {h0 h h1 h2 : Heap} {env : Env} {V V' : Vs} {I : Addr} (F : Fm h0 env h V') (F1 : Fm h0 env h1 V) (hI : h.get? I = none) (k : ∀ b o, b ∉ [I] → h1.get? b = some o → h2.get? b = some o) : Fm h0 env h2 V := by
  have k' : ∀ b o, b ≠ I → h1.get? b = some o → h2.get? b = some o := fun b o q e => k b o (by simpa using q) e
  refine ⟨F1.kind, ?_, fun b o eo => k' b o (fun q => ?_) (F1.kept b o eo), F1.newL, fun n a e => ?_, F1.apart, F1.newC, F1.ne, F1.kinds, F1.mem⟩
  · obtain ⟨m, f, e⟩ := F1.loc
    obtain ⟨m', f', _⟩ := F.loc
    have hL : env.locals ≠ I := fun q => by obtain ⟨o, _, _, eo, _⟩ := f'; rw [q, hI] at eo; cases eo
    exact ⟨m, f.at' fun o eo => k' _ o hL eo, e⟩
  · have := F.kept b o eo; rw [q, hI] at this; cases this
  · obtain ⟨o, eo, hd⟩ := F1.cell n a e
    obtain ⟨o', eo', _⟩ := F.cell n a e
    exact ⟨o, k' a o (fun q => by rw [q, hI] at eo'; cases eo') eo, hd⟩
theorem but_kb {W : Addr → Prop} {h h1 h2 : Heap} {I : Addr} (hI : h.get? I = none) (x : KB W h h1) (k : ∀ b o, b ∉ [I] → h1.get? b = some o → h2.get? b = some o) : KB W h h2 :=
  fun b o e w => k b o (fun q => by rw [List.mem_singleton.mp q, hI] at e; cases e) (x b o e w)
theorem but_str {h1 h2 : Heap} {I : Addr} {oI : Obj} (e1 : h1.get? I = some oI) (s : strongO oI = false) (k : ∀ b o, b ∉ [I] → h1.get? b = some o → h2.get? b = some o) : Strg h1 h2 :=
  fun b o e q => k b o (fun z => by rw [List.mem_singleton.mp z, e1] at e; cases e; rw [s] at q; cases q) e
section
variable {c : Cx} {env : Env} {h0 h : Heap} {V : Vs} {N : Heap → Prop} {P : VP} {rest : List Stmt}
/-- for x in it: body -/
theorem Sx.for_ {x : Str} {it : Expr} {body : List Stmt} {px pos : Pos} {α : Type} {R : α → VP} [∀ x, Mo (R x)] {xs : List α} (hh : c.A.handled = none) (F : Fx c h0 env h V) (hit : Ev c env it (lg c h) (Itb c R xs))
    (W : Addr → Prop) (hW : ∀ a, Wr env a → W a) (hWo : ∀ a, W a → ∃ o, h.get? a = some o ∧ (plainD o.data = false ∨ a ∈ c.X))
    (J : Nat → Vs → Heap → Prop) (hJ0 : ∀ h', Kept h h' → J 0 V h') (hJs : ∀ i V1 h1 h2, J i V1 h1 → Strg h1 h2 → J i V1 h2)
    (turn : ∀ i y v V1 h1, xs[i]? = some y → J i V1 h1 → R y v (lg c h1) → Fx c h0 env h1 (upd V1 x v) → KB W h h1 → Stay (lg c h) (lg c h1) → Ex c env h0 body h1 (fun h2 => ∃ V2, Fx c h0 env h2 V2 ∧ J (i + 1) V2 h2 ∧ KB W h1 h2) P)
    (done : ∀ V1 h1, J xs.length V1 h1 → Fx c h0 env h1 V1 → KB W h h1 → Stay (lg c h) (lg c h1) → N h1)
    (hk : env.kindOf x = some .local ∨ (env.kindOf x = some .cell ∧ (env.cells.lookup x).isSome = true) := by exact own_of (by rfl))
    (hs : ∀ y, foldedSetIterable it env y = pure y := by intro _; rfl) (ht : ∀ i v, letOwnedTupleGo (.Name x px) i v = pure () := by intro _ _; rfl) : Sx c env h0 (.For (.Name x px) it body [] pos) h N P :=
  Sx.mk fun tk Q E hn hr => wpAny_For (hit h tk _ E F.lt fun v hv tkv kv itb => itb (c.sh hv tkv) c.A _ E hh (F.lt.trans kv).lg fun I ha fp Pi St k => by
    have hI' : hv.get? I = none := k.new
    have hI : h.get? I = none := by
      cases q : h.get? I with
      | none => rfl
      | some o => have := hI'; rw [kv _ _ q] at this; cases this
    have hWI : ¬ W I := fun q => by obtain ⟨o, eo, _⟩ := hWo I q; rw [hI] at eo; cases eo
    have hWp : ∀ b o, (lg c hv).get? b = some o → plainD o.data = true → ¬ W b := fun b o e q w => by
      obtain ⟨o', eo', hp⟩ := hWo b w
      have := kv _ _ eo'
      rw [lg_sub _ _ e] at this; cases this
      rcases hp with hp | hp
      · rw [hp] at q; cases q
      · exact lg_not e hp
    have hfp : ∀ b ∈ fp, ¬ W b := fun b hb w => by
      by_cases hbI : b = I
      · exact hWI (hbI ▸ w)
      · obtain ⟨o', eo', hp⟩ := k.fpo b hb hbI
        exact hWp b o' eo' hp w
    have hXI : I ∉ c.X := fun q => by obtain ⟨_, o, e⟩ := F.hid I q; rw [hI] at e; cases e
    refine codeAny_forLoop (fun n s => ∃ i V1 h1 tk1, s = c.sh h1 tk1 ∧ i ≤ xs.length ∧ n = xs.length + 1 - i ∧ St i h1 ∧ J i V1 h1 ∧ Fx c h0 env h1 V1 ∧ KB W hv h1) ?_ (xs.length + 1)
      ⟨0, V, ha, tkv, rfl, Nat.zero_le _, rfl, k.st, hJ0 _ (kv.trans k.kept), F.at (kv.trans k.kept), k.kept.kb⟩ (fun v => ht _ v)
    rintro n s ⟨i, V1, h1, tk1, rfl, hi, rfl, hst, hJ, F1, kb1⟩
    obtain ⟨oI, eI, sI⟩ := k.obj i h1 hst
    by_cases hlt : i < xs.length
    · refine k.W.item i (c.sh h1 tk1) _ _ hlt hst fun u h2 tk2 hP hst2 hk2 => ?_
      have F2 : Fx c h0 env h2 V1 := ⟨F.toFm.but F1.toFm hI hk2, fun z hz => let ⟨w, o, e⟩ := F1.hid z hz; ⟨w, o, hk2 z o (fun q => hXI (List.mem_singleton.mp q ▸ hz)) e⟩⟩
      refine wpAny_assign_Name (F2.toFm.store (s := c.sh h2 tk2) hk fun h3 tk3 F3 kb3 => ?_)
      have st12 : Strg h1 h2 := but_str eI sI.weak hk2
      have st23 : Strg h2 h3 := F2.toFm.str kb3
      obtain ⟨y, hy⟩ : ∃ y, xs[i]? = some y := ⟨xs[i], List.getElem?_eq_getElem hlt⟩
      have hR0 : R y u (lg c hv) := k.it i u y hP hy
      have kbv2 : KB W hv h2 := but_kb hI' kb1 hk2
      have kbv3 : KB W hv h3 := fun b o e w => kb3 b o (kbv2 b o e w) fun z => w (hW b z)
      have syv : Stay (lg c hv) (lg c h3) := fun b o e q => lg_get (kbv3 b o (lg_sub _ _ e) (hWp b o e q)) (lg_not e)
      have hst3 : St (i + 1) h3 := k.W.frame _ _ _ hst2 fun b hb o e => kb3 b o e fun w => hfp b hb (hW b w)
      refine turn i y u V1 h3 hy (hJs _ _ _ _ hJ (st12.trans st23)) (Mo.mo hR0 syv) (F2.next F3 kb3) (kv.kb.trans kbv3) (kv.lg.stay.trans syv) tk3 _ _ (fun h4 tk4 ⟨V2, F4, hJ4, kb4⟩ => ?_) (fun v h4 tk4 k4 p => hr v h4 tk4 k4 p)
      refine ⟨xs.length + 1 - (i + 1), by omega, i + 1, V2, h4, tk4, rfl, hlt, rfl, ?_, hJ4, F4, kbv3.trans kb4⟩
      exact k.W.frame _ _ _ hst3 fun b hb o e => kb4 b o e (hfp b hb)
    · obtain rfl : i = xs.length := Nat.le_antisymm hi (Nat.not_lt.mp hlt)
      refine k.W.done (c.sh h1 tk1) _ _ hst fun h2 tk2 hk2 => ?_
      have kbv2 : KB W hv h2 := but_kb hI' kb1 hk2
      refine wpAny_execs_nil (hn h2 tk2 (done V1 h2 (hJs _ _ _ _ hJ (but_str eI sI.weak hk2)) ⟨F.toFm.but F1.toFm hI hk2, fun z hz => let ⟨w, o, e⟩ := F1.hid z hz; ⟨w, o, hk2 z o (fun q => hXI (List.mem_singleton.mp q ▸ hz)) e⟩⟩ (kv.kb.trans kbv2) (kv.lg.stay.trans fun b o e q => lg_get (kbv2 b o (lg_sub _ _ e) (hWp b o e q)) (lg_not e))))) hs
theorem Ex.for_ {x : Str} {it : Expr} {body : List Stmt} {px pos : Pos} {α : Type} {R : α → VP} [∀ x, Mo (R x)] {xs : List α} (hh : c.A.handled = none) (F : Fx c h0 env h V) (hit : Ev c env it (lg c h) (Itb c R xs))
    (W : Addr → Prop) (hW : ∀ a, Wr env a → W a) (hWo : ∀ a, W a → ∃ o, h.get? a = some o ∧ plainD o.data = false)
    (J : Nat → Vs → Heap → Prop) (hJ0 : ∀ h', Kept h h' → J 0 V h') (hJs : ∀ i V1 h1 h2, J i V1 h1 → Strg h1 h2 → J i V1 h2)
    (turn : ∀ i y v V1 h1, xs[i]? = some y → J i V1 h1 → R y v (lg c h1) → Fx c h0 env h1 (upd V1 x v) → KB W h h1 → Stay (lg c h) (lg c h1) → Ex c env h0 body h1 (fun h2 => ∃ V2, Fx c h0 env h2 V2 ∧ J (i + 1) V2 h2 ∧ KB W h1 h2) P)
    (done : ∀ V1 h1, J xs.length V1 h1 → Fx c h0 env h1 V1 → KB W h h1 → Stay (lg c h) (lg c h1) → Ex c env h0 rest h1 N P)
    (hk : env.kindOf x = some .local ∨ (env.kindOf x = some .cell ∧ (env.cells.lookup x).isSome = true) := by exact own_of (by rfl))
    (hs : ∀ y, foldedSetIterable it env y = pure y := by intro _; rfl) (ht : ∀ i v, letOwnedTupleGo (.Name x px) i v = pure () := by intro _ _; rfl) : Ex c env h0 (.For (.Name x px) it body [] pos :: rest) h N P :=
  Ex.of (Sx.for_ hh F hit W hW (fun a w => let ⟨o, e, p⟩ := hWo a w; ⟨o, e, .inl p⟩) J hJ0 hJs turn done hk hs ht)
end
end Mine
end

section
-- PL6
open PySem PySem.W PyProof.Rows PySem.Spec PySem.Calls
set_option maxRecDepth 100000
namespace Mine
/-! comprehensions -/
def slotsKey : Str := "__slots__"
/-- kept by a comprehension's own doings: iterators and its dict of names change; so may code tables -/
def cstO (o : Obj) : Bool := match o.data with
  | .dict es _ => es.any fun e => e.key.isStr slotsKey
  | .fields _ => !iterT o.cls && (match o.cls with | .none => false | _ => true)
  | _ => true
def cst2O (o : Obj) : Bool := cstO o || (match o.data, o.cls with | .fields _, .none => true | _, _ => false)
def Cst (h h' : Heap) : Prop := ∀ b o, h.get? b = some o → cstO o = true → h'.get? b = some o
def Cst2 (h h' : Heap) : Prop := ∀ b o, h.get? b = some o → cst2O o = true → h'.get? b = some o
theorem Cst2.cst {a b : Heap} (x : Cst2 a b) : Cst a b := fun p o e q => x p o e (by unfold cst2O; rw [q]; rfl)
theorem Cst2.trans {a b c : Heap} (x : Cst2 a b) (y : Cst2 b c) : Cst2 a c := fun p o e q => y p o (x p o e q) q
theorem Kept.cst2 {a b : Heap} (x : Kept a b) : Cst2 a b := fun p o e _ => x p o e
theorem Cst.stay {a b : Heap} (x : Cst a b) : Stay a b := fun p o e q => x p o e (by unfold cstO; unfold plainD at q; split <;> simp_all)
theorem Cst2.lg {c : Cx} {a b : Heap} (x : Cst2 a b) : Cst2 (lg c a) (lg c b) := fun p o e q => lg_get (x p o (lg_sub _ _ e) q) (lg_not e)
theorem cst_but {h1 h2 : Heap} {I : Addr} {oI : Obj} (e1 : h1.get? I = some oI) (s : cst2O oI = false) (k : ∀ b o, b ≠ I → h1.get? b = some o → h2.get? b = some o) : Cst2 h1 h2 :=
  fun b o e q => k b o (fun z => by rw [z, e1] at e; cases e; rw [s] at q; cases q) e
theorem IterO.weak2 {o : Obj} (x : IterO o) : cst2O o = false := by
  obtain ⟨⟨vs, hd⟩, ht⟩ := x
  unfold cst2O cstO
  rw [hd]
  cases hc : o.cls <;> rw [hc] at ht <;> simp [iterT] at ht ⊢
  rcases ht with (h | h) | h <;> simp [h]
theorem ns_weak {h : Heap} {C : Addr} {m : Vs} (x : h.Ns C m) (hm : m slotsKey = none) : ∃ o, h.get? C = some o ∧ cst2O o = false := by
  obtain ⟨o, es, ep, e, hd, _, hf⟩ := x
  refine ⟨o, e, ?_⟩
  have := hf slotsKey
  rw [hm] at this
  unfold nsFind findBy at this
  rw [Option.map_eq_none_iff] at this
  have z : (es.any fun e => e.key.isStr slotsKey) = false := by
    rw [Array.any_eq_false]
    intro i hi
    have := Array.find?_eq_none.mp this (es[i]) (Array.getElem_mem hi)
    simpa using this
  unfold cst2O cstO
  rw [hd]; simp [z]
/-- the comprehension's own context: its list is hidden -/
abbrev Cx.hide (c : Cx) (D : Addr) : Cx := { c with X := D :: c.X }
theorem lg_hide {c : Cx} {D : Addr} {h h' : Heap} (hs : Heap.SameBut D h h') : Kept (lg (c.hide D) h) (lg (c.hide D) h') := fun b o e => lg_get (hs.extBut b o (fun q => lg_not e (q ▸ List.mem_cons_self)) (lg_sub _ _ e)) (lg_not e)
theorem lg_hide_sub {c : Cx} {D : Addr} {h : Heap} : Kept (lg (c.hide D) h) (lg c h) := fun b o e => lg_get (lg_sub _ _ e) fun q => lg_not e (List.mem_cons_of_mem _ q)
abbrev lst (ys : List Value) : Obj := { cls := .type "list", data := .seq ys.toArray ys.length }
section
variable {c : Cx} {env : Env}
theorem comp_block {elt iter : Expr} {ifs : List Expr} {x : Str} {px pos : Pos} {scope : Scope} {cl : List (Str × Addr)} {α β : Type} {R : α → VP} [∀ x, Mo (R x)] {S : β → VP} {xs : List α} {hs ha : Heap} {I : Addr} {fp : List Addr} {Pi : Nat → Value → Prop} {St : Nat → Heap → Prop} {tka : Nat} {E : Value → Shared → Prop}
    {RR : Value → Addr → Result → Shared → Prop}
    (k : Wk c c.A R xs hs I ha fp Pi St) (hX : ∀ x ∈ c.X, ∃ o, hs.get? x = some o)
    (hcell : ∀ y ∈ scope.names, y.2 ≠ .cell) (hkind : scope.kind = .function) (hx : scope.names.lookup x = some .local) (hxs : x ≠ slotsKey) (hsz : xs.length ≤ sizeLine)
    (W : Addr → Prop) (hWo : ∀ a, W a → ∃ o, hs.get? a = some o ∧ plainD o.data = false) (hXW : ∀ y ∈ c.X, ¬ W y)
    (J : Nat → Heap → Prop) (hJ0 : ∀ D h', Kept (lg c hs) (lg (c.hide D) h') → J 0 (lg (c.hide D) h')) (hJs : ∀ i h1 h2, J i h1 → Cst2 h1 h2 → J i h2)
    (hSs : ∀ y v h1 h2, S y v h1 → Cst h1 h2 → S y v h2) (p : α → Bool) (f : α → β)
    (test : ∀ i y u C D m h1, xs[i]? = some y → R y u (lg (c.hide D) h1) → J i (lg (c.hide D) h1) → h1.Ns C m → m x = some u → hs.get? C = none → hs.get? D = none → C ≠ D → KB W hs h1 → Lt (c.hide D) (lg (c.hide D) h1) h1 →
      Pu (c.hide D) (forIn ifs true fun t r => if r = true then do let ok ← isTrue t (compEnvC scope cl C env) (eval t (compEnvC scope cl C env)); pure (ForInStep.yield ok) else pure (ForInStep.yield r)) (lg (c.hide D) h1) fun b _ => b = p y)
    (skip : ∀ i y h1, xs[i]? = some y → p y = false → J i h1 → J (i + 1) h1)
    (elem : ∀ i y u C D m h1, xs[i]? = some y → p y = true → R y u (lg (c.hide D) h1) → J i (lg (c.hide D) h1) → h1.Ns C m → m x = some u → hs.get? C = none → hs.get? D = none → C ≠ D → KB W hs h1 → Lt (c.hide D) (lg (c.hide D) h1) h1 →
      ∀ tk (Q : Value → Shared → Prop) (E : Value → Shared → Prop), (∀ v h2 tk2, KB W h1 h2 → Cst (lg (c.hide D) h1) (lg (c.hide D) h2) → S (f y) v (lg (c.hide D) h2) → J (i + 1) (lg (c.hide D) h2) → Q v (c.sh h2 tk2)) →
      wpAny c.M c.A (eval elt (compEnvC scope cl C env)) Q E (c.sh h1 tk))
    (hRR : ∀ D C h' tk' m vs, KB W hs h' → Are S ((xs.filter p).map f) vs (lg c h') → h'.get? D = some (lst vs) → hs.get? D = none → hs.get? C = none → C ≠ D → h'.Ns C m → m slotsKey = none → J xs.length (lg (c.hide D) h') → RR (.ref D) C (.ok .next) (c.sh h' tk')) :
    wpAny c.M c.A (newList []) (fun acc s₃ => wpAny c.M c.A (newFunctionEnv scope env.globals cl [] env.qual none .none (some env)) (fun cenv s₄ =>
      codeAny c.M c.A (.compStart (.ListComp elt [⟨.Name x px, iter, ifs, 0⟩] scope pos) 0 (.ref I) acc { cenv with scope := relabel scope env }) (RR acc cenv.locals) s₄) E s₃) E (c.sh ha tka) := by
  refine wpAny_newObj_type (wpAny_newFunctionEnv hcell (by intro y hy; simp at hy) (fun h₁ hns₁ hsb₁ => ?_) hkind)
  dsimp only at hns₁ hsb₁ ⊢
  generalize hH2 : ha.push { cls := .type "list", dict := none, data := .seq ([] : List Value).toArray } = H2 at hns₁ hsb₁ ⊢
  have hC : H2.objs.size = ha.objs.size + 1 := by rw [← hH2, Heap.size_push]
  have kpush : Kept ha H2 := hH2 ▸ Kept.push _ _
  have hnoC : H2.get? H2.objs.size = none := Heap.get?_none_of_le (Nat.le_refl _)
  have hnoD : ha.get? ha.objs.size = none := Heap.get?_none_of_le (Nat.le_refl _)
  have k01 : Kept ha h₁ := fun b o e => hsb₁.extBut b o (fun q => by have := kpush b o e; rw [q, hnoC] at this; cases this) (Heap.get?_push_of_some _ (kpush b o e))
  have hDC : H2.objs.size ≠ ha.objs.size := by rw [hC]; exact Nat.ne_of_gt (Nat.lt_succ_self _)
  generalize hDe : ha.objs.size = D at *
  generalize hCe : H2.objs.size = C at *
  have hD0 : h₁.get? D = some (lst []) := hsb₁.extBut _ _ (Ne.symm hDC) (Heap.get?_push_of_some _ (by rw [← hH2, ← hDe]; exact Heap.get?_push_size _ rfl))
  have hDs : hs.get? D = none := by
    cases q : hs.get? D with
    | none => rfl
    | some o => have := k.kept _ _ q; rw [hnoD] at this; cases this
  have hCs : hs.get? C = none := by
    cases q : hs.get? C with
    | none => rfl
    | some o => have := kpush _ _ (k.kept _ _ q); rw [hnoC] at this; cases this
  have hDI : D ≠ I := fun q => by obtain ⟨o, e, _⟩ := k.obj 0 _ k.st; rw [← q, hnoD] at e; cases e
  have hCI : C ≠ I := fun q => by obtain ⟨o, e, _⟩ := k.obj 0 _ k.st; have := kpush _ _ e; rw [← q, hnoC] at this; cases this
  have hWn : ∀ b, hs.get? b = none → ¬ W b := fun b e w => by obtain ⟨o, eo, _⟩ := hWo b w; rw [e] at eo; cases eo
  have hWp : ∀ b o, hs.get? b = some o → plainD o.data = true → ¬ W b := fun b o e q w => by
    obtain ⟨o', eo', hp⟩ := hWo b w
    rw [e] at eo'; cases eo'; rw [hp] at q; cases q
  have hXD : D ∉ c.X := fun q => by obtain ⟨o, e⟩ := hX D q; rw [hDs] at e; cases e
  have fpn : ∀ b ∈ fp, b ≠ I → b ≠ C ∧ b ≠ D ∧ ¬ W b := fun b hb hne => by
    obtain ⟨o, e, hp⟩ := k.fpo b hb hne
    have e := lg_sub _ _ e
    exact ⟨fun q => (by rw [q, hCs] at e; cases e), fun q => (by rw [q, hDs] at e; cases e), hWp b o e hp⟩
  have ltD : ∀ h, (∀ b o, hs.get? b = some o → ∃ o', h.get? b = some o') → (∃ o, h.get? D = some o) → Lt (c.hide D) (lg (c.hide D) h) h := fun h hk hd => ⟨Kept.refl _, fun y hy => by
    rcases List.mem_cons.mp hy with rfl | hy
    · exact hd
    · obtain ⟨o, e⟩ := hX y hy; exact hk _ _ e⟩
  have hWI : ¬ W I := hWn I k.new
  have hWC : ¬ W C := hWn C hCs
  have hWD : ¬ W D := hWn D hDs
  have ltD' : ∀ h, KB W hs h → (∃ o, h.get? D = some o) → Lt (c.hide D) (lg (c.hide D) h) h := fun h kb hd => ⟨Kept.refl _, fun y hy => by
    rcases List.mem_cons.mp hy with rfl | hy
    · exact hd
    · obtain ⟨o, e⟩ := hX y hy; exact ⟨o, kb _ _ e (hXW y hy)⟩⟩
  have areC : ∀ {ys : List β} {vs : List Value} {h h' : Heap}, Are S ys vs h → Cst h h' → Are S ys vs h' := fun a q => ⟨a.len, fun i y v hy hv => hSs _ _ _ _ (a.at' i y v hy hv) q⟩
  have loop : ∀ s₃ : Shared, s₃ = c.sh h₁ (tka + ([] : List (Str × Value)).length) →
      codeAny c.M c.A (.compLoop (.ListComp elt [⟨.Name x px, iter, ifs, 0⟩] scope pos) 0 (.ref I) (.ref D) (compEnvC scope cl C env)) (RR (.ref D) C) s₃ := by
    rintro s₃ rfl
    refine codeAny_compLoop_tests (fun n s' => ∃ i h1 tk1 m vs, s' = c.sh h1 tk1 ∧ i ≤ xs.length ∧ n = xs.length + 1 - i ∧ St i h1 ∧ KB W hs h1 ∧ h1.get? D = some (lst vs) ∧ Are S (((xs.take i).filter p).map f) vs (lg (c.hide D) h1) ∧ h1.Ns C m ∧ m slotsKey = none ∧ J i (lg (c.hide D) h1)) ?_ (xs.length + 1)
      ⟨0, h₁, _, _, [], rfl, Nat.zero_le _, rfl, k.W.frame _ _ _ k.st fun b _ o e => k01 b o e, (k.kept.trans k01).kb, hD0, by simpa using Are.nil, hns₁, rfl,
        hJ0 D _ fun b o e => lg_get (k01 _ _ (k.kept _ _ (lg_sub _ _ e))) fun q => (by
          rcases List.mem_cons.mp q with rfl | q
          · rw [lg_sub _ _ e] at hDs; cases hDs
          · exact lg_not e q)⟩
    rintro n s ⟨i, h1, tk1, m, vs, rfl, hi, rfl, hst, kb, hD1, ar, hns, hms, hJ⟩
    obtain ⟨oI, eI, sI⟩ := k.obj i h1 hst
    by_cases hlt : i < xs.length
    · refine k.W.item i (c.sh h1 tk1) _ _ hlt hst fun u h2 tk2 hP hst2 hk2 => ?_
      have hk2' : ∀ b o, b ≠ I → h1.get? b = some o → h2.get? b = some o := fun b o q e => hk2 b o (by simpa using q) e
      have hns2 : h2.Ns C m := hns.at' fun o e => hk2' C o hCI e
      refine wpAny_assign_Name (wpAny_storeName_local (s := c.sh h2 tk2) (lookup_relabel_local hx) hns2 (fun h3 hn3 hs3 => ?_) (by simp [compEnvC, relabel, hkind]))
      obtain ⟨oC, eC, wC⟩ := ns_weak hns2 hms
      have c12 : Cst2 h1 h2 := cst_but eI sI.weak2 hk2'
      have c23 : Cst2 h2 h3 := cst_but eC wC fun b o q e => hs3.extBut b o q e
      have c13 := (c12.trans c23).lg (c := c.hide D)
      have kb2 : KB W hs h2 := but_kb k.new kb hk2
      have kb3 : KB W hs h3 := fun b o e w => hs3.extBut b o (fun q => by
        have q' : b = C := q
        rw [q', hCs] at e; cases e) (kb2 b o e w)
      have hD3 : h3.get? D = some (lst vs) := hs3.extBut D _ (fun q => hDC (by
        have q' : D = C := q
        exact q'.symm)) (hk2' D _ hDI hD1)
      have hst3 : St (i + 1) h3 := k.W.frame _ _ _ hst2 fun b hb o e => hs3.extBut b o (fun q => by
        have q' : b = C := q
        by_cases hbI : b = I
        · exact hCI (q'.symm.trans hbI)
        · exact (fpn b hb hbI).1 q') e
      obtain ⟨y, hy⟩ : ∃ y, xs[i]? = some y := ⟨xs[i], List.getElem?_eq_getElem hlt⟩
      have hR : R y u (lg (c.hide D) h3) := Mo.mo (k.it i u y hP hy) fun b o e q => lg_get (kb3 b o (lg_sub _ _ e) (hWp b o (lg_sub _ _ e) q)) fun z => by
        rcases List.mem_cons.mp z with rfl | z
        · rw [lg_sub _ _ e] at hDs; cases hDs
        · exact lg_not e z
      have lt3 := ltD' h3 kb3 ⟨_, hD3⟩
      have hmx : (fun y => if y = x then some u else m y) x = some u := by simp
      have hJ3 := hJs _ _ _ hJ c13
      have htk : xs.take (i + 1) = xs.take i ++ [y] := by rw [List.take_add_one, hy]; rfl
      refine test i y u C D _ h3 hy hR hJ3 hn3 hmx hCs hDs hDC kb3 lt3 h3 _ _ _ lt3 fun ok h4 tk4 k4 e4 => ?_
      have kb4 : KB W hs h4 := kb3.trans k4.kb
      have ar4 : Are S (((xs.take i).filter p).map f) vs (lg (c.hide D) h4) := areC (areC ar c13.cst) k4.lg.cst2.cst
      have hD4 := k4 _ _ hD3
      have hn4 := hn3.keeps k4
      have hst4 : St (i + 1) h4 := k.W.frame _ _ _ hst3 fun b _ o e => k4 b o e
      have hJ4 := hJs _ _ _ hJ3 k4.lg.cst2
      have hms' : (fun y => if y = x then some u else m y) slotsKey = none := by
        show (if slotsKey = x then some u else m slotsKey) = none
        rw [if_neg (fun q => hxs q.symm)]; exact hms
      cases ok with
      | true =>
        rw [if_pos rfl]
        refine elem i y u C D _ h4 hy e4.symm (Mo.mo hR k4.lg.stay) hJ4 hn4 hmx hCs hDs hDC kb4 (ltD' h4 kb4 ⟨_, hD4⟩) tk4 _ _ fun v h5 tk5 kb5 c5 s5 j5 => ?_
        have hD5 : h5.get? D = some (lst vs) := kb5 _ _ hD4 hWD
        have hvl : vs.length ≤ xs.length := by
          rw [ar4.len, List.length_map]
          exact Nat.le_trans (List.length_filter_le _ _) (by rw [List.length_take]; exact Nat.min_le_right _ _)
        refine append_at (s := c.sh h5 tk5) (hsz := by show vs.toArray.size ≤ sizeLine; rw [List.size_toArray]; exact Nat.le_trans hvl hsz) hD5 fun h6 hs6 hD6 => ?_
        refine ⟨xs.length + 1 - (i + 1), by omega, i + 1, h6, tk5, fun z => if z = x then some u else m z, vs ++ [v], rfl, hlt, rfl, ?_, ?_, ?_, ?_, ?_, hms', ?_⟩
        · refine k.W.frame _ _ _ (k.W.frame _ _ _ hst4 fun b hb o e => kb5 b o e ?_) fun b hb o e => hs6.extBut b o ?_ e
          · by_cases hbI : b = I
            · rw [hbI]; exact hWI
            · exact (fpn b hb hbI).2.2
          · intro q
            have q' : b = D := q
            by_cases hbI : b = I
            · exact hDI (q'.symm.trans hbI)
            · exact (fpn b hb hbI).2.1 q'
        · exact fun b o e w => hs6.extBut b o (fun q => by
            have q' : b = D := q
            rw [q', hDs] at e; cases e) (kb5 b o (kb4 b o e w) w)
        · rw [hD6]
          show some _ = some _
          congr 1
          show ({ cls := .type "list", data := .seq (vs.toArray.push v) (vs.length + 1) } : Obj) = { cls := .type "list", data := .seq (vs ++ [v]).toArray (vs ++ [v]).length }
          rw [List.length_append, List.length_singleton, List.push_toArray]
        · rw [htk, List.filter_append, List.map_append]
          have e1 : (List.filter p [y]).map f = [f y] := by simp [← e4]
          rw [e1]
          have kl : Kept (lg (c.hide D) h5) (lg (c.hide D) h6) := lg_hide hs6
          exact (areC (areC ar4 c5) kl.cst2.cst).snoc (hSs _ _ _ _ s5 kl.cst2.cst)
        · exact (hn4.at' fun o e => kb5 C o e hWC).sameBut hs6 (by
            intro q
            have q' : C = D := q
            exact hDC q')
        · exact hJs _ _ _ j5 (lg_hide hs6).cst2
      | false =>
        rw [if_neg (by simp)]
        refine ⟨xs.length + 1 - (i + 1), by omega, i + 1, h4, tk4, fun z => if z = x then some u else m z, vs, rfl, hlt, rfl, hst4, kb4, hD4, ?_, hn4, hms', skip i y _ hy e4.symm hJ4⟩
        rw [htk, List.filter_append, List.map_append]
        have e1 : (List.filter p [y]).map f = [] := by simp [← e4]
        rw [e1, List.append_nil]
        exact ar4
    · obtain rfl : i = xs.length := Nat.le_antisymm hi (Nat.not_lt.mp hlt)
      refine k.W.done (c.sh h1 tk1) _ _ hst fun h2 tk2 hk2 => ?_
      have hk2' : ∀ b o, b ≠ I → h1.get? b = some o → h2.get? b = some o := fun b o q e => hk2 b o (by simpa using q) e
      have c12 : Cst2 (lg (c.hide D) h1) (lg (c.hide D) h2) := (cst_but eI sI.weak2 hk2').lg
      rw [List.take_length] at ar
      exact hRR D C h2 tk2 m vs (but_kb k.new kb hk2) (areC (areC ar c12.cst) lg_hide_sub.cst2.cst) (hk2' D _ hDI hD1) hDs hCs hDC (hns.at' fun o e => hk2' C o hCI e) hms (hJs _ _ _ hJ c12)
  exact codeAny_compStart_list (loop _ rfl) (k.W.self 0 _ _ _ (k.W.frame _ _ _ k.st fun b _ o e => k01 b o e) (loop _ rfl))
abbrev tests (ifs : List Expr) (env : Env) : Sem Bool := forIn ifs true fun t r => if r = true then do let ok ← isTrue t env (eval t env); pure (ForInStep.yield ok) else pure (ForInStep.yield r)
theorem comp_any {elt iter : Expr} {ifs : List Expr} {x : Str} {px pos : Pos} {scope : Scope} {cl : List (Str × Addr)} {α β : Type} {R : α → VP} [∀ x, Mo (R x)] {S : β → VP} [∀ y, Mo (S y)] {xs : List α} {h h1 : Heap} {tk : Nat} {Q : Value → Shared → Prop} {E : Value → Shared → Prop}
    (hh : c.A.handled = none) (hit : Ev c env iter h (Itb c R xs)) (p : α → Bool) (f : α → β)
    (test : ∀ y u C D m h1, y ∈ xs → R y u h1 → Kept h h1 → h1.Ns C m → m x = some u → Pu (c.hide D) (tests ifs (compEnvC scope cl C env)) h1 fun b _ => b = p y)
    (elem : ∀ y u C D m h1, y ∈ xs → p y = true → R y u h1 → Kept h h1 → h1.Ns C m → m x = some u → Ev (c.hide D) (compEnvC scope cl C env) elt h1 (S (f y)))
    (hclos : closureFor scope env = pure cl) (hcell : ∀ y ∈ scope.names, y.2 ≠ .cell) (hkind : scope.kind = .function) (hnames : ∀ y ∈ scope.names, y.2 = .local → scope.names.lookup y.1 = some .local) (hx : scope.names.lookup x = some .local) (hxs : x ≠ slotsKey) (hsz : xs.length ≤ sizeLine)
    (hs : ∀ x, foldedSetIterable iter env x = pure x) (l : Lt c h h1) (use : Option (Value → Sem Unit))
    (fin : ∀ D C h2 tk2 m, Kept h1 h2 → isL S ((xs.filter p).map f) (.ref D) (lg c h2) → h1.get? C = none → h2.Ns C m → m slotsKey = none → compPost c.M c.A E use Q (.ref D) C (.ok .next) (c.sh h2 tk2)) :
    wpAny c.M c.A (comprehension (.ListComp elt [⟨.Name x px, iter, ifs, 0⟩] scope pos) scope env (firstIterPos [⟨.Name x px, iter, ifs, 0⟩] pos) (newList []) false (eval iter env) use) Q E (c.sh h1 tk) := by
  refine wpAny_comprehension_free (use := use) rfl hs hclos hkind hnames (hit h1 tk _ E l fun xv hv tkv kv itb => ?_)
  have lv := l.trans kv
  refine itb (c.sh hv tkv) c.A _ E hh lv.lg fun I ha fp Pi St k => ?_
  have base : ∀ {h' : Heap} {C D : Addr}, hv.get? D = none → Kept hv h' → Kept h (lg (c.hide D) h') := fun hd kk b o e => lg_get (kk _ _ (lg_sub _ _ (lv.keep b o e))) fun q => by
    rcases List.mem_cons.mp q with rfl | q
    · have := lg_sub _ _ (lv.keep b o e); rw [hd] at this; cases this
    · exact lg_not (lv.keep b o e) q
  refine comp_block (S := S) k (fun y hy => lv.old y hy) hcell hkind hx hxs hsz (fun _ => False) (fun _ w => w.elim) (fun _ _ w => w) (fun _ _ => True) (fun _ _ _ => trivial) (fun _ _ _ _ _ => trivial) (fun y v g g' q cc => Mo.mo q cc.stay) p f ?_ (fun _ _ _ _ _ _ => trivial) ?_ ?_
  · intro i y u C D m h3 hy hr _ hn hm hC hD hDC kb lt3
    have k3 : Kept hv h3 := fun b o e => kb b o e id
    refine test y u C D m _ (List.mem_of_getElem? hy) hr (base (C := C) hD k3) (hn.at' fun o e => lg_get e fun q => ?_) hm
    rcases List.mem_cons.mp q with q | q
    · exact hDC q
    · obtain ⟨o', e'⟩ := lv.old C q; rw [hC] at e'; cases e'
  · intro i y u C D m h3 hy hp hr _ hn hm hC hD hDC kb lt3 tk3 Q3 E3 hq3
    have k3 : Kept hv h3 := fun b o e => kb b o e id
    refine elem y u C D m _ (List.mem_of_getElem? hy) hp hr (base (C := C) hD k3) (hn.at' fun o e => lg_get e fun q => ?_) hm h3 tk3 _ _ lt3 fun v h4 tk4 k4 s4 => hq3 v h4 tk4 k4.kb k4.lg.cst2.cst s4 trivial
    rcases List.mem_cons.mp q with q | q
    · exact hDC q
    · obtain ⟨o', e'⟩ := lv.old C q; rw [hC] at e'; cases e'
  · intro D C h' tk' m vs kb ar hD hDs hCs hDC hn hms _
    have k' : Kept hv h' := fun b o e => kb b o e id
    refine fin D C h' tk' m (kv.trans k') ⟨D, vs, _, rfl, lg_get hD fun q => ?_, ar⟩ ?_ hn hms
    · obtain ⟨o', e'⟩ := lv.old D q; rw [hDs] at e'; cases e'
    · cases q : h1.get? C with
      | none => rfl
      | some o => have := kv _ _ q; rw [hCs] at this; cases this
theorem tests_nil {h : Heap} : Pu c (tests [] env) h fun b _ => b = true := Pu.mk fun h1 tk Q E l hq => wpAny_tests_nil (hq true h1 tk (Kept.refl _) rfl)
theorem tests_one {h : Heap} {t : Expr} {z : Bool} (x : Tst c env t h z) : Pu c (tests [t] env) h fun b _ => b = z := Pu.mk fun h1 tk Q E l hq => wpAny_tests_one (x h1 tk _ E l fun b h2 tk2 k2 e => hq b h2 tk2 k2 e)
theorem Ev.compT {elt iter : Expr} {ifs : List Expr} {x : Str} {px pos : Pos} {scope : Scope} {cl : List (Str × Addr)} {α β : Type} {R : α → VP} [∀ x, Mo (R x)] {S : β → VP} [∀ y, Mo (S y)] {xs : List α} {h : Heap}
    (hh : c.A.handled = none) (hit : Ev c env iter h (Itb c R xs)) (p : α → Bool) (f : α → β)
    (test : ∀ y u C D m h1, y ∈ xs → R y u h1 → Kept h h1 → h1.Ns C m → m x = some u → Pu (c.hide D) (tests ifs (compEnvC scope cl C env)) h1 fun b _ => b = p y)
    (elem : ∀ y u C D m h1, y ∈ xs → p y = true → R y u h1 → Kept h h1 → h1.Ns C m → m x = some u → Ev (c.hide D) (compEnvC scope cl C env) elt h1 (S (f y)))
    (hsz : xs.length ≤ sizeLine) (hclos : closureFor scope env = pure cl) (hcell : ∀ y ∈ scope.names, y.2 ≠ .cell := by decide) (hkind : scope.kind = .function := by rfl) (hnames : ∀ y ∈ scope.names, y.2 = .local → scope.names.lookup y.1 = some .local := by decide) (hx : scope.names.lookup x = some .local := by rfl) (hxs : x ≠ slotsKey := by decide)
    (hs : ∀ x, foldedSetIterable iter env x = pure x := by intro _; rfl) : Ev c env (.ListComp elt [⟨.Name x px, iter, ifs, 0⟩] scope pos) h (isL S ((xs.filter p).map f)) := Pu.mk fun h1 tk Q E l hq => by
  rw [eval_ListComp]
  refine comp_any hh hit p f test elem hclos hcell hkind hnames hx hxs hsz hs l none fun D C h2 tk2 m k hv hC hn hms => ⟨m, hn, fun h' hs' => ?_⟩
  obtain ⟨oC, eC, wC⟩ := ns_weak hn hms
  exact hq _ h' tk2 (fun b o e => hs'.extBut b o (fun q => by
    have q' : b = C := q
    rw [q', hC] at e; cases e) (k b o e)) (Mo.mo hv (cst_but eC wC fun b o q e => hs'.extBut b o q e).lg.cst.stay)
theorem filter_tt {α : Type} (xs : List α) : xs.filter (fun _ => true) = xs := List.filter_eq_self.mpr fun _ _ => rfl
theorem Ev.comp {elt iter : Expr} {x : Str} {px pos : Pos} {scope : Scope} {cl : List (Str × Addr)} {α β : Type} {R : α → VP} [∀ x, Mo (R x)] {S : β → VP} [∀ y, Mo (S y)] {xs : List α} {h : Heap}
    (hh : c.A.handled = none) (hit : Ev c env iter h (Itb c R xs)) (f : α → β)
    (elem : ∀ y u C D m h1, y ∈ xs → R y u h1 → Kept h h1 → h1.Ns C m → m x = some u → Ev (c.hide D) (compEnvC scope cl C env) elt h1 (S (f y)))
    (hsz : xs.length ≤ sizeLine) (hclos : closureFor scope env = pure cl) (hcell : ∀ y ∈ scope.names, y.2 ≠ .cell := by decide) (hkind : scope.kind = .function := by rfl) (hnames : ∀ y ∈ scope.names, y.2 = .local → scope.names.lookup y.1 = some .local := by decide) (hx : scope.names.lookup x = some .local := by rfl) (hxs : x ≠ slotsKey := by decide)
    (hs : ∀ x, foldedSetIterable iter env x = pure x := by intro _; rfl) : Ev c env (.ListComp elt [⟨.Name x px, iter, [], 0⟩] scope pos) h (isL S (xs.map f)) := by
  have := Ev.compT (pos := pos) (px := px) hh hit (fun _ => true) f (fun _ _ _ _ _ _ _ _ _ _ _ => tests_nil) (fun y u C D m h1 hy _ => elem y u C D m h1 hy) hsz hclos hcell hkind hnames hx hxs hs
  rwa [filter_tt] at this
/-- y = [elt for x in iter if ..] -/
theorem Ex.assignComp {h0 h : Heap} {V : Vs} {N : Heap → Prop} {P : VP} {rest : List Stmt} {elt iter : Expr} {ifs : List Expr} {x y : Str} {px py pos spos : Pos} {scope : Scope} {cl : List (Str × Addr)} {α β : Type} {R : α → VP} [∀ x, Mo (R x)] {S : β → VP} [∀ y, Mo (S y)] {xs : List α}
    (F : Fx c h0 env h V) (hh : c.A.handled = none) (hit : Ev c env iter (lg c h) (Itb c R xs)) (p : α → Bool) (f : α → β)
    (test : ∀ y u C D m h1, y ∈ xs → R y u h1 → Kept (lg c h) h1 → h1.Ns C m → m x = some u → Pu (c.hide D) (tests ifs (compEnvC scope cl C env)) h1 fun b _ => b = p y)
    (elem : ∀ y u C D m h1, y ∈ xs → p y = true → R y u h1 → Kept (lg c h) h1 → h1.Ns C m → m x = some u → Ev (c.hide D) (compEnvC scope cl C env) elt h1 (S (f y)))
    (hsz : xs.length ≤ sizeLine) (hclos : closureFor scope env = pure cl) (hr : ∀ v h', Fx c h0 env h' (upd V y v) → KB (Wr env) h h' → Stay (lg c h) (lg c h') → isL S ((xs.filter p).map f) v (lg c h') → Ex c env h0 rest h' N P)
    (hcell : ∀ y ∈ scope.names, y.2 ≠ .cell := by decide) (hkind : scope.kind = .function := by rfl) (hnames : ∀ y ∈ scope.names, y.2 = .local → scope.names.lookup y.1 = some .local := by decide) (hx : scope.names.lookup x = some .local := by rfl) (hxs : x ≠ slotsKey := by decide)
    (hk : env.kindOf y = some .local ∨ (env.kindOf y = some .cell ∧ (env.cells.lookup y).isSome = true) := by exact own_of (by rfl))
    (hsw : swapsWith (.ListComp elt [⟨.Name x px, iter, ifs, 0⟩] scope pos) (some (.Name y py)) spos.line env = pure true := by with_unfolding_all rfl)
    (hs : ∀ x, foldedSetIterable iter env x = pure x := by intro _; rfl) : Ex c env h0 (.Assign [.Name y py] (.ListComp elt [⟨.Name x px, iter, ifs, 0⟩] scope pos) spos :: rest) h N P :=
  Ex.cons fun tk Q E hn _ => by
    rw [exec_Assign_Name_used _ _ _ _ hsw]
    refine wpAny_bind (wpAny_standAt (wpAny_bind ?_))
    show wpAny _ c.A (do let _ ← comprehension (.ListComp elt [⟨.Name x px, iter, ifs, 0⟩] scope pos) scope env _ (newList []) false (eval iter env) (some (PySem.assign (.Name y py) env))) _ _ _
    refine wpAny_bind (wpAny_mono (comp_any (Q := fun _ s' => Q .next s') hh hit p f test elem hclos hcell hkind hnames hx hxs hsz hs F.lt (some (PySem.assign (.Name y py) env)) fun D C h2 tk2 m k hv hC hns hms => ?_) (fun _ s' hq => wpAny_pure (wpAny_pure hq)) fun _ _ e => e)
    have F2 := F.at k
    refine wpAny_assign_Name (F2.toFm.store (s := c.sh h2 tk2) hk fun h3 tk3 F3 kb3 => ?_)
    have hCw : ¬ Wr env C := fun w => by obtain ⟨o, e, _⟩ := F.toFm.wrObj w; rw [hC] at e; cases e
    have hns3 : h3.Ns C m := hns.at' fun o e => kb3 C o e hCw
    refine ⟨m, hns3, fun h' hs' => ?_⟩
    obtain ⟨oC, eC, wC⟩ := ns_weak hns3 hms
    have hb : ∀ b o, b ∉ [C] → h3.get? b = some o → h'.get? b = some o := fun b o q e => hs'.extBut b o (fun z => q (List.mem_singleton.mpr z)) e
    have s3 : Stay (lg c h3) (lg c h') := (cst_but eC wC fun b o q e => hs'.extBut b o q e).lg.cst.stay
    have kb' : KB (Wr env) h h' := but_kb hC (k.kb.trans kb3) hb
    exact hn h' tk3 (hr _ h' (F.next (F.toFm.but F3 hC hb) kb') kb' (F.stay kb') (Mo.mo hv ((F2.stay kb3).trans s3)))
end
end Mine
end

section
-- PL7
open PySem PySem.W PyProof.Rows PySem.Spec PySem.Calls
set_option maxRecDepth 100000
namespace Mine
section
variable {c : Cx} {env : Env} {h : Heap} {P P1 P2 : VP} {pos : Pos}
theorem Ev.itL {α : Type} {R : α → VP} [∀ x, Mo (R x)] {xs : List α} {e : Expr} (x : Ev c env e h (isL R xs)) : Ev c env e h (Itb c R xs) := x.mono fun _ _ _ y => y.itL
theorem Ev.itT {α : Type} {R : α → VP} [∀ x, Mo (R x)] {xs : List α} {e : Expr} (x : Ev c env e h (isT R xs)) : Ev c env e h (Itb c R xs) := x.mono fun _ _ _ y => y.itT
theorem alloc_is {o : Obj} {h1 h2 : Heap} {a : Addr} (l : Lt c h h1) (hf : o.isFreed = false) : (lg c (h1.push o)).get? h1.objs.size = some o := lg_get (Heap.get?_push_size _ hf) (l.new (Heap.get?_none_of_le (Nat.le_refl _)))
/-! ranges -/
theorem b_range1 {n : Nat} {vs : List Value} (hn : n ≤ 2 ^ 24) (a : AllP [isI (n : Int)] vs h) : Pu c (call (.type "range") vs) h (isR 0 n 1 n) := by
  obtain ⟨u, rfl, ⟨t, rfl⟩⟩ := a.one
  refine Pu.mk fun h1 tk Q E l hq => ?_
  refine call_range_1 (s := c.sh h1 tk) (hq _ _ (tk + 1 + 1) (Kept.push _ _) ⟨_, _, _, _, rfl, alloc_is (h2 := h1) (a := 0) l rfl, small_one (by omega) (by omega) (by omega) (by omega), ?_⟩)
  rw [rangeSize_one]; split <;> omega
theorem Ev.range {fe a : Expr} {n : Nat} (hf : Ev c env fe h (isV (.type "range"))) (ha : Ev c env a h (isI (n : Int))) (hn : n ≤ 2 ^ 24) (hs : starEach [a] env = (false, eval a env) :: starEach [] env := by rfl) (hplain : (backTo pos (starEach ([] : List Expr) env)).any (·.1) = false := by rfl)
    (he : eval (.Call fe [a] [] pos) env = (do callWith pos (← eval fe env) [] (backTo pos (starEach [a] env)) (backToKw pos (keywordEach [] env))) := by rfl) : Ev c env (.Call fe [a] [] pos) h (isR 0 n 1 n) :=
  Ev.callT hf (EA.cons ha EA.nil hs) (fun vs h' _ p => b_range1 hn p) hs hplain he
theorem Ev.itR {a b d : Int} {n : Nat} {e : Expr} (x : Ev c env e h (isR a b d n)) : Ev c env e h (Itb c isI (rangeL a d n)) := x.mono fun _ _ _ y => y.it
theorem rangeL_one (n : Nat) : rangeL 0 1 n = (List.range n).map fun i : Nat => (i : Int) := by unfold rangeL; simp
theorem rangeL_at {a d : Int} {n i : Nat} {y : Int} (h : (rangeL a d n)[i]? = some y) : i < n ∧ y = a + i * d := by
  unfold rangeL at h
  rw [List.getElem?_map, Option.map_eq_some_iff] at h
  obtain ⟨j, hj, rfl⟩ := h
  obtain ⟨hl, e⟩ := List.getElem?_eq_some_iff.mp hj
  rw [List.getElem_range] at e
  rw [List.length_range] at hl
  exact ⟨hl, by rw [e]⟩
theorem rangeL_mem {a d : Int} {n : Nat} {y : Int} (h : y ∈ rangeL a d n) : ∃ i : Nat, i < n ∧ y = a + i * d := by
  obtain ⟨i, hi⟩ := List.getElem?_of_mem h
  exact ⟨i, rangeL_at hi⟩
theorem rangeL_len {a d : Int} {n : Nat} : (rangeL a d n).length = n := by unfold rangeL; simp
/-! slices -/
def pick {α : Type} (xs : List α) (lo hi st : Option Int) : List α := (sliceRange (sliceBounds lo hi st xs.length).1 (sliceBounds lo hi st xs.length).2.1 (sliceBounds lo hi st xs.length).2.2).filterMap (xs[·]?)
theorem Are.filterMap {α : Type} {R : α → VP} {xs : List α} {vs : List Value} (a : Are R xs vs h) : ∀ (is : List Nat), Are R (is.filterMap (xs[·]?)) (is.filterMap (vs[·]?)) h
  | [] => Are.nil
  | i :: is => by
    by_cases q : i < xs.length
    · have e1 : xs[i]? = some xs[i] := List.getElem?_eq_getElem q
      have q2 : i < vs.length := by rw [a.len]; exact q
      have e2 : vs[i]? = some vs[i] := List.getElem?_eq_getElem q2
      rw [List.filterMap_cons_some e1, List.filterMap_cons_some e2]
      exact Are.cons (a.at' i _ _ e1 e2) (Are.filterMap a is)
    · have e1 : xs[i]? = none := List.getElem?_eq_none (by omega)
      have e2 : vs[i]? = none := List.getElem?_eq_none (by rw [a.len]; omega)
      rw [List.filterMap_cons_none e1, List.filterMap_cons_none e2]
      exact Are.filterMap a is
/-- a part of a slice -/
inductive PartOf (c : Cx) (env : Env) (h : Heap) : Option Expr → Option Int → Prop
  | none : PartOf c env h none none
  | some {e : Expr} {z : Int} : Ev c env e h (isI z) → PartOf c env h (some e) (some z)
theorem PartOf.run {oe : Option Expr} {z : Option Int} (x : PartOf c env h oe z) : Pu c (evalPart oe env) h fun v _ => IsPart v z := by
  cases x with
  | none => exact Pu.mk fun h1 tk Q E l hq => wpAny_evalPart_none (hq _ h1 tk (Kept.refl _) .none)
  | some he => exact Pu.mk fun h1 tk Q E l hq => wpAny_evalPart_some (he h1 tk _ E l fun v h2 tk2 k2 ⟨t, e⟩ => hq v h2 tk2 k2 (e ▸ .int _ _))
theorem sliceTail {α : Type} {R : α → VP} [∀ x, Mo (R x)] {xs : List α} {o vl vu vst : Value} {lo hi st : Option Int} {hp h1 : Heap} {tk : Nat} {Q : Value → Shared → Prop} {E : Value → Shared → Prop} (l : Lt c h h1) (p : isL R xs o (lg c h1)) (pl : IsPart vl lo) (pu : IsPart vu hi) (ps : IsPart vst st) (h0 : st ≠ some 0) (hsz : xs.length ≤ sizeLine)
    (hq : ∀ v h2 tk2, Kept h1 h2 → isL R (pick xs lo hi st) v (lg c h2) → Q v (c.sh h2 tk2)) :
    (c.sh (h1.push { cls := .type "slice", data := .fields #[vl, vu, vst] }) tk).TypeIs o "list" ∧ wpAny c.M c.A (getItem o (.ref h1.objs.size)) Q E (c.sh (h1.push { cls := .type "slice", data := .fields #[vl, vu, vst] }) tk) := by
  obtain ⟨a, vs, rfl, hll, r⟩ := p.list
  have hl : h1.IsList a vs.toArray := let ⟨o, ho, q⟩ := hll; ⟨o, lg_sub _ _ ho, q⟩
  refine ⟨(hl.push _).typeIs (s := c.sh _ tk), wpAny_getItem_list_slice (s := c.sh _ tk) (hl.push _) (Heap.IsSliceOf.new ..) pl pu ps h0 ?_ (by rw [List.size_toArray, r.len]; exact hsz)⟩
  have l2 : Lt c h (h1.push { cls := .type "slice", data := .fields #[vl, vu, vst] }) := l.trans (Kept.push _ _)
  refine hq _ _ tk ((Kept.push _ _).trans (Kept.push _ _)) ⟨_, _, _, rfl, alloc_is (h2 := h1) (a := 0) l2 rfl, ?_⟩
  have := (r.filterMap (sliceRange (sliceBounds lo hi st xs.length).1 (sliceBounds lo hi st xs.length).2.1 (sliceBounds lo hi st xs.length).2.2)).stay (((Kept.push h1 { cls := .type "slice", data := .fields #[vl, vu, vst] }).trans (Kept.push _ { cls := .type "list", data := .seq (slicePick vs.toArray lo hi st) })).lg (c := c)).stay
  show Are R _ (List.filterMap (vs.toArray[·]?) _) _
  rw [List.size_toArray, r.len]
  have e : (fun i : Nat => vs.toArray[i]?) = fun i : Nat => vs[i]? := by funext i; simp
  rw [e]
  exact this
theorem Ev.slice {α : Type} {R : α → VP} [∀ x, Mo (R x)] {xs : List α} {value : Expr} {lower upper : Option Expr} {p : Pos} {lo hi : Option Int} (hv : Ev c env value h (isL R xs)) (hl : PartOf c env h lower lo) (hu : PartOf c env h upper hi) (hsz : xs.length ≤ sizeLine)
    (ht : ∀ o r, letTemporaryGo value o r = pure () := by intro _ _; rfl) : Ev c env (.Subscript value (.Slice lower upper none p) pos) h (isL R (pick xs lo hi none)) :=
  Pu.mk fun h1 tk Q E k hq => wpAny_Subscript_Slice (T := "list") list_getitem_lookup (hv h1 tk _ E k fun o h2 tk2 k2 pv => wpAny_Slice (hl.run h2 tk2 _ E (k.trans k2) fun vl h3 tk3 k3 pl => hu.run h3 tk3 _ E ((k.trans k2).trans k3) fun vu h4 tk4 k4 pu => by
    rw [evalPart_none]
    refine wpAny_pure ?_
    exact sliceTail (hp := h) (((k.trans k2).trans k3).trans k4) (Mo.mo pv (k3.trans k4).lg.stay) pl pu .none (by simp) hsz fun v h5 tk5 k5 q => hq v h5 tk5 (((k2.trans k3).trans k4).trans k5) q)) ht
theorem Ev.sliceS {α : Type} {R : α → VP} [∀ x, Mo (R x)] {xs : List α} {value st : Expr} {lower upper : Option Expr} {p : Pos} {lo hi : Option Int} {d : Int} (hv : Ev c env value h (isL R xs)) (hl : PartOf c env h lower lo) (hu : PartOf c env h upper hi) (hd : Ev c env st h (isI d)) (h0 : d ≠ 0) (hsz : xs.length ≤ sizeLine)
    (ht : ∀ o r, letTemporaryGo value o r = pure () := by intro _ _; rfl) : Ev c env (.Subscript value (.Slice lower upper (some st) p) pos) h (isL R (pick xs lo hi (some d))) :=
  Pu.mk fun h1 tk Q E k hq => wpAny_Subscript_Slice_step (T := "list") list_getitem_lookup (hv h1 tk _ E k fun o h2 tk2 k2 pv => wpAny_Slice (hl.run h2 tk2 _ E (k.trans k2) fun vl h3 tk3 k3 pl => hu.run h3 tk3 _ E ((k.trans k2).trans k3) fun vu h4 tk4 k4 pu =>
    (PartOf.some hd).run h4 tk4 _ E (((k.trans k2).trans k3).trans k4) fun vst h5 tk5 k5 ps =>
      sliceTail (hp := h) ((((k.trans k2).trans k3).trans k4).trans k5) (Mo.mo pv ((k3.trans k4).trans k5).lg.stay) pl pu ps (by simpa using h0) hsz fun v h6 tk6 k6 q => hq v h6 tk6 ((((k2.trans k3).trans k4).trans k5).trans k6) q)) ht
/-! + of lists -/
theorem Ev.addL {α : Type} {R : α → VP} [∀ x, Mo (R x)] {xs ys : List α} {l r : Expr} (hl : Ev c env l h (isL R xs)) (hr : Ev c env r h (isL R ys)) (hsz : xs.length + ys.length ≤ sizeLine) : Ev c env (.BinOp l .Add r pos) h (isL R (xs ++ ys)) :=
  Ev.bin hl hr fun a b h' k p q => Pu.mk fun h1 tk Q E lt hq => by
    obtain ⟨x, vs, n, rfl, ho, ra⟩ := p
    obtain ⟨y, ws, m, rfl, ho', rb⟩ := q
    refine PySem.P.add_list (s := c.sh h1 tk) (lt.top _ _ ho) (lt.top _ _ ho') (hq _ _ tk (Kept.push _ _) ⟨_, vs ++ ws, 0, rfl, ?_, ?_⟩) (by rw [List.size_toArray, List.size_toArray, ra.len, rb.len]; exact hsz)
    · rw [← List.append_toArray]; exact alloc_is (h2 := h1) (a := 0) lt rfl
    · exact ((ra.append rb).stay lt.keep.stay).stay (Kept.push _ _).lg.stay
/-! sum, min, max -/
theorem Are.ints {xs : List Int} {vs : List Value} (a : Are isI xs vs h) : ∃ ys : Array (Int × Tok), vs.toArray = intItems ys ∧ xs = ys.toList.map (·.1) := by
  suffices ∀ (vs : List Value) (xs : List Int), Are isI xs vs h → ∃ ys : List (Int × Tok), vs = ys.map (fun p => Value.int p.1 p.2) ∧ xs = ys.map (·.1) by
    obtain ⟨ys, e, e2⟩ := this vs xs a
    exact ⟨ys.toArray, by rw [e]; simp [intItems], by simpa using e2⟩
  intro vs
  induction vs with
  | nil => intro xs a; cases xs with
    | nil => exact ⟨[], rfl, rfl⟩
    | cons x xs => have := a.len; simp at this
  | cons v vs ih => intro xs a; cases xs with
    | nil => have := a.len; simp at this
    | cons x xs =>
      obtain ⟨v', vs', e, ⟨t, rfl⟩, r⟩ := a.uncons
      cases e
      obtain ⟨ys, e1, e2⟩ := ih xs r
      exact ⟨(x, t) :: ys, by rw [e1]; rfl, by rw [e2]; rfl⟩
theorem b_sum {xs : List Int} (hR : c.A.handled = none) {vs : List Value} (a : AllP [isL isI xs] vs h) : Pu c (call (.builtin "sum") vs) h (isI xs.sum) := by
  obtain ⟨u, rfl, p⟩ := a.one
  obtain ⟨l, ws, rfl, hl, r⟩ := p.list
  obtain ⟨ys, e1, e2⟩ := r.ints
  refine Pu.mk fun h1 tk Q E lt hq => ?_
  have hl' : h1.IsList l (intItems ys) := e1 ▸ (let ⟨o, ho, q⟩ := hl; ⟨o, lt.top _ _ ho, q⟩)
  refine sum_intListG (s := c.sh h1 tk) hR hl' fun h2 tk2 t' hk => hq _ h2 tk2 hk ⟨t', ?_⟩
  rw [preSum_eq, List.take_of_length_le (by simp), e2]
def minL (xs : List Int) : Int := match xs with | [] => 0 | x :: r => r.foldl min x
theorem foldl_min : ∀ (r : List Int) (x : Int), (r.foldl min x ∈ x :: r) ∧ ∀ y ∈ x :: r, r.foldl min x ≤ y
  | [], x => by simp
  | z :: r, x => by
    obtain ⟨h1, h2⟩ := foldl_min r (min x z)
    rw [List.foldl_cons]
    refine ⟨?_, fun y hy => ?_⟩
    · rcases List.mem_cons.mp h1 with e | e
      · rw [e]
        rcases Int.le_total x z with q | q
        · rw [Int.min_eq_left q]; simp
        · rw [Int.min_eq_right q]; simp
      · simp [e]
    · have := h2 (min x z) (by simp)
      rcases List.mem_cons.mp hy with rfl | hy
      · omega
      · rcases List.mem_cons.mp hy with rfl | hy
        · omega
        · exact h2 y (by simp [hy])
theorem minL_is {xs : List Int} {M : Int} (h1 : M ∈ xs) (h2 : ∀ y ∈ xs, M ≤ y) : M = minL xs := by
  cases xs with
  | nil => simp at h1
  | cons x r => obtain ⟨a, b⟩ := foldl_min r x; have := h2 _ a; have := b _ h1; show M = r.foldl min x; omega
theorem b_min {xs : List Int} (hR : c.A.handled = none) (hne : 0 < xs.length) {vs : List Value} (a : AllP [isL isI xs] vs h) : Pu c (call (.builtin "min") vs) h (isI (minL xs)) := by
  obtain ⟨u, rfl, p⟩ := a.one
  obtain ⟨l, ws, rfl, hl, r⟩ := p.list
  obtain ⟨ys, e1, e2⟩ := r.ints
  refine Pu.mk fun h1 tk Q E lt hq => ?_
  have hl' : h1.IsList l (intItems ys) := e1 ▸ (let ⟨o, ho, q⟩ := hl; ⟨o, lt.top _ _ ho, q⟩)
  have hsz : 0 < ys.size := by rw [e2] at hne; simpa using hne
  refine min_intList (s := c.sh h1 tk) hR hl' hsz fun v h2 tk2 hv hk => hq _ h2 tk2 hk ?_
  obtain ⟨t, rfl⟩ := intItems_at hv
  obtain ⟨q1, q2⟩ := argBest_lt (numAt ys) (ys.size - 1)
  refine ⟨t, ?_⟩
  congr 1
  refine minL_is ?_ fun y hy => ?_
  · rw [e2, numAt_eq]; exact getD_mem (by rw [List.length_map, Array.length_toList]; omega)
  · rw [e2] at hy
    obtain ⟨j, hj, rfl⟩ := mem_getD hy
    rw [List.length_map, Array.length_toList] at hj
    rw [← numAt_eq]; exact q2 j (by omega)
end
end Mine
end

section
-- PL8
open PySem PySem.W PyProof.Rows PySem.Spec PySem.Calls
set_option maxRecDepth 100000
namespace Mine
section
variable {c : Cx} {env : Env} {h : Heap} {P P1 P2 : VP} {pos : Pos} {K : Frag} {p : Program} {loose : List Str} {mean : ExcName → Option Value} {mg mb : Str → Option Value}
/-- the written part, but for the tables tb, which may grow -/
def InBut (K : Frag) (tb : List Addr) (h : Heap) : Prop := ∀ a o, K.lookup a = some o → tb.contains a = false → h.get? a = some o
theorem mg_ofB {K : Frag} {tb : List Addr} {h : Heap} {mg : Str → Option Value} {n : Str} {v : Value} (X : InBut K tb h) (G : h.Ns mainGlobals mg) (ht : tb.contains mainGlobals = false) (e : nsIn K mainGlobals n = some (some v)) : mg n = some v := by
  obtain ⟨o, es, ep, ho, hd, _, hf⟩ := G
  unfold nsIn at e
  split at e
  · rename_i c d es' n' sl q
    have := X _ _ q ht
    rw [ho] at this
    cases this
    cases hd
    split at e
    · rename_i en he
      cases e
      rw [← hf]
      unfold nsFind findBy
      rw [← Array.find?_toList, he]
      rfl
    · split at e <;> cases e
  · cases e
theorem mg_none_ofB {K : Frag} {tb : List Addr} {h : Heap} {mg : Str → Option Value} {n : Str} (X : InBut K tb h) (G : h.Ns mainGlobals mg) (ht : tb.contains mainGlobals = false) (e : nsIn K mainGlobals n = some none) : mg n = none := by
  obtain ⟨o, es, ep, ho, hd, _, hf⟩ := G
  unfold nsIn at e
  split at e
  · rename_i c d es' n' sl q
    have := X _ _ q ht
    rw [ho] at this
    cases this
    cases hd
    split at e
    · cases e
    · rename_i he
      rw [← hf]
      unfold nsFind findBy
      rw [← Array.find?_toList, he]
      rfl
  · cases e
/-- the program's part of a heap -/
structure Pg (K : Frag) (tb : List Addr) (mg mb : Str → Option Value) (h : Heap) : Prop where
  X : InBut K tb h
  nb : tb.contains mainGlobals = false
  g : h.Ns mainGlobals mg
  b : h.Ns builtinsNs mb
  lim : h.NoLimit
  bt : ∀ x : Str, x ≠ "__name__" → mb x = bootBuiltins x
theorem Pg.at {h' : Heap} {tb : List Addr} (g : Pg K tb mg mb h) (k : Kept h h') : Pg K tb mg mb h' := ⟨fun a o e q => k _ _ (g.X a o e q), g.nb, g.g.keeps k, g.b.keeps k, g.lim.keeps k, g.bt⟩
theorem Pg.code {tb : List Addr} (g : Pg K tb mg mb h) {c : Addr} {q : Str} (ht : tb.contains c = false) (e : codeIn K (.ref c) q = true) : h.CodeRec (.ref c) q := by
  unfold codeIn at e
  dsimp only at e
  split at e
  · rename_i vs _ ho
    split at e
    · rename_i a n t r hv
      exact ⟨_, _, vs, t, rfl, g.X _ _ ho ht, rfl, by rw [← Array.getElem?_toList, hv, ← beq_iff_eq.mp e]; rfl⟩
    · cases e
  · cases e
theorem Pg.gl {tb : List Addr} (g : Pg K tb mg mb h) {x : Str} {v : Value} (e : nsIn K mainGlobals x = some (some v)) (hg : env.globals = mainGlobals := by rfl) (hk : env.scope.kind = .function := by rfl) (hl : env.kindOf x = some .globalImplicit := by rfl)
    (hd : (x == ("__debug__" : Str)) = false := by decide) : Ev c env (.Name x pos) h (isV v) := Ev.glob (show h.Ns env.globals mg from hg ▸ g.g) (mg_ofB g.X g.g g.nb e) hk hl hd
theorem Pg.bi {tb : List Addr} (g : Pg K tb mg mb h) {x : Str} {v : Value} (e : nsIn K mainGlobals x = some none) (hv : bootBuiltins x = some v) (hn : x ≠ "__name__" := by decide) (hg : env.globals = mainGlobals := by rfl) (hb : env.builtins = builtinsNs := by rfl) (hk : env.scope.kind = .function := by rfl) (hl : env.kindOf x = some .globalImplicit := by rfl)
    (hd : (x == ("__debug__" : Str)) = false := by decide) : Ev c env (.Name x pos) h (isV v) :=
  Ev.built (show h.Ns env.globals mg from hg ▸ g.g) (mg_none_ofB g.X g.g g.nb e) (show h.Ns env.builtins mb from hb ▸ g.b) ((g.bt x hn).trans hv) hk hl hd
/-- a name of the def's own that a comprehension closes over -/
theorem Fx.varC [Mo P] {h0 h1 : Heap} {V : Vs} {scope : Scope} {cl : List (Str × Addr)} {C D a : Addr} {x : Str} {v : Value} (F : Fx c h0 env h V) (hv : V x = some v) (hp : P v (lg c h)) (k : Kept (lg c h) h1) (ha' : env.cells.lookup x = some a) (ha : (compEnvC scope cl C env).cells.lookup x = some a)
    (hk : (compEnvC scope cl C env).scope.kind = .function := by rfl) (hl : (compEnvC scope cl C env).kindOf x = some .cell := by rfl) (hd : (x == ("__debug__" : Str)) = false := by decide) : Ev (c.hide D) (compEnvC scope cl C env) (.Name x pos) h1 P := by
  obtain ⟨o, eo, hd'⟩ := hv ▸ F.cell x a ha'
  exact Ev.cell ⟨o, k _ _ (lg_get eo (F.noX (.inr ⟨x, ha'⟩))), hd'⟩ (fun h' k' => Mo.mo hp (k.trans k').stay) ha hk hl hd
theorem Ev.own [Mo P] {scope : Scope} {cl : List (Str × Addr)} {C : Addr} {m : Vs} {x : Str} {v : Value} (hn : h.Ns C m) (hv : m x = some v) (hp : P v h) (hk : (compEnvC scope cl C env).scope.kind = .function := by rfl) (hl : (compEnvC scope cl C env).kindOf x = some .local := by rfl)
    (hd : (x == ("__debug__" : Str)) = false := by decide) : Ev c (compEnvC scope cl C env) (.Name x pos) h P := Ev.loc (env := compEnvC scope cl C env) hn hv (fun h' k => Mo.mo hp k.stay) hk hl hd
theorem Ex.assignComp0 {h0 h : Heap} {V : Vs} {N : Heap → Prop} {P : VP} {rest : List Stmt} {elt iter : Expr} {x y : Str} {px py pos spos : Pos} {scope : Scope} {cl : List (Str × Addr)} {α β : Type} {R : α → VP} [∀ x, Mo (R x)] {S : β → VP} [∀ y, Mo (S y)] {xs : List α}
    (F : Fx c h0 env h V) (hh : c.A.handled = none) (hit : Ev c env iter (lg c h) (Itb c R xs)) (f : α → β)
    (elem : ∀ y u C D m h1, y ∈ xs → R y u h1 → Kept (lg c h) h1 → h1.Ns C m → m x = some u → Ev (c.hide D) (compEnvC scope cl C env) elt h1 (S (f y)))
    (hsz : xs.length ≤ sizeLine) (hclos : closureFor scope env = pure cl) (hr : ∀ v h', Fx c h0 env h' (upd V y v) → KB (Wr env) h h' → Stay (lg c h) (lg c h') → isL S (xs.map f) v (lg c h') → Ex c env h0 rest h' N P)
    (hcell : ∀ y ∈ scope.names, y.2 ≠ .cell := by decide) (hkind : scope.kind = .function := by rfl) (hnames : ∀ y ∈ scope.names, y.2 = .local → scope.names.lookup y.1 = some .local := by decide) (hx : scope.names.lookup x = some .local := by rfl) (hxs : x ≠ slotsKey := by decide)
    (hk : env.kindOf y = some .local ∨ (env.kindOf y = some .cell ∧ (env.cells.lookup y).isSome = true) := by exact own_of (by rfl))
    (hsw : swapsWith (.ListComp elt [⟨.Name x px, iter, [], 0⟩] scope pos) (some (.Name y py)) spos.line env = pure true := by with_unfolding_all rfl)
    (hs : ∀ x, foldedSetIterable iter env x = pure x := by intro _; rfl) : Ex c env h0 (.Assign [.Name y py] (.ListComp elt [⟨.Name x px, iter, [], 0⟩] scope pos) spos :: rest) h N P :=
  Ex.assignComp F hh hit (fun _ => true) f (fun _ _ _ _ _ _ _ _ _ _ _ => tests_nil) (fun y u C D m h1 hy _ => elem y u C D m h1 hy) hsz hclos (fun v h' F' kb st p => hr v h' F' kb st (by rwa [filter_tt] at p)) hcell hkind hnames hx hxs hk hsw hs
theorem ExtNew.kept {h h' : Heap} (x : Heap.ExtBut h.objs.size h h') : Kept h h' := fun b o e => x b o (Nat.ne_of_lt (Heap.lt_size e)) e
/-- storing one after the other -/
theorem Fx.store {h0 h : Heap} {V : Vs} {x : Str} {px : Pos} {v : Value} {tk : Nat} {Q : Unit → Shared → Prop} {E : Value → Shared → Prop} (F : Fx c h0 env h V) (hq : ∀ h' tk', Fx c h0 env h' (upd V x v) → KB (Wr env) h h' → Stay (lg c h) (lg c h') → Q () (c.sh h' tk'))
    (hk : env.kindOf x = some .local ∨ (env.kindOf x = some .cell ∧ (env.cells.lookup x).isSome = true) := by exact own_of (by rfl)) : wpAny c.M c.A (assign (.Name x px) env v) Q E (c.sh h tk) :=
  wpAny_assign_Name (F.toFm.store (s := c.sh h tk) hk fun h' tk' F' kb => hq h' tk' (F.next F' kb) kb (F.stay kb))
theorem Ex.assign3 {h0 h : Heap} {V : Vs} {N : Heap → Prop} {rest : List Stmt} {x y z : Str} {px py pz p1 p2 : Pos} {k : Nat} {e : Expr} {a b d : Int} (F : Fx c h0 env h V) (hh : c.A.handled = none) (he : Ev c env e (lg c h) (isT isI [a, b, d]))
    (hr : ∀ va vb vd h', Fx c h0 env h' (upd (upd (upd V x va) y vb) z vd) → KB (Wr env) h h' → Stay (lg c h) (lg c h') → isI a va h' → isI b vb h' → isI d vd h' → Ex c env h0 rest h' N P)
    (hx : env.kindOf x = some .local := by rfl) (hy : env.kindOf y = some .local := by rfl) (hz : env.kindOf z = some .local := by rfl)
    (hs : swapsWithSole [.Tuple [.Name x px, .Name y py, .Name z pz] k p1] e p2.line env = pure false := by rfl) (hw : swappedStores [.Tuple [.Name x px, .Name y py, .Name z pz] k p1] e env = pure none := by rfl) :
    Ex c env h0 (.Assign [.Tuple [.Name x px, .Name y py, .Name z pz] k p1] e p2 :: rest) h N P :=
  Ex.cons fun tk Q E hn _ => Assign_Tuple (he h tk _ E F.lt fun v h1 tk1 k1 q => by
    obtain ⟨t, vs, rfl, hl, r⟩ := isS.tup q
    obtain ⟨va, vs1, rfl, ia, r⟩ := r.uncons
    obtain ⟨vb, vs2, rfl, ib, r⟩ := r.uncons
    obtain ⟨vd, vs3, rfl, id', r⟩ := r.uncons
    obtain rfl : vs3 = [] := List.length_eq_zero_iff.mp r.len
    have hl1 : h1.IsTuple t #[va, vb, vd] := let ⟨o, ho, q⟩ := hl; ⟨o, lg_sub _ _ ho, q⟩
    refine wpAny_assign_Tuple (s := c.sh h1 tk1) hh hl1 rfl rfl fun h2 x2 => ?_
    have k2 : Kept h1 h2 := ExtNew.kept x2
    have F2 := F.at (k1.trans k2)
    refine wpAny_assignInOrder_more (F2.store (hk := .inl hx) fun h3 tk3 F3 kb3 s3 => wpAny_assignInOrder_more (F3.store (hk := .inl hy) fun h4 tk4 F4 kb4 s4 => wpAny_assignInOrder_more (F4.store (hk := .inl hz) fun h5 tk5 F5 kb5 s5 => wpAny_assignInOrder_none ?_)))
    refine hn h5 tk5 (hr va vb vd h5 F5 ?_ ?_ ia ib id')
    · exact (((k1.trans k2).kb.trans kb3).trans kb4).trans kb5
    · exact (((k1.trans k2).lg.stay.trans s3).trans s4).trans s5) hs hw
theorem Pu.toI {t : Sem Value} {x y : Int} (a : Pu c t h (isI x)) (e : x = y) : Pu c t h (isI y) := e ▸ a
end
end Mine
end

section
-- J
namespace Mine
theorem snocInd {α : Type} {P : List α → Prop} (h0 : P []) (h1 : ∀ l a, P l → P (l ++ [a])) : ∀ l, P l := by
  have h : ∀ l : List α, P l.reverse := by
    intro l
    induction l with
    | nil => exact h0
    | cons a l ih => rw [List.reverse_cons]; exact h1 _ _ ih
  intro l
  have := h l.reverse
  rwa [List.reverse_reverse] at this
/-- a job's three times -/
structure Job where
  a : Int
  b : Int
  c : Int
def Job.p (j : Job) : Int := j.a + j.b
def Job.q (j : Job) : Int := j.b + j.c
/-- one ahead of the other: below nought -/
def Job.rule (x y : Job) : Int :=
  if x.p < x.q then (if y.p < y.q then x.p - y.p else -7) else (if y.p < y.q then 7 else y.q - x.q)
def step3 (e : Int × Int × Int) (j : Job) : Int × Int × Int :=
  (e.1 + j.a, max e.2.1 (e.1 + j.a) + j.b, max e.2.2 (max e.2.1 (e.1 + j.a) + j.b) + j.c)
def mk3 (js : List Job) : Int × Int × Int := js.foldl step3 (0, 0, 0)
def mk (js : List Job) : Int := (mk3 js).2.2
def sumBy (f : Job → Int) (js : List Job) : Int := (js.map f).sum
theorem sumBy_append (f : Job → Int) (x y : List Job) : sumBy f (x ++ y) = sumBy f x + sumBy f y := by simp [sumBy]
theorem sumBy_cons (f : Job → Int) (j : Job) (x : List Job) : sumBy f (j :: x) = f j + sumBy f x := by simp [sumBy]
theorem sumBy_nil (f : Job → Int) : sumBy f [] = 0 := rfl
theorem sumBy_perm (f : Job → Int) {x y : List Job} (h : x.Perm y) : sumBy f x = sumBy f y := by
  induction h with
  | nil => rfl
  | cons a _ ih => rw [sumBy_cons, sumBy_cons, ih]
  | swap a b l => simp only [sumBy_cons]; omega
  | trans _ _ h1 h2 => rw [h1, h2]
theorem sumBy_le {f g : Job → Int} {x : List Job} (h : ∀ j ∈ x, f j ≤ g j) : sumBy f x ≤ sumBy g x := by
  induction x with
  | nil => exact Int.le_refl _
  | cons a l ih =>
    rw [sumBy_cons, sumBy_cons]
    have h1 := h a (List.mem_cons_self ..)
    have h2 := ih fun j hj => h j (List.mem_cons_of_mem _ hj)
    omega
theorem mk3_snoc (js : List Job) (j : Job) : mk3 (js ++ [j]) = step3 (mk3 js) j := by simp [mk3]
theorem mk3_first (js : List Job) : (mk3 js).1 = sumBy Job.a js := by
  refine snocInd (P := fun js => (mk3 js).1 = sumBy Job.a js) rfl ?_ js
  intro l j ih
  rw [mk3_snoc, sumBy_append, sumBy_cons, sumBy_nil]
  show (mk3 l).1 + j.a = _
  rw [ih]; omega
/-- the second bench takes no longer than the others: no time on it is above any on the first, or any on the third -/
def Dom (js : List Job) : Prop := (∀ x ∈ js, ∀ y ∈ js, x.b ≤ y.a) ∨ (∀ x ∈ js, ∀ y ∈ js, x.b ≤ y.c)
def NonNeg (js : List Job) : Prop := ∀ x ∈ js, 0 ≤ x.a ∧ 0 ≤ x.b ∧ 0 ≤ x.c
theorem mk3_order (js : List Job) (hn : NonNeg js) : 0 ≤ (mk3 js).1 ∧ (mk3 js).1 ≤ (mk3 js).2.1 ∧ (mk3 js).2.1 ≤ (mk3 js).2.2 := by
  revert hn
  refine snocInd (P := fun js => NonNeg js → 0 ≤ (mk3 js).1 ∧ (mk3 js).1 ≤ (mk3 js).2.1 ∧ (mk3 js).2.1 ≤ (mk3 js).2.2) ?_ ?_ js
  · intro _; exact ⟨Int.le_refl _, Int.le_refl _, Int.le_refl _⟩
  · intro l j ih hn
    have hj := hn j (by simp)
    have h := ih fun x hx => hn x (by simp [hx])
    rw [mk3_snoc]
    simp only [step3]
    omega
theorem second_le (l : List Job) : ∀ B : Int, 0 ≤ B → (∀ x ∈ l, x.b ≤ B) → NonNeg l → (∀ x ∈ l, ∀ y ∈ l, x.b ≤ y.a) → (mk3 l).2.1 ≤ (mk3 l).1 + B := by
  refine snocInd (P := fun l => ∀ B : Int, 0 ≤ B → (∀ x ∈ l, x.b ≤ B) → NonNeg l → (∀ x ∈ l, ∀ y ∈ l, x.b ≤ y.a) → (mk3 l).2.1 ≤ (mk3 l).1 + B) ?_ ?_ l
  · intro B hB _ _ _; show (0 : Int) ≤ 0 + B; omega
  · intro l i ih B hB hb hn hd
    have hi := hn i (by simp)
    have hbi := hb i (by simp)
    have h1 := ih i.a hi.1 (fun x hx => hd x (by simp [hx]) i (by simp)) (fun x hx => hn x (by simp [hx])) (fun x hx y hy => hd x (by simp [hx]) y (by simp [hy]))
    rw [mk3_snoc]
    simp only [step3]
    omega
/-- under the dominance the third bench is told by the first alone -/
theorem mk_snoc (l : List Job) (j : Job) (hn : NonNeg (l ++ [j])) (hd : Dom (l ++ [j])) : mk (l ++ [j]) = max (mk l) ((mk3 l).1 + j.a + j.b) + j.c := by
  have hj := hn j (by simp)
  have hnl : NonNeg l := fun x hx => hn x (by simp [hx])
  have ho := mk3_order l hnl
  show (mk3 (l ++ [j])).2.2 = _
  rw [mk3_snoc]
  simp only [step3]
  show max (mk3 l).2.2 (max (mk3 l).2.1 ((mk3 l).1 + j.a) + j.b) + j.c = max (mk3 l).2.2 ((mk3 l).1 + j.a + j.b) + j.c
  rcases hd with hd | hd
  · have key : (mk3 l).2.1 ≤ (mk3 l).1 + j.a := second_le l j.a hj.1 (fun x hx => hd x (by simp [hx]) j (by simp)) hnl (fun x hx y hy => hd x (by simp [hx]) y (by simp [hy]))
    omega
  · have key : (mk3 l).2.1 + j.b ≤ (mk3 l).2.2 ∨ (mk3 l).2.1 ≤ 0 := by
      revert hd
      refine snocInd (P := fun l => (∀ x ∈ l ++ [j], ∀ y ∈ l ++ [j], x.b ≤ y.c) → (mk3 l).2.1 + j.b ≤ (mk3 l).2.2 ∨ (mk3 l).2.1 ≤ 0) ?_ ?_ l
      · intro _; exact .inr (Int.le_refl _)
      · intro l i _ hd
        have hb := hd j (by simp) i (by simp)
        left
        rw [mk3_snoc]
        simp only [step3]
        omega
    omega
/-- what a road through the benches, turning at x on all three, takes -/
def road (pre : List Job) (x : Job) (post : List Job) : Int := sumBy Job.a pre + x.a + x.b + x.c + sumBy Job.c post
theorem Dom.sub {l l' : List Job} (h : Dom l) (hs : ∀ x ∈ l', x ∈ l) : Dom l' := by
  rcases h with h | h
  · exact .inl fun x hx y hy => h x (hs x hx) y (hs y hy)
  · exact .inr fun x hx y hy => h x (hs x hx) y (hs y hy)
/-- no road takes longer than the whole -/
theorem road_le (js : List Job) : ∀ pre x post, js = pre ++ x :: post → road pre x post ≤ mk js := by
  refine snocInd (P := fun js => ∀ pre x post, js = pre ++ x :: post → road pre x post ≤ mk js) ?_ ?_ js
  · intro pre x post h; simp at h
  · intro l j ih pre x post h
    have hm : mk (l ++ [j]) = max (mk l) (max (mk3 l).2.1 ((mk3 l).1 + j.a) + j.b) + j.c := by show (mk3 (l ++ [j])).2.2 = _; rw [mk3_snoc]; rfl
    rcases List.eq_nil_or_concat post with rfl | ⟨post', y, rfl⟩
    · have h2 := List.append_inj' h rfl
      obtain ⟨rfl, h3⟩ := h2
      cases h3
      unfold road
      rw [sumBy_nil, hm, ← mk3_first]
      omega
    · have h2 : l ++ [j] = (pre ++ x :: post') ++ [y] := by rw [h]; simp
      obtain ⟨rfl, h3⟩ := List.append_inj' h2 rfl
      cases h3
      have := ih pre x post' rfl
      unfold road at this ⊢
      rw [List.concat_eq_append, sumBy_append, sumBy_cons, sumBy_nil, hm]
      omega
/-- some road takes as long as the whole -/
theorem road_eq (js : List Job) (hn : NonNeg js) (hd : Dom js) : js = [] ∨ ∃ pre x post, js = pre ++ x :: post ∧ mk js = road pre x post := by
  revert hn hd
  refine snocInd (P := fun js => NonNeg js → Dom js → js = [] ∨ ∃ pre x post, js = pre ++ x :: post ∧ mk js = road pre x post) ?_ ?_ js
  · intro _ _; exact .inl rfl
  · intro l j ih hn hd
    right
    have hj := hn j (by simp)
    have hm := mk_snoc l j hn hd
    rw [mk3_first] at hm
    rcases ih (fun x hx => hn x (by simp [hx])) (hd.sub fun x hx => by simp [hx]) with rfl | ⟨pre, x, post, rfl, hr⟩
    · refine ⟨[], j, [], rfl, ?_⟩
      rw [hm]
      show max 0 (0 + j.a + j.b) + j.c = 0 + j.a + j.b + j.c + 0
      omega
    · by_cases hc : sumBy Job.a (pre ++ x :: post) + j.a + j.b ≤ mk (pre ++ x :: post)
      · refine ⟨pre, x, post ++ [j], by simp, ?_⟩
        rw [hm, hr]
        unfold road
        rw [hr] at hc
        unfold road at hc
        rw [sumBy_append Job.c post, sumBy_cons, sumBy_nil]
        omega
      · refine ⟨pre ++ x :: post, j, [], rfl, ?_⟩
        rw [hm]
        unfold road
        rw [sumBy_nil]
        omega
theorem first_split {α : Type} (P : α → Prop) [DecidablePred P] : ∀ l : List α, (∃ x ∈ l, P x) → ∃ pre x post, l = pre ++ x :: post ∧ P x ∧ ∀ y ∈ pre, ¬ P y
  | [], h => by obtain ⟨x, hx, _⟩ := h; cases hx
  | a :: l, h => by
    by_cases ha : P a
    · exact ⟨[], a, l, rfl, ha, fun _ hy => nomatch hy⟩
    · obtain ⟨x, hx, hp⟩ := h
      rcases List.mem_cons.mp hx with rfl | hx
      · exact absurd hp ha
      · obtain ⟨pre, z, post, rfl, hz, hpre⟩ := first_split P l ⟨x, hx, hp⟩
        refine ⟨a :: pre, z, post, rfl, hz, fun y hy => ?_⟩
        rcases List.mem_cons.mp hy with rfl | hy
        · exact ha
        · exact hpre y hy
theorem last_split {α : Type} (P : α → Prop) [DecidablePred P] (l : List α) (h : ∃ x ∈ l, P x) : ∃ pre x post, l = pre ++ x :: post ∧ P x ∧ ∀ y ∈ post, ¬ P y := by
  obtain ⟨x, hx, hp⟩ := h
  obtain ⟨pre, z, post, e, hz, hpre⟩ := first_split P l.reverse ⟨x, List.mem_reverse.mpr hx, hp⟩
  refine ⟨post.reverse, z, pre.reverse, ?_, hz, fun y hy => hpre y (List.mem_reverse.mp hy)⟩
  have := congrArg List.reverse e
  rw [List.reverse_reverse] at this
  rw [this]; simp
/-- Johnson: an order in which no later job comes ahead of an earlier one takes no longer than any other -/
theorem johnson {σ π : List Job} (hp : σ.Perm π) (hs : σ.Pairwise fun x y => 0 ≤ y.rule x) (hn : NonNeg σ) (hd : Dom σ) : mk σ ≤ mk π := by
  rcases road_eq σ hn hd with rfl | ⟨pre, x, post, rfl, hr⟩
  · have : π = [] := List.Perm.eq_nil (hp.symm)
    subst this; exact Int.le_refl _
  · rw [hr]
    have hxp : x ∈ π := hp.subset (by simp)
    rw [List.pairwise_append] at hs
    obtain ⟨_, hs2, hs3⟩ := hs
    have hpre : ∀ y ∈ pre, 0 ≤ x.rule y := fun y hy => hs3 y hy x (by simp)
    have hpost : ∀ y ∈ post, 0 ≤ y.rule x := fun y hy => (List.pairwise_cons.mp hs2).1 y hy
    have hb : sumBy Job.b (pre ++ x :: post) = sumBy Job.b π := sumBy_perm _ hp
    have split3 : ∀ (f : Job → Int) (u v : List Job) (z : Job), sumBy f (u ++ z :: v) = sumBy f u + f z + sumBy f v := fun f u v z => by rw [sumBy_append, sumBy_cons]; omega
    have addp : ∀ l, sumBy Job.p l = sumBy Job.a l + sumBy Job.b l := fun l => by
      induction l with
      | nil => rfl
      | cons z l ih => rw [sumBy_cons, sumBy_cons, sumBy_cons, ih]; unfold Job.p; omega
    have addq : ∀ l, sumBy Job.q l = sumBy Job.b l + sumBy Job.c l := fun l => by
      induction l with
      | nil => rfl
      | cons z l ih => rw [sumBy_cons, sumBy_cons, sumBy_cons, ih]; unfold Job.q; omega
    by_cases hx : x.p < x.q
    · let f : Job → Int := fun k => if k.p < k.q ∧ k.p < x.p then k.p else k.q
      have hf : sumBy f (pre ++ x :: post) = sumBy f π := sumBy_perm _ hp
      obtain ⟨u, z, v, rfl, hz, hu⟩ := first_split (fun k : Job => k.p < k.q ∧ x.p ≤ k.p) π ⟨x, hxp, hx, Int.le_refl _⟩
      have hroad := road_le (u ++ z :: v) u z v rfl
      refine Int.le_trans ?_ hroad
      have e1 : sumBy Job.p pre ≤ sumBy f pre := sumBy_le fun y hy => by
        have := hpre y hy
        simp only [f]; unfold Job.rule at this; split at this <;> (try split at this) <;> split <;> omega
      have e2 : sumBy Job.q post ≤ sumBy f post := sumBy_le fun y hy => by
        have := hpost y hy
        simp only [f]; unfold Job.rule at this; split at this <;> (try split at this) <;> split <;> omega
      have e3 : sumBy f u ≤ sumBy Job.p u := sumBy_le fun y hy => by
        have := hu y hy
        simp only [f]; split <;> omega
      have e4 : sumBy f v ≤ sumBy Job.q v := sumBy_le fun y hy => by
        simp only [f]; split <;> omega
      have fx : f x = x.q := by simp only [f]; split <;> omega
      have fz : f z = z.q := by simp only [f]; split <;> omega
      rw [split3, split3] at hf hb
      rw [addp] at e1 e3
      rw [addq] at e2 e4
      unfold road
      unfold Job.p Job.q at *
      omega
    · let f : Job → Int := fun k => if ¬ k.p < k.q ∧ k.q < x.q then k.q else k.p
      have hf : sumBy f (pre ++ x :: post) = sumBy f π := sumBy_perm _ hp
      obtain ⟨u, z, v, rfl, hz, hv⟩ := last_split (fun k : Job => ¬ k.p < k.q ∧ x.q ≤ k.q) π ⟨x, hxp, hx, Int.le_refl _⟩
      have hroad := road_le (u ++ z :: v) u z v rfl
      refine Int.le_trans ?_ hroad
      have e1 : sumBy Job.p pre ≤ sumBy f pre := sumBy_le fun y hy => by
        have := hpre y hy
        simp only [f]; unfold Job.rule at this; split at this <;> (try split at this) <;> split <;> omega
      have e2 : sumBy Job.q post ≤ sumBy f post := sumBy_le fun y hy => by
        have := hpost y hy
        simp only [f]; unfold Job.rule at this; split at this <;> (try split at this) <;> split <;> omega
      have e3 : sumBy f u ≤ sumBy Job.p u := sumBy_le fun y hy => by
        simp only [f]; split <;> omega
      have e4 : sumBy f v ≤ sumBy Job.q v := sumBy_le fun y hy => by
        have := hv y hy
        simp only [f]; split <;> omega
      have fx : f x = x.p := by simp only [f]; split <;> omega
      have fz : f z = z.p := by simp only [f]; split <;> omega
      rw [split3, split3] at hf hb
      rw [addp] at e1 e3
      rw [addq] at e2 e4
      unfold road
      unfold Job.p Job.q at *
      omega
end Mine
end

section
-- J2
namespace Mine
/-- the whole, reckoned from the end -/
def backStep (j : Job) (e : Int × Int × Int) : Int × Int × Int :=
  (max e.1 (max e.2.1 (e.2.2 + j.c) + j.b) + j.a, max e.2.1 (e.2.2 + j.c) + j.b, e.2.2 + j.c)
def back (js : List Job) : Int × Int × Int := js.foldr backStep (0, 0, 0)
def lenB (js : List Job) : Int := (back js).1
theorem back_order : ∀ js : List Job, NonNeg js → (back js).2.2 ≤ (back js).2.1 ∧ (back js).2.1 ≤ (back js).1
  | [], _ => ⟨Int.le_refl _, Int.le_refl _⟩
  | j :: l, hn => by
    have hj := hn j (by simp)
    have ih := back_order l fun x hx => hn x (by simp [hx])
    show (backStep j (back l)).2.2 ≤ _ ∧ _
    simp only [back, List.foldr_cons, backStep] at ih ⊢
    omega
theorem madd (a b c : Int) : max a b + c = max (a + c) (b + c) := by omega
theorem addm (a b c : Int) : a + max b c = max (a + b) (a + c) := by omega
theorem eq_of_le {a b : Int} (h : ∀ t, a ≤ t ↔ b ≤ t) : a = b := Int.le_antisymm ((h b).mpr (Int.le_refl _)) ((h a).mp (Int.le_refl _))
theorem fold_back : ∀ (js : List Job) (x y z : Int), NonNeg js → x ≤ y → y ≤ z →
    (js.foldl step3 (x, y, z)).2.2 = max (max (x + (back js).1) (y + (back js).2.1)) (z + (back js).2.2)
  | [], x, y, z, _, h1, h2 => by
    show z = max (max (x + 0) (y + 0)) (z + 0)
    omega
  | j :: l, x, y, z, hn, h1, h2 => by
    have hj := hn j (by simp)
    have ih := fold_back l (x + j.a) (max y (x + j.a) + j.b) (max z (max y (x + j.a) + j.b) + j.c) (fun x hx => hn x (by simp [hx])) (by omega) (by omega)
    show (l.foldl step3 (step3 (x, y, z) j)).2.2 = max (max (x + (backStep j (back l)).1) (y + (backStep j (back l)).2.1)) (z + (backStep j (back l)).2.2)
    simp only [step3] at ih ⊢
    rw [ih]
    simp only [backStep]
    generalize (back l).1 = X, (back l).2.1 = Y, (back l).2.2 = Z
    refine eq_of_le fun t => ?_
    simp only [madd, addm, Int.max_le]
    constructor
    · rintro ⟨⟨q1, q2, q3⟩, q4, q5, q6⟩
      exact ⟨⟨⟨by omega, by omega, by omega⟩, by omega, by omega⟩, by omega⟩
    · rintro ⟨⟨⟨q1, q2, q3⟩, q4, q5⟩, q6⟩
      exact ⟨⟨by omega, by omega, by omega⟩, by omega, by omega, by omega⟩
theorem mk_eq_lenB (js : List Job) (hn : NonNeg js) : mk js = lenB js := by
  have h := fold_back js 0 0 0 hn (Int.le_refl _) (Int.le_refl _)
  have ho := back_order js hn
  show (js.foldl step3 (0, 0, 0)).2.2 = (back js).1
  rw [h]; omega
/-- all places for one more -/
def insAll {α : Type} (x : α) (l : List α) : List (List α) := (List.range (l.length + 1)).map fun k => l.take k ++ [x] ++ l.drop k
def ordersOf {α : Type} (js : List α) : List (List α) := js.foldl (fun os x => os.flatMap (insAll x)) [[]]
theorem ordersOf_snoc {α : Type} (l : List α) (x : α) : ordersOf (l ++ [x]) = (ordersOf l).flatMap (insAll x) := by simp [ordersOf]
theorem mem_insAll {α : Type} {x : α} {l π : List α} : π ∈ insAll x l ↔ ∃ u v, l = u ++ v ∧ π = u ++ x :: v := by
  unfold insAll
  rw [List.mem_map]
  constructor
  · rintro ⟨k, _, rfl⟩
    exact ⟨l.take k, l.drop k, (List.take_append_drop k l).symm, by simp⟩
  · rintro ⟨u, v, rfl, rfl⟩
    exact ⟨u.length, by simp; omega, by simp⟩
theorem mem_ordersOf {α : Type} (l : List α) : ∀ π, π ∈ ordersOf l ↔ π.Perm l := by
  refine snocInd (P := fun l => ∀ π, π ∈ ordersOf l ↔ π.Perm l) ?_ ?_ l
  · intro π
    show π ∈ [[]] ↔ _
    rw [List.mem_singleton]
    exact ⟨fun h => h ▸ List.Perm.refl _, fun h => List.Perm.eq_nil h⟩
  · intro l x ih π
    rw [ordersOf_snoc, List.mem_flatMap]
    constructor
    · rintro ⟨o, ho, hπ⟩
      obtain ⟨u, v, rfl, rfl⟩ := mem_insAll.mp hπ
      have h1 := (ih _).mp ho
      exact (List.perm_middle).trans ((h1.cons x).trans (List.perm_append_singleton x l).symm)
    · intro h
      have hx : x ∈ π := h.symm.subset (by simp)
      obtain ⟨u, v, rfl⟩ := List.append_of_mem hx
      refine ⟨u ++ v, (ih _).mpr ?_, mem_insAll.mpr ⟨u, v, rfl, rfl⟩⟩
      have h2 : (x :: (u ++ v)).Perm (x :: l) := (List.perm_middle).symm.trans (h.trans (List.perm_append_singleton x l))
      exact h2.cons_inv
end Mine
end

section
-- A1
open PySem PySem.W PyProof.Rows PySem.Spec PySem.Calls
set_option maxRecDepth 100000
set_option maxHeartbeats 8000000
namespace Mine
abbrev isJ (j : Job) : VP := isT isI [j.a, j.b, j.c]
abbrev isP3 (e : Int × Int × Int) : VP := isT isI [e.1, e.2.1, e.2.2]
theorem c_step {c : Cx} {h : Heap} {mg mb : Str → Option Value} {u v : Value} {e : Int × Int × Int} {j : Job} (hR : Room c.A 2)
    (G : Pg (hdx.heap_39 c.w.params) [16, 61] mg mb h) (hu : isP3 e u h) (hv : isJ j v h) : Pu c (call (.ref 42) [u, v]) h (isP3 (step3 e j)) := by
  refine Pu.enter (binds := [(Str.ofString "ends", u), (Str.ofString "job", v)]) (G.X _ _ (by k_is) rfl) rfl (G.code rfl (by rfl)) G.lim (hR.le (by decide)) (fun s _ => BindsTo.of_eq rfl) (by rfl) (by rfl) (by decide +kernel) fun h1 h2 L kb F => ?_
  have hh := hR.handled
  have e0 := F.var (x := Str.ofString "ends") rfl (Mo.mo hu (kb.trans F.kept.lg).stay)
  have j0 := F.var (x := Str.ofString "job") rfl (Mo.mo hv (kb.trans F.kept.lg).stay)
  refine Ex.assign F (Ev.add (Ev.itemT (e0 _) .cint (by decide) (by decide) rfl) (Ev.itemT (j0 _) .cint (by decide) (by decide) rfl)) fun v1 h3 F3 _ _ p1 => ?_
  have e0 := F3.var (x := Str.ofString "ends") rfl (Mo.mo hu (kb.trans F3.kept.lg).stay)
  have j0 := F3.var (x := Str.ofString "job") rfl (Mo.mo hv (kb.trans F3.kept.lg).stay)
  have f0 := F3.var (x := Str.ofString "first") rfl p1
  have g3 := G.at (kb.trans F3.kept.lg)
  refine Ex.assign F3 (Ev.add (Ev.max2 hh (g3.bi (by k_is) (by boot_by_name)) (Ev.itemT (e0 _) .cint (by decide) (by decide) rfl) (f0 _)) (Ev.itemT (j0 _) .cint (by decide) (by decide) rfl)) fun v2 h4 F4 _ s4 p2 => ?_
  have e0 := F4.var (x := Str.ofString "ends") rfl (Mo.mo hu (kb.trans F4.kept.lg).stay)
  have j0 := F4.var (x := Str.ofString "job") rfl (Mo.mo hv (kb.trans F4.kept.lg).stay)
  have f0 := F4.var (x := Str.ofString "first") rfl (Mo.mo p1 s4)
  have s0 := F4.var (x := Str.ofString "second") rfl p2
  have g4 := G.at (kb.trans F4.kept.lg)
  exact Ex.ret F4 (Ev.tuple (R := isI) (EL.cons (f0 _) (EL.cons (s0 _) (EL.cons (Ev.add (Ev.max2 hh (g4.bi (by k_is) (by boot_by_name)) (Ev.itemT (e0 _) .cint (by decide) (by decide) rfl) (s0 _)) (Ev.itemT (j0 _) .cint (by decide) (by decide) rfl)) EL.nil))))
def kindZ (j : Job) : Int := if j.a + j.b < j.b + j.c then 0 else 1
def ruleZ (x y : Job) : Int := if kindZ x ≠ kindZ y then 7 * (kindZ x - kindZ y) else if kindZ x = 0 then (x.a + x.b) - (y.a + y.b) else (y.b + y.c) - (x.b + x.c)
theorem kindZ_le (j : Job) : kindZ j = 0 ∨ kindZ j = 1 := by unfold kindZ; split <;> simp
theorem c_rule {c : Cx} {h : Heap} {mg mb : Str → Option Value} {u v : Value} {x y : Job} (hR : Room c.A 2)
    (G : Pg (hdx.heap_39 c.w.params) [16, 61] mg mb h) (hu : isJ x u h) (hv : isJ y v h) : Pu c (call (.ref 35) [u, v]) h (isI (ruleZ x y)) := by
  refine Pu.enter (binds := [(Str.ofString "one", u), (Str.ofString "other", v)]) (G.X _ _ (by k_is) rfl) rfl (G.code rfl (by rfl)) G.lim (hR.le (by decide)) (fun s _ => BindsTo.of_eq rfl) (by rfl) (by rfl) (by decide +kernel) fun h1 h2 L kb F => ?_
  have hh := hR.handled
  have one := F.var (x := Str.ofString "one") rfl (Mo.mo hu (kb.trans F.kept.lg).stay)
  have other := F.var (x := Str.ofString "other") rfl (Mo.mo hv (kb.trans F.kept.lg).stay)
  refine Ex.assign (P1 := isL isI [x.a + x.b, y.a + y.b]) F (Ev.comp (R := isJ) (S := isI) (xs := [x, y]) (by exact hh) (Ev.tuple (R := isJ) (EL.cons (one _) (EL.cons (other _) EL.nil))).itT (fun j => j.a + j.b) (fun j w C D m hx hj hw k hn hm => ?_) (by exact Nat.le_of_ble_eq_true rfl) rfl) (fun v1 h3 F3 _ s3 p1 => ?_) (hs := by with_unfolding_all rfl)
  · exact Ev.add (Ev.itemT (Ev.own hn hm hw) .cint (by decide) (by decide) rfl) (Ev.itemT (Ev.own hn hm hw) .cint (by decide) (by decide) rfl)
  have one := F3.var (x := Str.ofString "one") rfl (Mo.mo hu (kb.trans F3.kept.lg).stay)
  have other := F3.var (x := Str.ofString "other") rfl (Mo.mo hv (kb.trans F3.kept.lg).stay)
  refine Ex.assign (P1 := isL isI [x.b + x.c, y.b + y.c]) F3 (Ev.comp (R := isJ) (S := isI) (xs := [x, y]) (by exact hh) (Ev.tuple (R := isJ) (EL.cons (one _) (EL.cons (other _) EL.nil))).itT (fun j => j.b + j.c) (fun j w C D m hx hj hw k hn hm => ?_) (by exact Nat.le_of_ble_eq_true rfl) rfl) (fun v2 h4 F4 _ s4 p2 => ?_) (hs := by with_unfolding_all rfl)
  · exact Ev.add (Ev.itemT (Ev.own hn hm hw) .cint (by decide) (by decide) rfl) (Ev.itemT (Ev.own hn hm hw) .cint (by decide) (by decide) rfl)
  have q1 := Mo.mo p1 s4
  refine Ex.assignComp0 (R := isI) (S := isI) (xs := [0, 1]) F4 (by exact hh) (Ev.tuple (R := isI) (EL.cons .cint (EL.cons .cint EL.nil))).itT (fun k => if k = 0 then kindZ x else kindZ y) (fun i w C D m g hx hj k hn hm => ?_) (by exact Nat.le_of_ble_eq_true rfl) rfl fun v3 h5 F5 _ s5 p3 => ?_
  · rcases List.mem_cons.mp hx with rfl | hx
    · exact (Ev.ifI (Tst.lt (Ev.item (F4.varC rfl q1 k rfl rfl) (Ev.own hn hm hj) (by decide) (by decide) rfl) (Ev.item (F4.varC rfl p2 k rfl rfl) (Ev.own hn hm hj) (by decide) (by decide) rfl)) (fun _ => .cint) (fun _ => .cint)).toI (by simp [kindZ])
    · obtain rfl := List.mem_singleton.mp hx
      exact (Ev.ifI (Tst.lt (Ev.item (F4.varC rfl q1 k rfl rfl) (Ev.own hn hm hj) (by decide) (by decide) rfl) (Ev.item (F4.varC rfl p2 k rfl rfl) (Ev.own hn hm hj) (by decide) (by decide) rfl)) (fun _ => .cint) (fun _ => .cint)).toI (by simp [kindZ])
  have kinds := F5.var (x := Str.ofString "kinds") rfl p3
  refine Ex.ite F5 (Tst.ne (Ev.item (x := kindZ x) (kinds _) .cint (by decide) (by decide) rfl) (Ev.item (x := kindZ y) (kinds _) .cint (by decide) (by decide) rfl)) (fun e h6 k6 => ?_) (fun e h6 k6 => ?_)
  · have F6 := F5.at k6
    have kinds := F6.var (x := Str.ofString "kinds") rfl (Mo.mo p3 k6.lg.stay)
    have ne : kindZ x ≠ kindZ y := by simpa using e
    refine Ex.ret F6 (Pu.toI (Ev.mul .cint (Ev.sub (Ev.item (x := kindZ x) (kinds _) .cint (by decide) (by decide) rfl) (Ev.item (x := kindZ y) (kinds _) .cint (by decide) (by decide) rfl)) ?_) (by unfold ruleZ; rw [if_pos ne]))
    rcases kindZ_le x with ex | ex <;> rcases kindZ_le y with ey | ey <;> rw [ex, ey] <;> mul_fits
  · refine Ex.nil ?_
    have F6 := F5.at k6
    have kinds := F6.var (x := Str.ofString "kinds") rfl (Mo.mo p3 k6.lg.stay)
    have first := F6.var (x := Str.ofString "first") rfl (Mo.mo q1 (s5.trans k6.lg.stay))
    have last := F6.var (x := Str.ofString "last") rfl (Mo.mo p2 (s5.trans k6.lg.stay))
    have eq : kindZ x = kindZ y := by simpa using e
    refine Ex.ret F6 (Pu.toI (Ev.ifI (Tst.eq (Ev.item (x := kindZ x) (kinds _) .cint (by decide) (by decide) rfl) .cint) (fun _ => Ev.sub (Ev.item (first _) .cint (by decide) (by decide) rfl) (Ev.item (first _) .cint (by decide) (by decide) rfl))
      (fun _ => Ev.sub (Ev.item (last _) .cint (by decide) (by decide) rfl) (Ev.item (last _) .cint (by decide) (by decide) rfl))) ?_)
    have e2 : ruleZ x y = if kindZ x = 0 then (x.a + x.b) - (y.a + y.b) else (y.b + y.c) - (x.b + x.c) := by unfold ruleZ; rw [if_neg (by simpa using eq)]
    rw [e2]
    rcases kindZ_le x with ex | ex <;> simp [ex]
end Mine
end

section
-- P0
open PySem PySem.W PyProof.Rows PySem.Spec PySem.Calls
set_option maxRecDepth 100000
namespace Mine
theorem upd_ne {V : Vs} {x y : Str} {v : Value} (h : y ≠ x) : upd V x v y = V y := if_neg h
theorem upd_eq {V : Vs} {x : Str} {v : Value} : upd V x v x = some v := if_pos rfl
theorem pick_take {α : Type} (xs : List α) (n : Nat) : pick xs none (some (n : Int)) none = xs.take n := by
  unfold pick sliceBounds sliceRange
  simp only [Option.getD_none, show (1 : Int) > 0 by decide, if_true]
  have e0 : ¬ ((n : Int) < 0) := by omega
  simp only [e0, if_false]
  have e1 : max 0 (min (n : Int) (xs.length : Int)) = ((min n xs.length : Nat) : Int) := by omega
  rw [e1]
  have e2 : (if (0 : Int) < ((min n xs.length : Nat) : Int) then (((min n xs.length : Nat) : Int) - 0 + 1 - 1) / 1 else 0).toNat = min n xs.length := by
    rw [Int.ediv_one]; split <;> omega
  rw [e2]
  have e3 : (fun k : Nat => (0 + 1 * (k : Int)).toNat) = id := by funext k; simp
  rw [e3, List.map_id]
  refine List.ext_getElem? fun i => ?_
  have e4 : (List.range (min n xs.length)).filterMap (xs[·]?) = xs.take n := by
    have : ∀ m, m ≤ xs.length → (List.range m).filterMap (xs[·]?) = xs.take m := by
      intro m
      induction m with
      | zero => intro _; simp
      | succ m ih =>
        intro hm
        rw [List.range_succ, List.filterMap_append, ih (by omega), List.take_add_one]
        simp [List.getElem?_eq_getElem (show m < xs.length by omega)]
    rw [this _ (Nat.min_le_right _ _)]
    rcases Nat.le_total n xs.length with q | q
    · rw [Nat.min_eq_left q]
    · rw [Nat.min_eq_right q, List.take_of_length_le (Nat.le_refl _), List.take_of_length_le q]
  rw [e4]
theorem filterMap_drop {α : Type} (xs : List α) (n : Nat) : ((List.range (xs.length - n)).map fun k => n + k).filterMap (xs[·]?) = xs.drop n := by
  have : ∀ m, m ≤ xs.length - n → ((List.range m).map fun k => n + k).filterMap (xs[·]?) = (xs.drop n).take m := by
    intro m
    induction m with
    | zero => intro _; simp
    | succ m ih =>
      intro hm
      rw [List.range_succ, List.map_append, List.filterMap_append, ih (by omega), List.take_add_one]
      simp [List.getElem?_eq_getElem (show n + m < xs.length by omega)]
  rw [this _ (Nat.le_refl _), List.take_of_length_le (by rw [List.length_drop]; exact Nat.le_refl _)]
theorem pick_drop {α : Type} (xs : List α) (n : Nat) : pick xs (some (n : Int)) none none = xs.drop n := by
  unfold pick sliceBounds sliceRange
  simp only [Option.getD_none, show (1 : Int) > 0 by decide, if_true]
  have e0 : ¬ ((n : Int) < 0) := by omega
  simp only [e0, if_false]
  have e1 : max 0 (min (n : Int) (xs.length : Int)) = ((min n xs.length : Nat) : Int) := by omega
  rw [e1]
  have e2 : (if ((min n xs.length : Nat) : Int) < (xs.length : Int) then ((xs.length : Int) - ((min n xs.length : Nat) : Int) + 1 - 1) / 1 else 0).toNat = xs.length - n := by
    rw [Int.ediv_one]; split <;> omega
  rw [e2]
  rcases Nat.lt_or_ge n xs.length with q | q
  · have e3 : (fun k : Nat => (((min n xs.length : Nat) : Int) + 1 * (k : Int)).toNat) = fun k => n + k := by funext k; omega
    rw [e3]; exact filterMap_drop xs n
  · rw [show xs.length - n = 0 by omega, List.drop_eq_nil_of_le q]; rfl
theorem pick_rev {α : Type} (xs : List α) : pick xs none none (some (-1)) = xs.reverse := by
  unfold pick sliceBounds sliceRange
  simp only [Option.getD_some, show ¬ ((-1 : Int) > 0) by decide, if_false]
  have e2 : (if (xs.length : Int) - 1 > -1 then ((xs.length : Int) - 1 - -1 - -1 - 1) / (- -1) else 0).toNat = xs.length := by
    rw [show (- -1 : Int) = 1 by decide, Int.ediv_one]; split <;> omega
  rw [e2]
  have : ∀ m, m ≤ xs.length → ((List.range m).map fun k : Nat => ((xs.length : Int) - 1 + -1 * (k : Int)).toNat).filterMap (xs[·]?) = xs.reverse.take m := by
    intro m
    induction m with
    | zero => intro _; simp
    | succ m ih =>
      intro hm
      rw [List.range_succ, List.map_append, List.filterMap_append, ih (by omega), List.take_add_one]
      congr 1
      have e3 : ((xs.length : Int) - 1 + -1 * (m : Int)).toNat = xs.length - 1 - m := by omega
      simp only [List.map_cons, List.map_nil, e3]
      rw [List.getElem?_reverse (by omega)]
      simp [List.getElem?_eq_getElem (show xs.length - 1 - m < xs.length by omega)]
  rw [this _ (Nat.le_refl _), List.take_of_length_le (by simp)]
theorem Pu.toL {c : Cx} {t : Sem Value} {h : Heap} {α : Type} {R : α → VP} {xs ys : List α} (a : Pu c t h (isL R xs)) (e : xs = ys) : Pu c t h (isL R ys) := e ▸ a
end Mine
end

section
-- PL9
open PySem PySem.W PyProof.Rows PySem.Spec PySem.Calls
set_option maxRecDepth 100000
namespace Mine
theorem compTurn_in (elt iter : Expr) (g : Comprehension) (y : Str) (py : Pos) (scope : Scope) (pos : Pos) (it acc : Value) (env : Env) :
    compTurn (.ListComp elt [g, ⟨.Name y py, iter, [], 0⟩] scope pos) 1 it acc env = (standAt iter.pos >>= fun _ => pyNext it >>= fun r => match r with
      | none => pure (.done .next)
      | some v => letOwnedTupleGo (.Name y py) it v >>= fun _ => assign (.Name y py) env v >>= fun _ =>
        (eval elt env >>= fun x => call (.builtin "list.append") [acc, x] >>= fun _ => pure ()) >>= fun _ =>
          again (.compLoop (.ListComp elt [g, ⟨.Name y py, iter, [], 0⟩] scope pos) 1 it acc env)) := by rfl
theorem compTurn_out (elt iter iter2 : Expr) (x y : Str) (px py : Pos) (scope : Scope) (pos : Pos) (it acc : Value) (env : Env) :
    compTurn (.ListComp elt [⟨.Name x px, iter, [], 0⟩, ⟨.Name y py, iter2, [], 0⟩] scope pos) 0 it acc env = (standAt iter.pos >>= fun _ => pyNext it >>= fun r => match r with
      | none => pure (.done .next)
      | some v => letOwnedTupleGo (.Name x px) it v >>= fun _ => assign (.Name x px) env v >>= fun _ =>
        eval iter2 env >>= fun z => standAt iter2.pos >>= fun _ => foldedSetIterable iter2 env z >>= fun z => holding [z] (pyIter z) >>= fun it2 =>
          runOwn (.compStart (.ListComp elt [⟨.Name x px, iter, [], 0⟩, ⟨.Name y py, iter2, [], 0⟩] scope pos) 1 it2 acc env) env >>= fun _ =>
          again (.compLoop (.ListComp elt [⟨.Name x px, iter, [], 0⟩, ⟨.Name y py, iter2, [], 0⟩] scope pos) 0 it acc env)) := by rfl
section
variable {prog : Program} {w : World} {A : Around} {E : Value → Shared → Prop} {R : Result → Shared → Prop} {s : Shared}
theorem codeAny_in {elt iter : Expr} {g : Comprehension} {y : Str} {py : Pos} {scope : Scope} {pos : Pos} {it acc : Value} {env : Env} (I : Nat → Shared → Prop)
    (turn : ∀ n s, I n s → wpAny (model prog w) A (pyNext it) (fun r s₁ => match r with
      | none => R (.ok .next) s₁
      | some v => wpAny (model prog w) A (assign (.Name y py) env v) (fun _ s₂ => wpAny (model prog w) A (eval elt env) (fun x s₃ =>
          wpAny (model prog w) A (call (.builtin "list.append") [acc, x]) (fun _ s₄ => ∃ m, m < n ∧ I m s₄) (notedBy (model prog w) A env fun e s' => R (.error e) s') s₃)
          (notedBy (model prog w) A env fun e s' => R (.error e) s') s₂) (notedBy (model prog w) A env fun e s' => R (.error e) s') s₁) (notedBy (model prog w) A env fun e s' => R (.error e) s') s)
    (n : Nat) (h : I n s) (ht : ∀ v, letOwnedTupleGo (.Name y py) it v = pure () := by intro _; rfl) :
    codeAny (model prog w) A (.compLoop (.ListComp elt [g, ⟨.Name y py, iter, [], 0⟩] scope pos) 1 it acc env) R s := by
  refine codeAny_loop rfl I (fun n s hI => ?_) n h
  show wpAny _ _ ((compTurn (.ListComp elt [g, ⟨.Name y py, iter, [], 0⟩] scope pos) 1 it acc env).onRaise (fun x => do noteFrame x env; theTreesLotGoes x)) _ _ s
  refine wpAny_noted ?_
  rw [compTurn_in]
  refine wpAny_bind (wpAny_standAt (wpAny_bind (wpAny_mono (turn n s hI) (fun r s₁ h₁ => ?_) fun _ _ h' => h')))
  cases r with
  | none => exact wpAny_pure h₁
  | some v =>
    refine wpAny_bind (wpAny_of_eq (ht v) ?_)
    exact wpAny_bind (wpAny_mono h₁ (fun _ s₂ h₂ => wpAny_bind (wpAny_bind (wpAny_mono h₂ (fun x s₃ h₃ => wpAny_bind (wpAny_mono h₃
      (fun _ s₄ h₄ => wpAny_pure (wpAny_pure ⟨rfl, h₄⟩)) fun _ _ h' => h')) fun _ _ h' => h'))) fun _ _ h' => h')
theorem codeAny_inStart {elt iter : Expr} {g : Comprehension} {y : Str} {py : Pos} {scope : Scope} {pos : Pos} {it acc : Value} {env : Env}
    (h0 : codeAny (model prog w) A (.compLoop (.ListComp elt [g, ⟨.Name y py, iter, [], 0⟩] scope pos) 1 it acc env) R s)
    (h : wpAny (model prog w) A (pyIter it) (fun it' s' => codeAny (model prog w) A (.compLoop (.ListComp elt [g, ⟨.Name y py, iter, [], 0⟩] scope pos) 1 it' acc env) R s')
      (notedBy (model prog w) A env fun x s' => R (.error x) s') s) :
    codeAny (model prog w) A (.compStart (.ListComp elt [g, ⟨.Name y py, iter, [], 0⟩] scope pos) 1 it acc env) R s := by
  refine codeAny_of_tree ?_
  show wpAny _ _ ((compStart (.ListComp elt [g, ⟨.Name y py, iter, [], 0⟩] scope pos) 1 it acc env).onRaise (fun x => do noteFrame x env; standAt theWindowsPlace)) _ _ s
  refine wpAny_notedAt ?_
  unfold compStart
  show wpAny _ _ (ask >>= _) _ _ s
  refine wpAny_bind (wpAny_askSetting (wpAny_ite ?_))
  split
  · first
      | exact wpAny_bind (wpAny_pure (wpAny_pure (And.intro rfl h0)))
      | exact wpAny_pure (And.intro rfl h0)
  · first
      | exact wpAny_bind (wpAny_rule (wpAny_bind (wpAny_standAt (wpAny_bind (wpAny_mono h (fun it' s' h' => wpAny_pure (And.intro rfl h')) fun _ _ x => x)))))
      | (refine wpAny_bind (wpAny_rule ?_); show wpAny _ _ (standAt iter.pos >>= _) _ _ s; exact wpAny_bind (wpAny_standAt (wpAny_bind (wpAny_mono h (fun it' s' h' => wpAny_pure (And.intro rfl h')) fun _ _ x => x))))
theorem codeAny_out {elt iter iter2 : Expr} {x y : Str} {px py : Pos} {scope : Scope} {pos : Pos} {it acc : Value} {env : Env} (I : Nat → Shared → Prop)
    (turn : ∀ n s, I n s → wpAny (model prog w) A (pyNext it) (fun r s₁ => match r with
      | none => R (.ok .next) s₁
      | some v => wpAny (model prog w) A (assign (.Name x px) env v) (fun _ s₂ => wpAny (model prog w) A (eval iter2 env) (fun z s₃ =>
          wpAny (model prog w) A (pyIter z) (fun it2 s₄ => codeAny (model prog w) A (.compStart (.ListComp elt [⟨.Name x px, iter, [], 0⟩, ⟨.Name y py, iter2, [], 0⟩] scope pos) 1 it2 acc env)
            (fun r s₅ => match r with | .ok _ => ∃ m, m < n ∧ I m s₅ | .error e => cameBackBy (model prog w) A env (notedBy (model prog w) A env fun e s' => R (.error e) s') e s₅) s₄)
          (notedBy (model prog w) A env fun e s' => R (.error e) s') s₃)
          (notedBy (model prog w) A env fun e s' => R (.error e) s') s₂) (notedBy (model prog w) A env fun e s' => R (.error e) s') s₁) (notedBy (model prog w) A env fun e s' => R (.error e) s') s)
    (n : Nat) (h : I n s) (ht : ∀ v, letOwnedTupleGo (.Name x px) it v = pure () := by intro _; rfl) (hf : ∀ z, foldedSetIterable iter2 env z = pure z := by intro _; rfl) :
    codeAny (model prog w) A (.compLoop (.ListComp elt [⟨.Name x px, iter, [], 0⟩, ⟨.Name y py, iter2, [], 0⟩] scope pos) 0 it acc env) R s := by
  refine codeAny_loop rfl I (fun n s hI => ?_) n h
  show wpAny _ _ ((compTurn (.ListComp elt [⟨.Name x px, iter, [], 0⟩, ⟨.Name y py, iter2, [], 0⟩] scope pos) 0 it acc env).onRaise (fun x => do noteFrame x env; theTreesLotGoes x)) _ _ s
  refine wpAny_noted ?_
  rw [compTurn_out]
  refine wpAny_bind (wpAny_standAt (wpAny_bind (wpAny_mono (turn n s hI) (fun r s₁ h₁ => ?_) fun _ _ h' => h')))
  cases r with
  | none => exact wpAny_pure h₁
  | some v =>
    refine wpAny_bind (wpAny_of_eq (ht v) ?_)
    refine wpAny_bind (wpAny_mono h₁ (fun _ s₂ h₂ => wpAny_bind (wpAny_mono h₂ (fun z s₃ h₃ => wpAny_bind (wpAny_standAt (wpAny_bind (wpAny_of_eq (hf z) (wpAny_bind (wpAny_holding (wpAny_mono h₃ (fun it2 s₄ h₄ => ?_) fun _ _ h' => h'))))))) fun _ _ h' => h')) fun _ _ h' => h')
    refine wpAny_bind (wpAny_runOwn (codeAny_mono h₄ fun r s₅ h₅ => ?_))
    cases r with
    | ok f => exact wpAny_pure ⟨rfl, h₅⟩
    | error e => exact h₅
end
section
variable {c : Cx} {env : Env}
theorem Are.cst {γ : Type} {S : γ → VP} [∀ y, Mo (S y)] {ys : List γ} {vs : List Value} {h h' : Heap} (a : Are S ys vs h) (q : Cst h h') : Are S ys vs h' := a.stay q.stay
theorem comp2_inner {elt iter2 : Expr} {g : Comprehension} {y : Str} {py pos : Pos} {scope : Scope} {cl : List (Str × Addr)} {β γ : Type} {T : β → VP} [∀ x, Mo (T x)] {S : γ → VP} [∀ y, Mo (S y)] {bs : List β} {ys0 : List γ} {vs0 : List Value} {m : Vs} {C D : Addr}
    {hv ha : Heap} {I : Addr} {fp : List Addr} {Pi : Nat → Value → Prop} {St : Nat → Heap → Prop} {tka : Nat} {RR : Result → Shared → Prop}
    (k : Wk (c.hide D) c.A T bs hv I ha fp Pi St) (hC : hv.Ns C m) (hms : m slotsKey = none) (hD : hv.get? D = some (lst vs0)) (hX : ∀ z ∈ c.X, ∃ o, hv.get? z = some o) (hXC : C ∉ c.X)
    (hkind : scope.kind = .function) (hy : scope.names.lookup y = some .local) (hys : y ≠ slotsKey) (hDC : C ≠ D) (hsz : ys0.length + bs.length ≤ sizeLine) (ar0 : Are S ys0 vs0 (lg (c.hide D) hv)) (f : β → γ)
    (elem : ∀ b v h1 m1, b ∈ bs → T b v (lg (c.hide D) h1) → (∀ p o, hv.get? p = some o → p ≠ C → p ≠ D → h1.get? p = some o) → h1.Ns C m1 → (∀ z, z ≠ y → m1 z = m z) → m1 y = some v → Lt (c.hide D) (lg (c.hide D) h1) h1 → Pu (c.hide D) (eval elt (compEnvC scope cl C env)) (lg (c.hide D) h1) (S (f b)))
    (fin : ∀ h' tk' m1 vs', (∀ p o, hv.get? p = some o → p ≠ C → p ≠ D → h'.get? p = some o) → h'.Ns C m1 → (∀ z, z ≠ y → m1 z = m z) → h'.get? D = some (lst vs') → Are S (ys0 ++ bs.map f) vs' (lg (c.hide D) h') → RR (.ok .next) (c.sh h' tk')) :
    codeAny c.M c.A (.compStart (.ListComp elt [g, ⟨.Name y py, iter2, [], 0⟩] scope pos) 1 (.ref I) (.ref D) (compEnvC scope cl C env)) RR (c.sh ha tka) := by
  have hIn : hv.get? I = none := k.new
  have hCI : C ≠ I := fun q => by obtain ⟨o, _, _, e, _⟩ := hC; rw [q, hIn] at e; cases e
  have hDI : D ≠ I := fun q => by rw [q, hIn] at hD; cases hD
  have fpn : ∀ b ∈ fp, b ≠ I → b ≠ C ∧ b ≠ D := fun b hb hne => by
    obtain ⟨o, e, hp⟩ := k.fpo b hb hne
    refine ⟨fun q => ?_, fun q => lg_not e (q ▸ List.mem_cons_self)⟩
    obtain ⟨oc, _, _, ec, hd, _⟩ := hC
    have := lg_sub _ _ e
    rw [q, ec] at this; cases this; rw [hd] at hp; cases hp
  have loop : ∀ tk0, codeAny c.M c.A (.compLoop (.ListComp elt [g, ⟨.Name y py, iter2, [], 0⟩] scope pos) 1 (.ref I) (.ref D) (compEnvC scope cl C env)) RR (c.sh ha tk0) := by
    intro tk0
    refine codeAny_in (fun n s' => ∃ i h1 tk1 m1 vs, s' = c.sh h1 tk1 ∧ i ≤ bs.length ∧ n = bs.length + 1 - i ∧ St i h1 ∧ (∀ p o, hv.get? p = some o → p ≠ C → p ≠ D → h1.get? p = some o) ∧ h1.Ns C m1 ∧ (∀ z, z ≠ y → m1 z = m z) ∧ h1.get? D = some (lst vs) ∧ Are S (ys0 ++ (bs.take i).map f) vs (lg (c.hide D) h1)) ?_ (bs.length + 1)
      ⟨0, ha, tk0, m, vs0, rfl, Nat.zero_le _, rfl, k.st, fun p o e _ _ => k.kept _ _ e, hC.keeps k.kept, fun _ _ => rfl, k.kept _ _ hD, by simpa using ar0.stay k.kept.lg.stay⟩
    rintro n s ⟨i, h1, tk1, m1, vs, rfl, hi, rfl, hst, ko, hn, hm1, hD1, ar⟩
    obtain ⟨oI, eI, sI⟩ := k.obj i h1 hst
    by_cases hlt : i < bs.length
    · refine k.W.item i (c.sh h1 tk1) _ _ hlt hst fun u h2 tk2 hP hst2 hk2 => ?_
      have hk2' : ∀ b o, b ≠ I → h1.get? b = some o → h2.get? b = some o := fun b o q e => hk2 b o (by simpa using q) e
      have hn2 : h2.Ns C m1 := hn.at' fun o e => hk2' C o hCI e
      refine wpAny_assign_Name (wpAny_storeName_local (s := c.sh h2 tk2) (lookup_relabel_local hy) hn2 (fun h3 hn3 hs3 => ?_) (by simp [compEnvC, relabel, hkind]))
      have hm1s : m1 slotsKey = none := (hm1 _ (Ne.symm hys)).trans hms
      obtain ⟨oC, eC, wC⟩ := ns_weak hn2 hm1s
      have c12 : Cst2 h1 h2 := cst_but eI sI.weak2 hk2'
      have c23 : Cst2 h2 h3 := cst_but eC wC fun b o q e => hs3.extBut b o q e
      have c13 := (c12.trans c23).lg (c := c.hide D)
      have ko3 : ∀ p o, hv.get? p = some o → p ≠ C → p ≠ D → h3.get? p = some o := fun p o e n1 n2 => hs3.extBut p o n1 (hk2' p o (fun q => by rw [q, hIn] at e; cases e) (ko p o e n1 n2))
      have hD3 : h3.get? D = some (lst vs) := hs3.extBut D _ (fun q => hDC (by
        have q' : D = C := q
        exact q'.symm)) (hk2' D _ hDI hD1)
      have hst3 : St (i + 1) h3 := k.W.frame _ _ _ hst2 fun b hb o e => hs3.extBut b o (fun q => by
        have q' : b = C := q
        by_cases hbI : b = I
        · exact hCI (q'.symm.trans hbI)
        · exact (fpn b hb hbI).1 q') e
      obtain ⟨b, hb⟩ : ∃ b, bs[i]? = some b := ⟨bs[i], List.getElem?_eq_getElem hlt⟩
      have hT : T b u (lg (c.hide D) h3) := Mo.mo (k.it i u b hP hb) fun q o e pl => lg_get (ko3 q o (lg_sub _ _ e) (fun z => by
        obtain ⟨oc, _, _, ec, hd, _⟩ := hC
        have := lg_sub _ _ e
        rw [z, ec] at this; cases this; rw [hd] at pl; cases pl) (fun z => lg_not e (z ▸ List.mem_cons_self))) (lg_not e)
      have lt3 : Lt (c.hide D) (lg (c.hide D) h3) h3 := ⟨Kept.refl _, fun z hz => by
        rcases List.mem_cons.mp hz with rfl | hz
        · exact ⟨_, hD3⟩
        · obtain ⟨o, e⟩ := hX z hz
          by_cases q : z = D
          · exact ⟨_, q ▸ hD3⟩
          · exact ⟨o, ko3 z o e (fun q => hXC (q ▸ hz)) q⟩⟩
      refine elem b u h3 _ (List.mem_of_getElem? hb) hT ko3 hn3 (fun z hz => by show (if z = y then some u else m1 z) = m z; rw [if_neg hz]; exact hm1 z hz) (by simp) lt3 h3 _ _ _ lt3 fun v h4 tk4 k4 s4 => ?_
      have hD4 := k4 _ _ hD3
      have htk : bs.take (i + 1) = bs.take i ++ [b] := by rw [List.take_add_one, hb]; rfl
      have hvl : vs.length ≤ sizeLine := by
        rw [ar.len, List.length_append, List.length_map, List.length_take]
        omega
      refine append_at (s := c.sh h4 tk4) (hsz := by show vs.toArray.size ≤ sizeLine; rw [List.size_toArray]; exact hvl) hD4 fun h5 hs5 hD5 => ?_
      have kl : Kept (lg (c.hide D) h4) (lg (c.hide D) h5) := lg_hide hs5
      refine ⟨bs.length + 1 - (i + 1), by omega, i + 1, h5, tk4, fun z => if z = y then some u else m1 z, vs ++ [v], rfl, hlt, rfl, ?_, ?_, ?_, ?_, ?_, ?_⟩
      · refine k.W.frame _ _ _ (k.W.frame _ _ _ hst3 fun b _ o e => k4 b o e) fun b hb o e => hs5.extBut b o (fun q => ?_) e
        have q' : b = D := q
        by_cases hbI : b = I
        · exact hDI (q'.symm.trans hbI)
        · exact (fpn b hb hbI).2 q'
      · exact fun p o e n1 n2 => hs5.extBut p o n2 (k4 p o (ko3 p o e n1 n2))
      · exact (hn3.keeps k4).sameBut hs5 (by
          intro q
          have q' : C = D := q
          exact hDC q')
      · exact fun z hz => by show (if z = y then some u else m1 z) = m z; rw [if_neg hz]; exact hm1 z hz
      · rw [hD5]
        show some _ = some _
        congr 1
        show ({ cls := .type "list", data := .seq (vs.toArray.push v) (vs.length + 1) } : Obj) = { cls := .type "list", data := .seq (vs ++ [v]).toArray (vs ++ [v]).length }
        rw [List.length_append, List.length_singleton, List.push_toArray]
      · rw [htk, List.map_append, ← List.append_assoc]
        exact (((ar.cst c13.cst).stay k4.lg.stay).stay kl.stay).snoc (Mo.mo s4 kl.stay)
    · obtain rfl : i = bs.length := Nat.le_antisymm hi (Nat.not_lt.mp hlt)
      refine k.W.done (c.sh h1 tk1) _ _ hst fun h2 tk2 hk2 => ?_
      have hk2' : ∀ b o, b ≠ I → h1.get? b = some o → h2.get? b = some o := fun b o q e => hk2 b o (by simpa using q) e
      have c12 : Cst2 (lg (c.hide D) h1) (lg (c.hide D) h2) := (cst_but eI sI.weak2 hk2').lg
      rw [List.take_length] at ar
      exact fin h2 tk2 m1 vs (fun p o e n1 n2 => hk2' p o (fun q => by rw [q, hIn] at e; cases e) (ko p o e n1 n2)) (hn.at' fun o e => hk2' C o hCI e) hm1 (hk2' D _ hDI hD1) (ar.cst c12.cst)
  exact codeAny_inStart (loop tka) (k.W.self 0 _ _ _ k.st (loop tka))
theorem comp2_any {elt iter iter2 : Expr} {x y : Str} {px py pos : Pos} {scope : Scope} {cl : List (Str × Addr)} {α β γ : Type} {R : α → VP} [∀ x, Mo (R x)] {T : β → VP} [∀ x, Mo (T x)] {S : γ → VP} [∀ y, Mo (S y)] {xs : List α} {h h1 : Heap} {tk : Nat} {Q : Value → Shared → Prop} {E : Value → Shared → Prop}
    (hh : c.A.handled = none) (hit : Ev c env iter h (Itb c R xs)) (inner : α → List β) (f : α → β → γ)
    (hit2 : ∀ a u C D m h1, a ∈ xs → R a u h1 → Kept h h1 → h1.Ns C m → m x = some u → Ev (c.hide D) (compEnvC scope cl C env) iter2 h1 (Itb (c.hide D) T (inner a)))
    (elem : ∀ a b u v C D m h1, a ∈ xs → b ∈ inner a → R a u h1 → T b v h1 → Kept h h1 → h1.Ns C m → m x = some u → m y = some v → Ev (c.hide D) (compEnvC scope cl C env) elt h1 (S (f a b)))
    (hclos : closureFor scope env = pure cl) (hcell : ∀ y ∈ scope.names, y.2 ≠ .cell) (hkind : scope.kind = .function) (hnames : ∀ y ∈ scope.names, y.2 = .local → scope.names.lookup y.1 = some .local) (hx : scope.names.lookup x = some .local) (hy : scope.names.lookup y = some .local) (hxs : x ≠ slotsKey) (hys : y ≠ slotsKey) (hxy : x ≠ y)
    (hsz : (xs.flatMap fun a => (inner a).map (f a)).length ≤ sizeLine)
    (hs : ∀ x, foldedSetIterable iter env x = pure x) (hs2 : ∀ C x, foldedSetIterable iter2 (compEnvC scope cl C env) x = pure x) (l : Lt c h h1) (use : Option (Value → Sem Unit))
    (fin : ∀ D C h2 tk2 m, Kept h1 h2 → isL S (xs.flatMap fun a => (inner a).map (f a)) (.ref D) (lg c h2) → h1.get? C = none → h2.Ns C m → m slotsKey = none → compPost c.M c.A E use Q (.ref D) C (.ok .next) (c.sh h2 tk2)) :
    wpAny c.M c.A (comprehension (.ListComp elt [⟨.Name x px, iter, [], 0⟩, ⟨.Name y py, iter2, [], 0⟩] scope pos) scope env (firstIterPos [⟨.Name x px, iter, [], 0⟩, ⟨.Name y py, iter2, [], 0⟩] pos) (newList []) false (eval iter env) use) Q E (c.sh h1 tk) := by
  refine wpAny_comprehension_free (use := use) rfl hs hclos hkind hnames (hit h1 tk _ E l fun xv hv tkv kv itb => ?_)
  have lv := l.trans kv
  refine itb (c.sh hv tkv) c.A _ E hh lv.lg fun I ha fp Pi St k => ?_
  have hIn : hv.get? I = none := k.new
  refine wpAny_newObj_type (wpAny_newFunctionEnv hcell (by intro y hy; simp at hy) (fun h₁ hns₁ hsb₁ => ?_) hkind)
  dsimp only at hns₁ hsb₁ ⊢
  generalize hH2 : ha.push { cls := .type "list", dict := none, data := .seq ([] : List Value).toArray } = H2 at hns₁ hsb₁ ⊢
  have hCn : H2.objs.size = ha.objs.size + 1 := by rw [← hH2, Heap.size_push]
  have kpush : Kept ha H2 := hH2 ▸ Kept.push _ _
  have hnoC : H2.get? H2.objs.size = none := Heap.get?_none_of_le (Nat.le_refl _)
  have hnoD : ha.get? ha.objs.size = none := Heap.get?_none_of_le (Nat.le_refl _)
  have k01 : Kept ha h₁ := fun b o e => hsb₁.extBut b o (fun q => by have := kpush b o e; rw [q, hnoC] at this; cases this) (Heap.get?_push_of_some _ (kpush b o e))
  have hDC : H2.objs.size ≠ ha.objs.size := by rw [hCn]; exact Nat.ne_of_gt (Nat.lt_succ_self _)
  generalize hDe : ha.objs.size = D at *
  generalize hCe : H2.objs.size = C at *
  have hD0 : h₁.get? D = some (lst []) := hsb₁.extBut _ _ (Ne.symm hDC) (Heap.get?_push_of_some _ (by rw [← hH2, ← hDe]; exact Heap.get?_push_size _ rfl))
  have hDs : hv.get? D = none := by
    cases q : hv.get? D with
    | none => rfl
    | some o => have := k.kept _ _ q; rw [hnoD] at this; cases this
  have hCs : hv.get? C = none := by
    cases q : hv.get? C with
    | none => rfl
    | some o => have := kpush _ _ (k.kept _ _ q); rw [hnoC] at this; cases this
  have hDI : D ≠ I := fun q => by obtain ⟨o, e, _⟩ := k.obj 0 _ k.st; rw [← q, hnoD] at e; cases e
  have hCI : C ≠ I := fun q => by obtain ⟨o, e, _⟩ := k.obj 0 _ k.st; have := kpush _ _ e; rw [← q, hnoC] at this; cases this
  have hXC : C ∉ c.X := fun q => by obtain ⟨o', e'⟩ := lv.old C q; rw [hCs] at e'; cases e'
  have hXD : D ∉ c.X := fun q => by obtain ⟨o', e'⟩ := lv.old D q; rw [hDs] at e'; cases e'
  have fpn : ∀ b ∈ fp, b ≠ I → b ≠ C ∧ b ≠ D := fun b hb hne => by
    obtain ⟨o, e, hp⟩ := k.fpo b hb hne
    have e := lg_sub _ _ e
    exact ⟨fun q => (by rw [q, hCs] at e; cases e), fun q => (by rw [q, hDs] at e; cases e)⟩
  have base : ∀ {h' : Heap}, Kept hv h' → Kept h (lg (c.hide D) h') := fun kk b o e => lg_get (kk _ _ (lg_sub _ _ (lv.keep b o e))) fun q => by
    rcases List.mem_cons.mp q with rfl | q
    · have := lg_sub _ _ (lv.keep b o e); rw [hDs] at this; cases this
    · exact lg_not (lv.keep b o e) q
  have ltD : ∀ {h' : Heap}, Kept hv h' → (∃ o, h'.get? D = some o) → Lt (c.hide D) (lg (c.hide D) h') h' := fun kk hd => ⟨Kept.refl _, fun y hy => by
    rcases List.mem_cons.mp hy with rfl | hy
    · exact hd
    · obtain ⟨o, e⟩ := lv.old y hy; exact ⟨o, kk _ _ e⟩⟩
  have nsl : ∀ {h' : Heap} {m : Vs}, h'.Ns C m → (lg (c.hide D) h').Ns C m := fun hn => hn.at' fun o e => lg_get e fun q => by
    rcases List.mem_cons.mp q with q | q
    · exact hDC q
    · exact hXC q
  have loop : ∀ tk0, codeAny c.M c.A (.compLoop (.ListComp elt [⟨.Name x px, iter, [], 0⟩, ⟨.Name y py, iter2, [], 0⟩] scope pos) 0 (.ref I) (.ref D) (compEnvC scope cl C env)) (compPost c.M c.A E use Q (.ref D) C) (c.sh h₁ tk0) := by
    intro tk0
    refine codeAny_out (fun n s' => ∃ i h1 tk1 m vs, s' = c.sh h1 tk1 ∧ i ≤ xs.length ∧ n = xs.length + 1 - i ∧ St i h1 ∧ Kept hv h1 ∧ h1.Ns C m ∧ m slotsKey = none ∧ h1.get? D = some (lst vs) ∧ Are S ((xs.take i).flatMap fun a => (inner a).map (f a)) vs (lg (c.hide D) h1)) ?_ (xs.length + 1)
      ⟨0, h₁, tk0, _, [], rfl, Nat.zero_le _, rfl, k.W.frame _ _ _ k.st fun b _ o e => k01 b o e, k.kept.trans k01, hns₁, rfl, hD0, by simpa using Are.nil⟩ (fun v => rfl) (hs2 C)
    rintro n s ⟨i, g1, tk1, m, vs, rfl, hi, rfl, hst, kg, hn, hms, hD1, ar⟩
    obtain ⟨oI, eI, sI⟩ := k.obj i g1 hst
    by_cases hlt : i < xs.length
    · refine k.W.item i (c.sh g1 tk1) _ _ hlt hst fun u g2 tk2 hP hst2 hk2 => ?_
      have hk2' : ∀ b o, b ≠ I → g1.get? b = some o → g2.get? b = some o := fun b o q e => hk2 b o (by simpa using q) e
      have hn2 : g2.Ns C m := hn.at' fun o e => hk2' C o hCI e
      refine wpAny_assign_Name (wpAny_storeName_local (s := c.sh g2 tk2) (lookup_relabel_local hx) hn2 (fun g3 hn3 hs3 => ?_) (by simp [compEnvC, relabel, hkind]))
      obtain ⟨oC, eC, wC⟩ := ns_weak hn2 hms
      have c12 : Cst2 g1 g2 := cst_but eI sI.weak2 hk2'
      have c23 : Cst2 g2 g3 := cst_but eC wC fun b o q e => hs3.extBut b o q e
      have c13 := (c12.trans c23).lg (c := c.hide D)
      have k3 : Kept hv g3 := fun b o e => hs3.extBut b o (fun q => by
        have q' : b = C := q
        rw [q', hCs] at e; cases e) (hk2' b o (fun q => by rw [q, hIn] at e; cases e) (kg b o e))
      have hD3 : g3.get? D = some (lst vs) := hs3.extBut D _ (fun q => hDC (by
        have q' : D = C := q
        exact q'.symm)) (hk2' D _ hDI hD1)
      have hst3 : St (i + 1) g3 := k.W.frame _ _ _ hst2 fun b hb o e => hs3.extBut b o (fun q => by
        have q' : b = C := q
        by_cases hbI : b = I
        · exact hCI (q'.symm.trans hbI)
        · exact (fpn b hb hbI).1 q') e
      obtain ⟨a, ha'⟩ : ∃ a, xs[i]? = some a := ⟨xs[i], List.getElem?_eq_getElem hlt⟩
      have ham := List.mem_of_getElem? ha'
      have hR : R a u (lg (c.hide D) g3) := Mo.mo (k.it i u a hP ha') fun b o e pl => lg_get (k3 b o (lg_sub _ _ e)) fun q => by
        rcases List.mem_cons.mp q with rfl | q
        · have := lg_sub _ _ e; rw [hDs] at this; cases this
        · exact lg_not e q
      have hmx : (fun z => if z = x then some u else m z) x = some u := by simp
      have hms3 : (fun z => if z = x then some u else m z) slotsKey = none := by
        show (if slotsKey = x then some u else m slotsKey) = none
        rw [if_neg (fun q => hxs q.symm)]; exact hms
      have htk : xs.take (i + 1) = xs.take i ++ [a] := by rw [List.take_add_one, ha']; rfl
      have hpre : ((xs.take (i + 1)).flatMap fun a => (inner a).map (f a)).length ≤ sizeLine := by
        refine Nat.le_trans ?_ hsz
        have e1 : xs = xs.take (i + 1) ++ xs.drop (i + 1) := (List.take_append_drop _ _).symm
        conv => rhs; rw [e1]
        rw [List.flatMap_append, List.length_append]; exact Nat.le_add_right _ _
      rw [htk, List.flatMap_append, List.flatMap_singleton, List.length_append, List.length_map] at hpre
      refine hit2 a u C D _ _ ham hR (base k3) (nsl hn3) hmx g3 _ _ _ (ltD k3 ⟨_, hD3⟩) fun z g4 tk4 k4 itb2 => ?_
      refine itb2 (c.sh g4 tk4) c.A _ _ hh ((ltD k3 ⟨_, hD3⟩).trans k4).lg fun I2 ga fp2 P2 St2 w2 => ?_
      have k34 : Kept hv g4 := k3.trans k4
      have ar4 := (ar.cst c13.cst).stay k4.lg.stay
      refine comp2_inner (S := S) (c := c) (m := fun z => if z = x then some u else m z) w2 (hn3.keeps k4) hms3 (k4 _ _ hD3) (fun z hz => let ⟨o, e⟩ := lv.old z hz; ⟨o, k34 _ _ e⟩) hXC hkind hy hys hDC hpre ar4 (f a) ?_ ?_
      · intro b v g5 m5 hb hT ko5 hn5 hm5 hmy lt5
        have k5 : Kept hv g5 := fun p o e => ko5 p o (k34 p o e) (fun q => by rw [q, hCs] at e; cases e) (fun q => by rw [q, hDs] at e; cases e)
        have hR5 : R a u (lg (c.hide D) g5) := Mo.mo (k.it i u a hP ha') fun b o e pl => lg_get (k5 b o (lg_sub _ _ e)) fun q => by
          rcases List.mem_cons.mp q with rfl | q
          · have := lg_sub _ _ e; rw [hDs] at this; cases this
          · exact lg_not e q
        exact elem a b u v C D m5 _ ham hb hR5 hT (base k5) (nsl hn5) ((hm5 x hxy).trans hmx) hmy
      · intro g6 tk6 m6 vs6 ko6 hn6 hm6 hD6 ar6
        have k6 : Kept hv g6 := fun p o e => ko6 p o (k34 p o e) (fun q => by rw [q, hCs] at e; cases e) (fun q => by rw [q, hDs] at e; cases e)
        refine ⟨xs.length + 1 - (i + 1), by omega, i + 1, g6, tk6, m6, vs6, rfl, hlt, rfl, ?_, k6, hn6, (hm6 _ (Ne.symm hys)).trans hms3, hD6, ?_⟩
        · refine k.W.frame _ _ _ hst3 fun b hb o e => ko6 b o (k4 b o e) ?_ ?_
          · by_cases hbI : b = I
            · exact fun q => hCI (q.symm.trans hbI)
            · exact (fpn b hb hbI).1
          · by_cases hbI : b = I
            · exact fun q => hDI (q.symm.trans hbI)
            · exact (fpn b hb hbI).2
        · rw [htk, List.flatMap_append, List.flatMap_singleton]; exact ar6
    · obtain rfl : i = xs.length := Nat.le_antisymm hi (Nat.not_lt.mp hlt)
      refine k.W.done (c.sh g1 tk1) _ _ hst fun g2 tk2 hk2 => ?_
      have hk2' : ∀ b o, b ≠ I → g1.get? b = some o → g2.get? b = some o := fun b o q e => hk2 b o (by simpa using q) e
      have c12 : Cst2 (lg (c.hide D) g1) (lg (c.hide D) g2) := (cst_but eI sI.weak2 hk2').lg
      rw [List.take_length] at ar
      have k2 : Kept hv g2 := fun b o e => hk2' b o (fun q => by rw [q, hIn] at e; cases e) (kg b o e)
      refine fin D C g2 tk2 m (kv.trans k2) ⟨D, vs, _, rfl, lg_get (hk2' D _ hDI hD1) hXD, (ar.cst c12.cst).cst lg_hide_sub.cst2.cst⟩ ?_ (hn.at' fun o e => hk2' C o hCI e) hms
      cases q : h1.get? C with
      | none => rfl
      | some o => have := kv _ _ q; rw [hCs] at this; cases this
  exact codeAny_compStart_list (loop _) (k.W.self 0 _ _ _ (k.W.frame _ _ _ k.st fun b _ o e => k01 b o e) (loop _))
theorem Ex.assignComp2 {h0 h : Heap} {V : Vs} {N : Heap → Prop} {P : VP} {rest : List Stmt} {elt iter iter2 : Expr} {x y z : Str} {px py pz pos spos : Pos} {scope : Scope} {cl : List (Str × Addr)} {α β γ : Type} {R : α → VP} [∀ x, Mo (R x)] {T : β → VP} [∀ x, Mo (T x)] {S : γ → VP} [∀ y, Mo (S y)] {xs : List α}
    (F : Fx c h0 env h V) (hh : c.A.handled = none) (hit : Ev c env iter (lg c h) (Itb c R xs)) (inner : α → List β) (f : α → β → γ)
    (hit2 : ∀ a u C D m h1, a ∈ xs → R a u h1 → Kept (lg c h) h1 → h1.Ns C m → m x = some u → Ev (c.hide D) (compEnvC scope cl C env) iter2 h1 (Itb (c.hide D) T (inner a)))
    (elem : ∀ a b u v C D m h1, a ∈ xs → b ∈ inner a → R a u h1 → T b v h1 → Kept (lg c h) h1 → h1.Ns C m → m x = some u → m y = some v → Ev (c.hide D) (compEnvC scope cl C env) elt h1 (S (f a b)))
    (hsz : (xs.flatMap fun a => (inner a).map (f a)).length ≤ sizeLine) (hclos : closureFor scope env = pure cl)
    (hr : ∀ v h', Fx c h0 env h' (upd V z v) → KB (Wr env) h h' → Stay (lg c h) (lg c h') → isL S (xs.flatMap fun a => (inner a).map (f a)) v (lg c h') → Ex c env h0 rest h' N P)
    (hcell : ∀ y ∈ scope.names, y.2 ≠ .cell := by decide) (hkind : scope.kind = .function := by rfl) (hnames : ∀ y ∈ scope.names, y.2 = .local → scope.names.lookup y.1 = some .local := by decide) (hx : scope.names.lookup x = some .local := by rfl) (hy : scope.names.lookup y = some .local := by rfl) (hxs : x ≠ slotsKey := by decide) (hys : y ≠ slotsKey := by decide) (hxy : x ≠ y := by decide)
    (hs : ∀ x, foldedSetIterable iter env x = pure x := by intro _; rfl) (hs2 : ∀ C x, foldedSetIterable iter2 (compEnvC scope cl C env) x = pure x := by intro _ _; rfl)
    (hk : env.kindOf z = some .local ∨ (env.kindOf z = some .cell ∧ (env.cells.lookup z).isSome = true) := by exact own_of (by rfl))
    (hsw : swapsWith (.ListComp elt [⟨.Name x px, iter, [], 0⟩, ⟨.Name y py, iter2, [], 0⟩] scope pos) (some (.Name z pz)) spos.line env = pure true := by with_unfolding_all rfl) : Ex c env h0 (.Assign [.Name z pz] (.ListComp elt [⟨.Name x px, iter, [], 0⟩, ⟨.Name y py, iter2, [], 0⟩] scope pos) spos :: rest) h N P :=
  Ex.cons fun tk Q E hn _ => by
    rw [exec_Assign_Name_used _ _ _ _ hsw]
    refine wpAny_bind (wpAny_standAt (wpAny_bind ?_))
    show wpAny _ c.A (do let _ ← comprehension (.ListComp elt [⟨.Name x px, iter, [], 0⟩, ⟨.Name y py, iter2, [], 0⟩] scope pos) scope env _ (newList []) false (eval iter env) (some (PySem.assign (.Name z pz) env))) _ _ _
    refine wpAny_bind (wpAny_mono (comp2_any (Q := fun _ s' => Q .next s') hh hit inner f hit2 elem hclos hcell hkind hnames hx hy hxs hys hxy hsz hs hs2 F.lt (some (PySem.assign (.Name z pz) env)) fun D C h2 tk2 m k hv hC hns hms => ?_) (fun _ s' hq => wpAny_pure (wpAny_pure hq)) fun _ _ e => e)
    have F2 := F.at k
    refine wpAny_assign_Name (F2.toFm.store (s := c.sh h2 tk2) hk fun h3 tk3 F3 kb3 => ?_)
    have hCw : ¬ Wr env C := fun w => by obtain ⟨o, e, _⟩ := F.toFm.wrObj w; rw [hC] at e; cases e
    have hns3 : h3.Ns C m := hns.at' fun o e => kb3 C o e hCw
    refine ⟨m, hns3, fun h' hs' => ?_⟩
    obtain ⟨oC, eC, wC⟩ := ns_weak hns3 hms
    have hb : ∀ b o, b ∉ [C] → h3.get? b = some o → h'.get? b = some o := fun b o q e => hs'.extBut b o (fun z => q (List.mem_singleton.mpr z)) e
    have s3 : Stay (lg c h3) (lg c h') := (cst_but eC wC fun b o q e => hs'.extBut b o q e).lg.cst.stay
    have kb' : KB (Wr env) h h' := but_kb hC (k.kb.trans kb3) hb
    exact hn h' tk3 (hr _ h' (F.next (F.toFm.but F3 hC hb) kb') kb' (F.stay kb') (Mo.mo hv ((F2.stay kb3).trans s3)))
/-! a list that statements grow -/
section
variable {h0 h h' : Heap} {V : Vs} {N : Heap → Prop} {P P1 : VP} {D : Addr}
theorem Sx.unhide {st : Stmt} (x : Sx (c.hide D) env h0 st h N (fun _ _ => False)) : Sx c env h0 st h N P := Sx.mk fun tk Q E hn _ => x.run tk Q E hn fun _ _ _ _ q => q.elim
theorem Fx.hide (F : Fx c h0 env h V) {o : Obj} (e : h.get? D = some o) (hp : plainD o.data = true) : Fx (c.hide D) h0 env h V := ⟨F.toFm, fun x hx => by
  rcases List.mem_cons.mp hx with rfl | hx
  · exact ⟨F.toFm.notWr e ⟨fun _ _ q => (by rw [q] at hp; cases hp), fun _ q => (by rw [q] at hp; cases hp)⟩, _, e⟩
  · exact F.hid x hx⟩
theorem Fx.unhide (F : Fx (c.hide D) h0 env h V) : Fx c h0 env h V := ⟨F.toFm, fun x hx => F.hid x (List.mem_cons_of_mem _ hx)⟩
theorem Fm.sameBut (F : Fm h0 env h V) (hs : Heap.SameBut D h h') (hD : h0.get? D = none) (hw : ¬ Wr env D) : Fm h0 env h' V :=
  ⟨F.kind, let ⟨m, f, e⟩ := F.loc; ⟨m, f.sameBut hs (fun q => hw (.inl q.symm)), e⟩, fun b o e => hs.extBut b o (fun q => by
    have q' : b = D := q
    rw [q', hD] at e; cases e) (F.kept b o e), F.newL, fun n a e => (F.cell n a e).sameBut hs (fun q => hw (.inr ⟨n, q ▸ e⟩)), F.apart, F.newC, F.ne, F.kinds, F.mem⟩
theorem Sx.append {x : Str} {e : Expr} {p ap cp sp : Pos} {its : Array Value} {n : Nat} (F : Fx (c.hide D) h0 env h V) (hD0 : h0.get? D = none) (hv : V x = some (.ref D)) (hD : h.get? D = some { cls := .type "list", data := .seq its n }) [Mo P1] (he : Ev (c.hide D) env e (lg (c.hide D) h) P1) (hsz : its.size ≤ sizeLine)
    (hr : ∀ v h', Fx (c.hide D) h0 env h' V → h'.get? D = some { cls := .type "list", data := .seq (its.push v) (n + 1) } → (∀ b o, h.get? b = some o → b ≠ D → h'.get? b = some o) → P1 v (lg (c.hide D) h') → N h')
    (hk : env.kindOf x = some .local ∨ (env.kindOf x = some .cell ∧ (env.cells.lookup x).isSome = true) := by exact own_of (by rfl)) (hd : (x == ("__debug__" : Str)) = false := by decide)
    (hbase : attributeBase (.Name x p) "append" env (eval (.Name x p) env) = eval (.Name x p) env := by rfl)
    (hfew : ((backTo cp (starEach [e] env)).all (fun x => !x.1) && (backToKw cp (keywordEach [] env)).all (fun x => x.1.isSome)
      && decide (([e] : List Expr).length + ([] : List Keyword).length + (if ([] : List Keyword).isEmpty then 0 else 1) < 30)) = true := by rfl)
    (hline : (ap.endLine == cp.line) = true := by rfl) (htrees : backTo cp (starEach [e] env) = [(false, eval e env)] := by rfl)
    (hi : interactive env = false := by rfl) (hsw : swapsWith (.Call (.Attribute (.Name x p) "append" ap) [e] [] cp) none sp.line env = pure false := by rfl) :
    Sx (c.hide D) env h0 (.Expr (.Call (.Attribute (.Name x p) "append" ap) [e] [] cp) sp) h N P := Sx.mk fun tk Q E hn _ => by
  refine wpAny_Expr_any (wpAny_Call_append hbase hfew hline htrees ?_) hi hsw
  have nm : Ev (c.hide D) env (.Name x p) (lg (c.hide D) h) (isV (.ref D)) := F.var hv rfl hk hd p
  refine nm h tk _ E F.lt fun v h1 tk1 k1 ev => ?_
  cases ev
  refine ⟨D, its, rfl, ⟨_, n, k1 _ _ hD, rfl, rfl, rfl⟩, he h1 tk1 _ E (F.lt.trans k1) fun y h2 tk2 k2 py => ?_⟩
  have k12 := k1.trans k2
  refine append_at (s := c.sh h2 tk2) (k12 _ _ hD) (fun h3 hs3 hD3 => ?_) hsz
  have F2 := F.at k12
  have hw : ¬ Wr env D := (F.hid D List.mem_cons_self).1
  have F3 : Fx (c.hide D) h0 env h3 V := ⟨F2.toFm.sameBut hs3 hD0 hw, fun z hz => by
    obtain ⟨w, o, e⟩ := F2.hid z hz
    refine ⟨w, ?_⟩
    by_cases q : z = D
    · exact ⟨_, q ▸ hD3⟩
    · exact ⟨o, hs3.extBut z o q e⟩⟩
  exact hn h3 tk2 (hr y h3 F3 hD3 (fun b o e q => hs3.extBut b o q (k12 b o e)) (Mo.mo py (lg_hide hs3).stay))
end
end
end Mine
end

section
-- PL10
open PySem PySem.W PyProof.Rows PySem.Spec PySem.Calls
set_option maxRecDepth 100000
namespace Mine
/-- and something of the value alone -/
def andC (P : VP) (C : Value → Prop) : VP := fun v h => P v h ∧ C v
instance {P : VP} {C : Value → Prop} [Mo P] : Mo (andC P C) := ⟨fun x s => ⟨Mo.mo x.1 s, x.2⟩⟩
/-- none of the heap h -/
def isNew (h : Heap) (v : Value) : Prop := ∃ a, v = .ref a ∧ h.get? a = none
theorem isNew.low {h h' : Heap} {v : Value} (n : isNew h' v) (k : Kept h h') : isNew h v := by
  obtain ⟨a, e, q⟩ := n
  refine ⟨a, e, ?_⟩
  cases z : h.get? a with
  | none => rfl
  | some o => rw [k _ _ z] at q; cases q
section
variable {c : Cx} {env : Env} {h : Heap} {P P1 P2 : VP} {pos : Pos}
theorem Ev.listN {α : Type} {R : α → VP} [∀ x, Mo (R x)] {es : List Expr} {xs : List α} (he : EL c env pos es h R xs) (hsz : xs.length ≤ sizeLine := by exact Nat.le_of_ble_eq_true rfl) : Ev c env (.List es pos) h (andC (isL R xs) (isNew h)) :=
  Pu.mk fun h1 tk Q E k hq => List_ (he h1 tk _ E k fun vs h2 tk2 k2 a => wpAny_newList (s := c.sh h2 tk2) (hq _ _ tk2 (k2.trans (Kept.push _ _)) ⟨⟨_, vs, 0, rfl, lg_get (Heap.get?_push_size _ rfl) ((k.trans k2).new (Heap.get?_none_of_le (Nat.le_refl _))), a.stay (Kept.push _ _).lg.stay⟩, _, rfl, by
    cases q : h.get? h2.objs.size with
    | none => rfl
    | some o => have := k2 _ _ (k.top _ _ q); rw [Heap.get?_none_of_le (Nat.le_refl _)] at this; cases this⟩) (by rw [a.len]; exact hsz))
/-- what is new and told of is none of the heap below -/
theorem new_below {h0 h1 h' : Heap} {a : Addr} {o : Obj} (k : Kept h0 h1) (n : isNew (lg c h1) (.ref a)) (e : (lg c h').get? a = some o) : h0.get? a = none := by
  obtain ⟨b, eb, hb⟩ := n
  cases eb
  cases q : h0.get? a with
  | none => rfl
  | some o' => have := lg_get (c := c) (k _ _ q) (lg_not e); rw [hb] at this; cases this
theorem stay_hide {a b : Heap} {D : Addr} (s : Stay (lg c a) (lg c b)) (n : isNew (lg c a) (.ref D)) : Stay (lg c a) (lg (c.hide D) b) := fun p o e q => lg_get (lg_sub _ _ (s p o e q)) fun z => by
  rcases List.mem_cons.mp z with rfl | z
  · obtain ⟨x, ex, hx⟩ := n; cases ex; rw [e] at hx; cases hx
  · exact lg_not (s p o e q) z
theorem kept_hide {a b : Heap} {D : Addr} (s : Kept a (lg c b)) (n : b.get? D = none) : Kept a (lg (c.hide D) b) := fun p o e => lg_get (lg_sub _ _ (s p o e)) fun z => by
  rcases List.mem_cons.mp z with rfl | z
  · have := lg_sub _ _ (s p o e); rw [n] at this; cases this
  · exact lg_not (s p o e) z
theorem kept_but {a b : Heap} {D : Addr} (k : ∀ p o, a.get? p = some o → p ≠ D → b.get? p = some o) : Kept (lg (c.hide D) a) (lg (c.hide D) b) := fun p o e => lg_get (k p o (lg_sub _ _ e) fun q => lg_not e (q ▸ List.mem_cons_self)) (lg_not e)
theorem b_range3 {a b d : Int} {n : Nat} {vs : List Value} (hd : d ≠ 0) (hp : Builtin.divisionGoesByPylong (b - a) d = false) (hsm : Builtin.Range.small a b d = true) (hn : Builtin.Range.rangeSize a b d = (n : Int)) (x : AllP [isI a, isI b, isI d] vs h) : Pu c (call (.type "range") vs) h (isR a b d n) := by
  obtain ⟨u, v, w, rfl, ⟨t, rfl⟩, ⟨t', rfl⟩, ⟨t'', rfl⟩⟩ := x.three
  refine Pu.mk fun h1 tk Q E l hq => ?_
  exact call_range_3 (s := c.sh h1 tk) hd (hq _ _ tk (Kept.push _ _) ⟨_, _, _, _, rfl, alloc_is (h2 := h1) (a := 0) l rfl, hsm, hn⟩) (.inl hp)
end
end Mine
end

section
-- PL11
open PySem PySem.W PyProof.Rows PySem.Spec PySem.Calls
set_option maxRecDepth 100000
namespace Mine
/-- an iterator over a list, at its i-th item -/
def isIter {α : Type} (R : α → VP) (xs : List α) (i : Nat) : VP := fun v h => ∃ I l vs oI n, v = .ref I ∧ h.get? I = some oI ∧ oI.cls = .type "list_iterator" ∧ oI.data = .fields #[.ref l, .int i 0] ∧ h.get? l = some { cls := .type "list", data := .seq vs.toArray n } ∧ Are R xs vs h
section
variable {c : Cx} {env : Env} {h : Heap} {P P1 P2 : VP} {pos : Pos}
theorem b_iter {α : Type} {R : α → VP} [∀ x, Mo (R x)] {xs : List α} {vs : List Value} (x : AllP [isL R xs] vs h) : Pu c (call (.builtin "iter") vs) h (fun v hp => isIter R xs 0 v hp ∧ isNew h v) := by
  obtain ⟨u, rfl, p⟩ := x.one
  refine Pu.mk fun h1 tk Q E lt hq => ?_
  obtain ⟨l, ws, n, rfl, ho, ar⟩ := Mo.mo p lt.keep.stay
  have hl : h1.IsList l ws.toArray := ⟨_, lg_sub _ _ ho, rfl, n, rfl⟩
  refine call_function_entry (by decide +kernel) (by decide +kernel) kdk_entry_iter (kdk_args_iter _) ?_
  unfold Builtin.«iter»
  refine wpAny_bind (m := someArgs "iter" 1 2 _) (wpAny_of_eq (a := [Value.ref l]) (by first | rfl | kernel_rfl!) ?_)
  show wpAny _ _ (pyIter (.ref l) >>= _) _ _ _
  refine wpAny_bind (wpAny_pyIter_list (s := c.sh h1 tk) hl ?_)
  refine wpAny_pure ⟨_, rfl, hq _ _ tk (Kept.push _ _) ⟨⟨_, l, ws, _, n, rfl, alloc_is (h2 := h1) (a := 0) lt rfl, rfl, rfl, ?_, ar.stay (Kept.push _ _).lg.stay⟩, _, rfl, ?_⟩⟩
  · exact (Kept.push _ _).lg _ _ ho
  · cases q : h.get? h1.objs.size with
    | none => rfl
    | some o => have := lt.top _ _ q; rw [Heap.get?_none_of_le (Nat.le_refl _)] at this; cases this
/-- a is b, for two objects of which the second is no tuple -/
theorem Tst.isOther {l r : Expr} {a b : Addr} {oa ob : Obj} (hl : Ev c env l h (isV (.ref a))) (hr : Ev c env r h (isV (.ref b))) (ha : h.get? a = some oa) (hb : h.get? b = some ob) (hne : a ≠ b) (hnt : ob.cls ≠ .type "tuple") (hm : behindInMarks .Is r = false := by with_unfolding_all rfl) : Tst c env (.Compare l [.Is] [r] pos) h false :=
  Tst.cmp hl hr (fun x y h' k p q => by
    cases p; cases q
    refine Pu.mk fun h1 tk Q E lt hq => ?_
    show wpAny c.M c.A (do return .bool (← isSame (.ref a) (.ref b))) Q E _
    exact wpAny_bind (PySem.SeqAt.wpAny_isSame_ref_other' (s := c.sh h1 tk) hne (lt.top _ _ (k _ _ ha)) (lt.top _ _ (k _ _ hb)) hnt (wpAny_pure (hq _ h1 tk (Kept.refl _) rfl)))) hm
variable {h0 h' : Heap} {V : Vs} {N : Heap → Prop} {rest : List Stmt}
/-- x = e, where what e tells need not stay told -/
theorem Ex.assign' {x : Str} {e : Expr} {p1 p2 : Pos} (F : Fx c h0 env h V) (he : Ev c env e (lg c h) P1) (hr : ∀ v h1 h', Kept h h1 → P1 v (lg c h1) → Fx c h0 env h1 V → KB (Wr env) h1 h' → Fx c h0 env h' (upd V x v) → Ex c env h0 rest h' N P)
    (hk : env.kindOf x = some .local ∨ (env.kindOf x = some .cell ∧ (env.cells.lookup x).isSome = true) := by exact own_of (by rfl)) (hs : swapsWith e (some (.Name x p1)) p2.line env = pure false := by rfl) : Ex c env h0 (.Assign [.Name x p1] e p2 :: rest) h N P :=
  Ex.cons fun tk Q E hn _ => wpAny_Assign_Name (he h tk _ E F.lt fun v h1 tk1 k p => (F.toFm.at k).store (s := c.sh h1 tk1) hk fun h2 tk2 F2 kb =>
    hn h2 tk2 (hr v h1 h2 k p (F.at k) kb (F.next F2 (k.kb.trans kb)))) hs
theorem isIter.kb {α : Type} {R : α → VP} [∀ x, Mo (R x)] {xs : List α} {i : Nat} {v : Value} (F : Fx c h0 env h V) (kb : KB (Wr env) h h') (x : isIter R xs i v (lg c h)) : isIter R xs i v (lg c h') := by
  obtain ⟨I, l, vs, oI, n, rfl, e, hc, hd, hl, ar⟩ := x
  refine ⟨I, l, vs, oI, n, rfl, lg_get (kb _ _ (lg_sub _ _ e) (F.toFm.notWr (lg_sub _ _ e) ⟨fun _ _ q => (by rw [q] at hd; cases hd), fun _ q => (by rw [q] at hd; cases hd)⟩)) (lg_not e), hc, hd, F.stay kb _ _ hl rfl, ar.stay (F.stay kb)⟩
/-- for x in it: body, over an iterator that stands -/
theorem Sx.forI {x : Str} {it : Expr} {body : List Stmt} {px pos : Pos} {α : Type} {R : α → VP} [∀ x, Mo (R x)] {xs : List α} {i0 : Nat} {I : Addr} (hh : c.A.handled = none) (F : Fx c h0 env h V) (hi0 : i0 ≤ xs.length) (hI : isIter R xs i0 (.ref I) (lg c h)) (hI0 : h0.get? I = none) (hit : Ev c env it (lg c h) (isV (.ref I)))
    (J : Nat → Vs → Heap → Prop) (hJ0 : ∀ h', Kept h h' → J i0 V h') (hJs : ∀ i V1 h1 h2, J i V1 h1 → Strg h1 h2 → J i V1 h2)
    (turn : ∀ i y v V1 h1, xs[i]? = some y → J i V1 h1 → R y v (lg c h1) → Fx c h0 env h1 (upd V1 x v) → Ex c env h0 body h1 (fun h2 => ∃ V2, Fx c h0 env h2 V2 ∧ J (i + 1) V2 h2 ∧ KB (Wr env) h1 h2) P)
    (done : ∀ V1 h1, J xs.length V1 h1 → Fx c h0 env h1 V1 → N h1)
    (hk : env.kindOf x = some .local ∨ (env.kindOf x = some .cell ∧ (env.cells.lookup x).isSome = true) := by exact own_of (by rfl))
    (hs : ∀ y, foldedSetIterable it env y = pure y := by intro _; rfl) (ht : ∀ i v, letOwnedTupleGo (.Name x px) i v = pure () := by intro _ _; rfl) : Sx c env h0 (.For (.Name x px) it body [] pos) h N P :=
  Sx.mk fun tk Q E hn hr => wpAny_For (hit h tk _ E F.lt fun v hv tkv kv ev => by
    cases ev
    obtain ⟨I', l, vs, oI, n, eI', e, hc, hd, hl, ar⟩ := hI
    cases eI'
    have hIX := lg_not e
    have hlX := lg_not hl
    have e' := lg_sub _ _ e
    have hl' := lg_sub _ _ hl
    have hIW : ¬ Wr env I := F.toFm.notWr e' ⟨fun _ _ q => (by rw [q] at hd; cases hd), fun _ q => (by rw [q] at hd; cases hd)⟩
    have hlW : ¬ Wr env l := F.toFm.notWr hl' ⟨fun _ _ q => (by cases q), fun _ q => (by cases q)⟩
    have hlI : l ≠ I := fun q => by rw [q, e'] at hl'; cases hl'; cases hd
    have W := Walks.list (prog := c.prog) (w := c.w) hh I l hlI vs.toArray
    rw [show vs.toArray.size = xs.length by rw [List.size_toArray]; exact ar.len] at W
    have st0 : hv.IsListIter I l i0 ∧ hv.IsList l vs.toArray := ⟨⟨oI, kv _ _ e', hc, hd⟩, ⟨_, kv _ _ hl', rfl, n, rfl⟩⟩
    refine W.self i0 (c.sh hv tkv) _ E st0 ?_
    refine codeAny_forLoop (fun n s => ∃ i V1 h1 tk1, s = c.sh h1 tk1 ∧ i ≤ xs.length ∧ n = xs.length + 1 - i ∧ (h1.IsListIter I l i ∧ h1.IsList l vs.toArray) ∧ J i V1 h1 ∧ Fx c h0 env h1 V1 ∧ Stay (lg c h) (lg c h1)) ?_ (xs.length + 1 - i0)
      ⟨i0, V, hv, tkv, rfl, hi0, rfl, st0, hJ0 _ kv, F.at kv, kv.lg.stay⟩ (fun v => ht _ v)
    rintro n' s ⟨i, V1, h1, tk1, rfl, hi, rfl, hst, hJ, F1, sy1⟩
    obtain ⟨oI1, eI1, hc1, hd1⟩ := id hst.1
    have weak : strongO oI1 = false := (iter_fields hc1 hd1).weak
    have but : ∀ {h2}, (∀ b o, b ∉ [I] → h1.get? b = some o → h2.get? b = some o) → Fx c h0 env h2 V1 := fun hk2 => by
      have hk2' : ∀ b o, b ≠ I → h1.get? b = some o → _ := fun b o q e => hk2 b o (by simpa using q) e
      refine ⟨⟨F1.kind, ?_, fun b o eo => hk2' b o (fun q => ?_) (F1.kept b o eo), F1.newL, fun n a ea => ?_, F1.apart, F1.newC, F1.ne, F1.kinds, F1.mem⟩, fun z hz => let ⟨w, o, e⟩ := F1.hid z hz; ⟨w, o, hk2' z o (fun q => hIX (q ▸ hz)) e⟩⟩
      · obtain ⟨m, f, e⟩ := F1.loc
        exact ⟨m, f.at' fun o eo => hk2' _ o (fun q => hIW (.inl q.symm)) eo, e⟩
      · rw [q, hI0] at eo; cases eo
      · obtain ⟨o, eo, hd⟩ := F1.cell n a ea
        exact ⟨o, hk2' a o (fun q => hIW (.inr ⟨n, q ▸ ea⟩)) eo, hd⟩
    by_cases hlt : i < xs.length
    · refine W.item i (c.sh h1 tk1) _ _ hlt hst fun u h2 tk2 hP hst2 hk2 => ?_
      have F2 := but hk2
      refine wpAny_assign_Name (F2.toFm.store (s := c.sh h2 tk2) hk fun h3 tk3 F3 kb3 => ?_)
      have st12 : Strg h1 h2 := but_str eI1 weak hk2
      have st23 : Strg h2 h3 := F2.toFm.str kb3
      obtain ⟨y, hy⟩ : ∃ y, xs[i]? = some y := ⟨xs[i], List.getElem?_eq_getElem hlt⟩
      have sy3 : Stay (lg c h) (lg c h3) := sy1.trans (st12.trans st23).lg.stay
      have hR0 : R y u (lg c h3) := Mo.mo (ar.at' i y u hy (by simpa using hP)) sy3
      have fr : ∀ {a b : Heap}, KB (Wr env) a b → (∀ q ∈ [I, l], ∀ o, a.get? q = some o → b.get? q = some o) := fun kb q hq o eo => kb q o eo (by
        simp at hq; rcases hq with rfl | rfl
        · exact hIW
        · exact hlW)
      have hst3 := W.frame _ _ _ hst2 (fr kb3)
      refine turn i y u V1 h3 hy (hJs _ _ _ _ hJ (st12.trans st23)) hR0 (F2.next F3 kb3) tk3 _ _ (fun h4 tk4 ⟨V2, F4, hJ4, kb4⟩ => ?_) (fun v h4 tk4 k4 p => hr v h4 tk4 k4 p)
      exact ⟨xs.length + 1 - (i + 1), by omega, i + 1, V2, h4, tk4, rfl, hlt, rfl, W.frame _ _ _ hst3 (fr kb4), hJ4, F4, sy3.trans ((F2.next F3 kb3).stay kb4)⟩
    · obtain rfl : i = xs.length := Nat.le_antisymm hi (Nat.not_lt.mp hlt)
      refine W.done (c.sh h1 tk1) _ _ hst fun h2 tk2 hk2 => ?_
      exact wpAny_execs_nil (hn h2 tk2 (done V1 h2 (hJs _ _ _ _ hJ (but_str eI1 weak hk2)) (but hk2)))) hs
end
end Mine
end

section
-- S1
open PySem PySem.W PyProof.Rows
set_option maxRecDepth 100000
namespace Mine
/-- the comparison tree by an oracle -/
def runT {α : Type} (lt : Nat → Nat → Bool) : KasT α → α
  | .ret a => a
  | .ask i j k => runT lt (k (lt i j))
/-- only the first n are asked of -/
def asksT {α : Type} (n : Nat) : KasT α → Bool
  | .ret _ => true
  | .ask i j k => Nat.blt i n && (Nat.blt j n && (asksT n (k true) && asksT n (k false)))
theorem runT_wp {α : Type} {cmp : Nat → Nat → (Bool → Shared → Prop) → Shared → Prop} {lt : Nat → Nat → Bool} {n : Nat} {I : Shared → Prop}
    (hc : ∀ i j s (C : Bool → Shared → Prop), i < n → j < n → I s → (∀ s', I s' → C (lt i j) s') → cmp i j C s) :
    ∀ (t : KasT α) (Q : α → Shared → Prop) (s : Shared), asksT n t = true → I s → (∀ s', I s' → Q (runT lt t) s') → t.kasWp cmp Q s
  | .ret a, Q, s, _, hs, h => h s hs
  | .ask i j k, Q, s, ha, hs, h => by
    simp only [asksT, Bool.and_eq_true] at ha
    refine hc i j s _ (Nat.le_of_ble_eq_true ha.1) (Nat.le_of_ble_eq_true ha.2.1) hs fun s' hs' => ?_
    refine runT_wp hc (k (lt i j)) Q s' ?_ hs' fun s'' hs'' => h s'' hs''
    cases lt i j
    · exact ha.2.2.2
    · exact ha.2.2.1
def digits (n : Nat) : Nat → List (List Nat)
  | 0 => [[]]
  | m + 1 => (digits n m).flatMap fun l => (List.range n).map fun d => d :: l
def risesB (r : Nat → Nat) : List Nat → Bool
  | [] => true
  | x :: l => l.all (fun y => Nat.blt (r x) (r y) || (Nat.beq (r x) (r y) && Nat.blt x y)) && risesB r l
def okSort (n : Nat) (l : List Nat) : Bool :=
  let p := (runT (fun i j => Nat.blt (l.getD i 0) (l.getD j 0)) (kas_sort n)).toList
  risesB (fun i => l.getD i 0) p && p.isPerm (List.range n)
theorem asks5 : asksT 2 (kas_sort 2) = true ∧ asksT 3 (kas_sort 3) = true ∧ asksT 4 (kas_sort 4) = true ∧ asksT 5 (kas_sort 5) = true := by decide +kernel
/-- how many of l are less than x -/
def cntB (x : Nat) : List Nat → Nat
  | [] => 0
  | y :: l => cond (Nat.blt y x) (cntB x l).succ (cntB x l)
/-- each is the number of those of a less than it -/
def canonB (a : List Nat) : List Nat → Bool
  | [] => true
  | x :: l => cond (Nat.beq (cntB x a) x) (canonB a l) false
def sift (p : List Nat → Bool) : List (List Nat) → List (List Nat)
  | [] => []
  | l :: ls => cond (p l) (l :: sift p ls) (sift p ls)
theorem mem_sift {p : List Nat → Bool} {l : List Nat} (hp : p l = true) : ∀ {ls : List (List Nat)}, l ∈ ls → l ∈ sift p ls
  | m :: ls, h => by
    unfold sift
    rcases List.mem_cons.mp h with rfl | h
    · rw [hp]; exact List.mem_cons_self
    · have := mem_sift hp h
      cases p m
      · exact this
      · exact List.mem_cons_of_mem _ this
/-- the tree, gone down once with all the rank lists; at each end those that come there are sorted by it -/
def okT (n : Nat) : KasT (Array Nat) → List (List Nat) → Bool
  | .ret a, ls => ls.all (fun l => risesB (fun i => l.getD i 0) a.toList) && a.toList.isPerm (List.range n)
  | .ask i j k, ls => okT n (k true) (sift (fun l => Nat.blt (l.getD i 0) (l.getD j 0)) ls) && okT n (k false) (sift (fun l => not (Nat.blt (l.getD i 0) (l.getD j 0))) ls)
theorem okT_ok {n : Nat} {l : List Nat} : ∀ (t : KasT (Array Nat)) (ls : List (List Nat)), okT n t ls = true → l ∈ ls →
    (risesB (fun i => l.getD i 0) (runT (fun i j => Nat.blt (l.getD i 0) (l.getD j 0)) t).toList && (runT (fun i j => Nat.blt (l.getD i 0) (l.getD j 0)) t).toList.isPerm (List.range n)) = true
  | .ret a, ls, h, hl => by
    simp only [okT, Bool.and_eq_true] at h
    exact Bool.and_eq_true _ _ ▸ ⟨List.all_eq_true.mp h.1 l hl, h.2⟩
  | .ask i j k, ls, h, hl => by
    simp only [okT, Bool.and_eq_true] at h
    cases e : Nat.blt (l.getD i 0) (l.getD j 0) with
    | true =>
      have := okT_ok (k true) _ h.1 (mem_sift (p := fun l => Nat.blt (l.getD i 0) (l.getD j 0)) e hl)
      simp only [runT, e]
      exact this
    | false =>
      have := okT_ok (k false) _ h.2 (mem_sift (p := fun l => not (Nat.blt (l.getD i 0) (l.getD j 0))) (by show (!Nat.blt (l.getD i 0) (l.getD j 0)) = true; rw [e]; rfl) hl)
      simp only [runT, e]
      exact this
theorem sort2 : okT 2 (kas_sort 2) (sift (fun l => canonB l l) (digits 2 2)) = true := by decide +kernel
theorem sort3 : okT 3 (kas_sort 3) (sift (fun l => canonB l l) (digits 3 3)) = true := by decide +kernel
theorem sort4 : okT 4 (kas_sort 4) (sift (fun l => canonB l l) (digits 4 4)) = true := by decide +kernel
theorem sort5 : okT 5 (kas_sort 5) (sift (fun l => canonB l l) (digits 5 5)) = true := by decide +kernel
theorem canon_mem {a : List Nat} : ∀ {l : List Nat}, (∀ x ∈ l, cntB x a = x) → canonB a l = true
  | [], _ => rfl
  | x :: l, h => by
    have e : Nat.beq (cntB x a) x = true := Nat.beq_eq ▸ h x List.mem_cons_self
    unfold canonB
    rw [e]
    exact canon_mem fun y hy => h y (List.mem_cons_of_mem _ hy)
theorem cnt_map {r : Nat → Nat} {x : Nat} : ∀ {l : List Nat}, cntB x (l.map r) = l.countP fun k => Nat.blt (r k) x
  | [] => rfl
  | k :: l => by
    rw [List.map_cons, List.countP_cons]
    unfold cntB
    rw [cnt_map]
    cases Nat.blt (r k) x <;> rfl
end Mine
end

section
-- PL12
open PySem PySem.W PyProof.Rows PySem.Spec PySem.Calls
set_option maxRecDepth 100000
namespace Mine
/-- all the items of v, taken -/
def Coll (c : Cx) {α : Type} (R : α → VP) (xs : List α) : VP := fun v h => ∀ (s : Shared) (A : Around) (Q : List Value → Shared → Prop) (E : Value → Shared → Prop), A.handled = none → Lt c h s.heap →
  (∀ vs h' tk, Kept s.heap h' → Are R xs vs (lg c h') → Q vs { s with heap := h', toks := tk }) → wpAny c.M A (collect v) Q E s
section
variable {c : Cx} {α : Type} {R : α → VP} {xs : List α} {v : Value} {h : Heap}
theorem isR.coll {a b d : Int} {n : Nat} (x : isR a b d n v h) (hn : n ≤ 2 ^ 24) : Coll c isI (rangeL a d n) v h := fun s A Q E hh k hq => by
  obtain ⟨r, t, u, w, rfl, hr, hsm, hn'⟩ := x
  have hr' : IsRange s.heap r a b d t u w := k.top _ _ hr
  have hlen : (rangeL a d n).length = n := by unfold rangeL; simp
  unfold collect
  refine wpAny_bind (wpAny_runValue (codeAny_builtin entry_proto_collect' ?_))
  rw [Around.under_plainId PySem.F.plain_proto_collect _]
  show wpAny _ A.in1 (newList [] >>= fun l => again (.builtin "list.__iadd__" ⟨[l, .ref r], []⟩)) _ _ s
  refine wpAny_bind (wpAny_newObj_type ?_)
  refine wpAny_pure ⟨plainId_quiet PySem.F.plain_list_iadd _, codeAny_builtin entry_list_iadd' ?_⟩
  rw [Around.under_plainId PySem.F.plain_list_iadd _]
  have hS₁ : (s.heap.push { cls := .type "list", data := .seq ([] : List Value).toArray }).get? s.heap.objs.size = some { cls := .type "list", data := .seq #[] } := Heap.get?_push_size _ rfl
  show wpAny _ A.in1 (Builtin.List.listExtendWith (.ref s.heap.objs.size) (.ref r) (.ref s.heap.objs.size)) _ _ _
  have fin : ∀ (h' : Heap) (tk : Nat) (acc' : Array Value), Kept s.heap h' → ItemsOf (fun i v => ∃ t, v = .int (a + i * d) t) acc' n → Q acc'.toList { s with heap := h', toks := tk } := fun h' tk acc' kk it => by
    refine hq _ h' tk kk ⟨by rw [hlen, Array.length_toList]; exact it.1, fun i y u hy hu => ?_⟩
    obtain ⟨t, rfl⟩ := it.2 i u (by simpa using hu)
    have hi : i < n := by
      have := (List.getElem?_eq_some_iff.mp hy).1
      rwa [hlen] at this
    unfold rangeL at hy
    rw [List.getElem?_map, List.getElem?_range hi] at hy
    simp at hy
    exact ⟨t, by rw [← hy]⟩
  have key := wpAny_extend_range (prog := c.prog) (w := c.w) (A := A) (s := { s with heap := s.heap.push { cls := .type "list", data := .seq ([] : List Value).toArray } })
    (R := fun (q : Result) (s' : Shared) => ∃ (h' : Heap) (tk : Nat) (acc' : Array Value) (c' : Nat), q = .ok (.ret (.ref s.heap.objs.size)) ∧ s' = { s with heap := h', toks := tk } ∧
      (∀ b o, s.heap.get? b = some o → h'.get? b = some o) ∧ h'.get? s.heap.objs.size = some { cls := .type "list", dict := none, data := .seq acc' c', slots := #[] } ∧ ItemsOf (fun i v => ∃ t, v = .int (a + i * d) t) acc' n)
    hh (Heap.get?_push_of_some _ hr') hsm hn' hn s.heap.objs.size (.ref s.heap.objs.size) 0 hS₁
    (fun h' tk acc' c' hk hS' hacc => ⟨h', tk, acc', c', rfl, rfl, fun b o e => hk b o (Nat.ne_of_lt (Heap.lt_size e)) (Heap.get?_push_of_some _ e), hS', hacc⟩)
  refine wpAny_mono key (fun fi s' x => ?_) fun e s' x => ?_
  · cases fi with
    | done f =>
      obtain ⟨h', tk, acc', c', e, rfl, hk, hS', hacc⟩ := x
      cases e
      show wpAny _ A (load s.heap.objs.size >>= _) _ _ _
      refine wpAny_bind (wpAny_load hS' ?_)
      exact wpAny_pure (fin h' tk acc' hk hacc)
    | again c₁ =>
      refine ⟨x.1, codeAny_mono x.2 fun q s₂ y => ?_⟩
      obtain ⟨h', tk, acc', c', rfl, rfl, hk, hS', hacc⟩ := y
      show wpAny _ A (load s.heap.objs.size >>= _) _ _ _
      refine wpAny_bind (wpAny_load hS' ?_)
      exact wpAny_pure (fin h' tk acc' hk hacc)
  · obtain ⟨_, _, _, _, e', _⟩ := x
    cases e'
end
end Mine
end

section
-- PL13
open PySem PySem.W PyProof.Rows PySem.Spec PySem.Calls
set_option maxRecDepth 100000
namespace Mine
/-- what list.sort makes of n items, by the comparison of positions lt -/
def sortPerm (n : Nat) (lt : Nat → Nat → Bool) : List Nat := if n < 2 then List.range n else (runT lt (kas_sort n)).toList
def permL {α : Type} (p : List Nat) (xs : List α) : List α := p.filterMap fun i => xs[i]?
theorem permL_range {α : Type} (xs : List α) : permL (List.range xs.length) xs = xs := by
  unfold permL
  have : ∀ (n : Nat), n ≤ xs.length → (List.range n).filterMap (fun i => xs[i]?) = xs.take n := by
    intro n
    induction n with
    | zero => simp
    | succ n ih =>
      intro hn
      rw [List.range_succ, List.filterMap_append, ih (by omega), List.take_add_one]
      simp [List.getElem?_eq_getElem (show n < xs.length by omega)]
  rw [this _ (Nat.le_refl _), List.take_length]
/-- two lists in the making are hidden -/
abbrev Cx.hide2 (c : Cx) (D k : Addr) : Cx := { c with X := k :: D :: c.X }
section
variable {c : Cx} {α : Type} {R : α → VP} [∀ x, Mo (R x)] {KK : α → VP} [∀ x, Mo (KK x)] {xs : List α} {h h2 : Heap} {D kS : Addr} {T : Value}
/-- within a sort: the heap h2 is kept, the list D stands empty -/
structure SIn (c : Cx) (h2 : Heap) (D kS : Addr) (e1 : Nat) (h' : Heap) : Prop where
  kept : Kept h2 h'
  D : h'.get? D = some (seqObj "list" #[] e1)
  k : ∃ o, h'.get? kS = some o
theorem SIn.lt {e1 : Nat} {h' : Heap} (s : SIn c h2 D kS e1 h') (l : Lt c h h2) (hD : h2.get? D = none) (hk : h2.get? kS = none) : Lt (c.hide2 D kS) h h' :=
  ⟨fun b o e => lg_get (s.kept _ _ (l.top _ _ e)) fun q => by
    rcases List.mem_cons.mp q with rfl | q
    · rw [l.top _ _ e] at hk; cases hk
    rcases List.mem_cons.mp q with rfl | q
    · rw [l.top _ _ e] at hD; cases hD
    · exact lg_not (l.keep _ _ e) q, fun x hx => by
    rcases List.mem_cons.mp hx with rfl | hx
    · exact s.k
    rcases List.mem_cons.mp hx with rfl | hx
    · exact ⟨_, s.D⟩
    · obtain ⟨o, e⟩ := l.old x hx; exact ⟨o, s.kept _ _ e⟩⟩
theorem lg_hide2 {h1 h2 : Heap} (k : ∀ b o, b ≠ D → b ≠ kS → h1.get? b = some o → h2.get? b = some o) : Kept (lg (c.hide2 D kS) h1) (lg (c.hide2 D kS) h2) := fun b o e =>
  lg_get (k b o (fun q => lg_not e (by rw [q]; exact List.mem_cons_of_mem _ List.mem_cons_self)) (fun q => lg_not e (by rw [q]; exact List.mem_cons_self)) (lg_sub _ _ e)) (lg_not e)
/-- the tail: what was sorted goes back into D -/
theorem sort_tail {E : Value → Shared → Prop} {P : PySem.Fin → Shared → Prop} {A : Around} {st : SortSt} {e1 e : Nat} {kA : Array Value} {h' : Heap} {tk : Nat} {out : Array Value}
    (s : SIn c h2 D kS e1 h') (hkS : h'.get? kS = some (seqObj "list" kA e)) (hne : kS ≠ D) (hD : h2.get? D = none) (hk : h2.get? kS = none) (hz : kA.size ≤ sizeLine) (ho : (arrOf st).map (·.2) = out) (hzo : out.size ≤ sizeLine) (hf : failedOf st = none)
    (h : ∀ h3 n, Kept h2 h3 → h3.get? D = some (seqObj "list" out n) → Kept (lg (c.hide2 D kS) h') (lg (c.hide2 D kS) h3) → P (.done (.ret .none)) (c.sh h3 tk)) :
    wpAny c.M A (ksk_tail D false e1 (.ref kS) st) P E (c.sh h' tk) := by
  have s1 := Heap.SameBut.update h' kS (Obj.mapSeq fun _ => (#[] : Array Value))
  have na1 : (h'.update kS (Obj.mapSeq fun _ => (#[] : Array Value))).get? D = some (seqObj "list" #[] e1) := (s1.2 D (Ne.symm hne)).trans s.D
  have s2 := Heap.SameBut.update (h'.update kS (Obj.mapSeq fun _ => (#[] : Array Value))) D (Obj.mapSeq fun _ => out)
  obtain ⟨c2, hc2⟩ : ∃ c2, ((h'.update kS (Obj.mapSeq fun _ => (#[] : Array Value))).update D (Obj.mapSeq fun _ => out)).get? D = some (seqObj "list" out c2) := ⟨_, get?_update_seq na1 fun _ => out⟩
  have kk : ∀ b o, b ≠ D → b ≠ kS → h'.get? b = some o → ((h'.update kS (Obj.mapSeq fun _ => (#[] : Array Value))).update D (Obj.mapSeq fun _ => out)).get? b = some o := fun b o q1 q2 e => (s2.2 b q1).trans ((s1.2 b q2).trans e)
  unfold ksk_tail
  try dsimp only
  refine wpAny_bind (listUpdate_at (s := c.sh h' tk) hkS rfl ?_ hz (Nat.zero_le _))
  refine wpAny_bind (wpAny_letGo ?_)
  refine wpAny_bind (seqEpoch_at na1 rfl ?_)
  rw [ho, hf]
  simp only [bne_self_eq_false, Bool.false_eq_true, if_false]
  refine wpAny_bind (listUpdate_at na1 rfl ?_ (Nat.zero_le _) (Nat.le_trans hzo (Nat.le_succ _)))
  refine wpAny_pure (h _ c2 (fun b o eb => kk b o (fun q => ?_) (fun q => ?_) (s.kept b o eb)) hc2 (lg_hide2 kk))
  · rw [q, hD] at eb; cases eb
  · rw [q, hk] at eb; cases eb
theorem zip_get {ks vs : List Value} {i : Nat} (hl : ks.length = vs.length) : kas_item (ks.toArray.zip vs.toArray) i = (ks.getD i Value.none, vs.getD i Value.none) := by
  unfold kas_item
  by_cases q : i < vs.length
  · have q' : i < ks.length := by omega
    have q'' : i < (ks.toArray.zip vs.toArray).size := by simp [Array.size_zip, hl]; exact q
    simp [Array.getD, q, q', hl]
  · have q' : ¬ i < ks.length := by omega
    simp [Array.getD, q, q', hl]
theorem sort_end {A : Around} {E : Value → Shared → Prop} {P : PySem.Fin → Shared → Prop} {lt : Nat → Nat → Bool} {e1 e : Nat} {ks vs : List Value} {h' : Heap} {tk : Nat}
    (l : Lt c h h2) (s : SIn c h2 D kS e1 h') (hkS : h'.get? kS = some (seqObj "list" ks.toArray e)) (hne : kS ≠ D) (hD : h2.get? D = none) (hk : h2.get? kS = none)
    (ar : Are KK xs ks (lg (c.hide2 D kS) h')) (vr : Are R xs vs (lg c h2)) (h64 : xs.length < 64) (has : 2 ≤ xs.length → asksT xs.length (kas_sort xs.length) = true) (hp : ∀ i ∈ sortPerm xs.length lt, i < xs.length)
    (hT : ∀ x u g, KK x u g → ∃ a o, u = .ref a ∧ g.get? a = some o ∧ o.cls = T) (hT1 : (T != Value.type "tuple") = true) (hT2 : (T == T) = true)
    (hcmp : ∀ i j x y u v g, xs[i]? = some x → xs[j]? = some y → Kept h g → KK x u g → KK y v g → Pu { c.hide2 D kS with A := A } (keyLt' oneType' u v) g (fun b _ => b = lt i j))
    (h : ∀ h3 n tk' out, Kept h2 h3 → h3.get? D = some (seqObj "list" (List.toArray out) n) → Are R (permL (sortPerm xs.length lt) xs) out (lg c h2) → P (.done (.ret .none)) (c.sh h3 tk')) :
    wpAny c.M A (ksk_end D false vs.toArray e1 (.ref kS) ks.toArray) P E (c.sh h' tk) := by
  have hkl := ar.len
  have hvl := vr.len
  have hkv : ks.length = vs.length := by omega
  have hzs : (ks.toArray.zip vs.toArray).size = xs.length := by simp [hkl, hvl]
  have hz64 : ks.toArray.size ≤ sizeLine := by rw [List.size_toArray, sizeLine_eq]; omega
  unfold ksk_end
  try dsimp only
  rw [if_neg (by simp)]
  by_cases h2' : vs.toArray.size < 2
  · rw [if_pos h2', if_pos h2']
    rw [List.size_toArray, hvl] at h2'
    refine wpAny_bind (wpAny_pure ?_)
    rw [StateT.run_pure]
    refine wpAny_bind (wpAny_pure ?_)
    try dsimp only
    have eo : (arrOf (SortSt.mk' general' (if false = true then (ks.toArray.zip vs.toArray).reverse else ks.toArray.zip vs.toArray) #[] 7 none)).map (·.2) = vs.toArray := by
      show (ks.toArray.zip vs.toArray).map (·.2) = _
      apply Array.toList_inj.mp
      rw [Array.toList_map, ksk_zip]
      simp [List.map_snd_zip, hkv]
    refine sort_tail s hkS hne hD hk hz64 eo (by rw [List.size_toArray, sizeLine_eq]; omega) rfl fun h3 n k3 e3 _ => h h3 n tk vs k3 e3 ?_
    unfold sortPerm
    rw [if_pos h2', permL_range]
    exact vr
  · rw [if_neg h2', if_neg h2']
    rw [List.size_toArray, hvl] at h2'
    refine wpAny_bind (kas_kind (T := T) (by omega) (fun v hv => ?_) hT1 hT2 ?_)
    · obtain ⟨i, hi, rfl⟩ := List.getElem_of_mem hv
      obtain ⟨a, o, e, eo, ec⟩ := hT _ _ _ (ar.at' i xs[i] ks[i] (List.getElem?_eq_getElem (by omega)) (List.getElem?_eq_getElem hi))
      rw [e]
      exact ec ▸ (Looks.ld (lg_sub _ _ eo)).andThen .now
    have est : SortSt.mk' oneType' (ks.toArray.zip vs.toArray) #[] 7 none = kas_st oneType' (ks.toArray.zip vs.toArray) (List.toArray (List.range xs.length)) := by
      have e := kas_range (ks.toArray.zip vs.toArray)
      rw [hzs] at e
      show _ = SortSt.mk' oneType' ((List.toArray (List.range xs.length)).map (kas_item (ks.toArray.zip vs.toArray))) #[] 7 none
      rw [e]
    rw [if_neg (by simp), est]
    refine wpAny_bind (kas_runs (Q := fun _ st' s' => wpAny c.M A (ksk_tail D false e1 (.ref kS) st') P E s') (G := fun p s' => p = runT lt (kas_sort xs.length) ∧ ∃ g tk', s' = c.sh g tk' ∧ Kept h' g) (by omega) h64 (fun p' st' s' a1 a2 a3 a4 => ?_) ?_)
    · obtain ⟨rfl, g, tk', rfl, kg⟩ := a4
      have s' : SIn c h2 D kS e1 g := ⟨s.kept.trans kg, kg _ _ s.D, _, kg _ _ hkS⟩
      have hps : sortPerm xs.length lt = (runT lt (kas_sort xs.length)).toList := by unfold sortPerm; rw [if_neg h2']
      refine sort_tail (out := List.toArray ((runT lt (kas_sort xs.length)).toList.map fun i => vs.getD i Value.none)) s' (kg _ _ hkS) hne hD hk hz64 ?_ ?_ a3 fun h3 n k3 e3 _ => h h3 n tk' _ k3 e3 ?_
      · rw [a2]
        apply Array.toList_inj.mp
        rw [Array.map_map, Array.toList_map]
        exact List.map_congr_left fun i _ => by show (kas_item _ i).2 = _; rw [zip_get hkv]
      · rw [List.size_toArray, List.length_map, Array.length_toList, a1, sizeLine_eq]; omega
      · rw [hps]
        have : ∀ p : List Nat, (∀ i ∈ p, i < xs.length) → Are R (permL p xs) (p.map fun i => vs.getD i Value.none) (lg c h2) := by
          intro p
          induction p with
          | nil => intro _; exact Are.nil
          | cons i p ih =>
            intro hp
            have hi := hp i List.mem_cons_self
            unfold permL
            rw [List.filterMap_cons, List.getElem?_eq_getElem hi, List.map_cons]
            refine Are.cons ?_ (ih fun j hj => hp j (List.mem_cons_of_mem _ hj))
            refine vr.at' i _ _ (List.getElem?_eq_getElem hi) ?_
            have hi' : i < vs.length := by omega
            simp [hi']
        exact this _ (hps ▸ hp)
    · refine runT_wp (n := xs.length) (I := fun s' => ∃ g tk', s' = c.sh g tk' ∧ Kept h' g) (fun i j s'' C hi hj hI hC => ?_) _ _ _ (has (by omega)) ⟨h', tk, rfl, Kept.refl _⟩ fun s'' hI => ⟨rfl, hI⟩
      obtain ⟨g, tk', rfl, kg⟩ := hI
      unfold kas_cmp
      rw [zip_get hkv, zip_get hkv]
      have s' : SIn c h2 D kS e1 g := ⟨s.kept.trans kg, kg _ _ s.D, _, kg _ _ hkS⟩
      have l' := s'.lt l hD hk
      have arg := ar.stay (kg.lg (c := c.hide2 D kS)).stay
      have gi : ∀ i, i < xs.length → ks[i]? = some (ks.getD i Value.none) := fun i hi => by
        have : i < ks.length := by omega
        simp [this]
      refine hcmp i j xs[i] xs[j] _ _ _ (List.getElem?_eq_getElem hi) (List.getElem?_eq_getElem hj) l'.keep (arg.at' i _ _ (List.getElem?_eq_getElem hi) (gi i hi)) (arg.at' j _ _ (List.getElem?_eq_getElem hj) (gi j hj)) g tk' _ _ ⟨l'.lg.keep, l'.lg.old⟩ fun b g2 tk2 k2 e => ?_
      subst e
      exact hC _ ⟨g2, tk2, rfl, kg.trans k2⟩
theorem sort_rest {A : Around} {E : Value → Shared → Prop} {P : PySem.Fin → Shared → Prop} {lt : Nat → Nat → Bool} {e1 : Nat} {vs : List Value} {h' : Heap} {tk : Nat} {f : Value}
    (l : Lt c h h2) (s : SIn c h2 D kS e1 h') (hkS : h'.get? kS = some (seqObj "list" #[] 0)) (hne : kS ≠ D) (hD : h2.get? D = none) (hk : h2.get? kS = none)
    (vr : Are R xs vs (lg c h2)) (h64 : xs.length < 64) (has : 2 ≤ xs.length → asksT xs.length (kas_sort xs.length) = true) (hp : ∀ i ∈ sortPerm xs.length lt, i < xs.length)
    (hT : ∀ x u g, KK x u g → ∃ a o, u = .ref a ∧ g.get? a = some o ∧ o.cls = T) (hT1 : (T != Value.type "tuple") = true) (hT2 : (T == T) = true)
    (hkey : ∀ (i : Nat) (x : α) v g, xs[i]? = some x → Kept h g → R x v g → Pu { c.hide2 D kS with A := A } (call f [v]) g (KK x))
    (hcmp : ∀ i j x y u v g, xs[i]? = some x → xs[j]? = some y → Kept h g → KK x u g → KK y v g → Pu { c.hide2 D kS with A := A } (keyLt' oneType' u v) g (fun b _ => b = lt i j))
    (h : ∀ h3 n tk' out, Kept h2 h3 → h3.get? D = some (seqObj "list" (List.toArray out) n) → Are R (permL (sortPerm xs.length lt) xs) out (lg c h2) → P (.done (.ret .none)) (c.sh h3 tk')) :
    wpAny c.M A (ksk_rest D f false vs.toArray e1 (.ref kS)) P E (c.sh h' tk) := by
  have hvl := vr.len
  unfold ksk_rest
  refine wpAny_bind (wpAny_rule ?_)
  first
    | rw [List.forIn_toArray]
    | (rw [← Array.forIn_toList]; simp only [List.toList_toArray])
    | rw [← Array.forIn_toList]
  refine wpAny_bind (ksk_fold (fun i s' => ∃ g tk ks e, s' = c.sh g tk ∧ SIn c h2 D kS e1 g ∧ g.get? kS = some (seqObj "list" (List.toArray ks) e) ∧ Are KK (xs.take i) ks (lg (c.hide2 D kS) g)) vs 0 _
    ⟨h', tk, [], 0, rfl, s, hkS, by simpa using Are.nil⟩ ?step ?done)
  case step =>
    rintro j v s' hv ⟨g, tk, ks, e, rfl, s1, hk1, ar⟩
    simp only [Nat.zero_add] at ar ⊢
    have hj : j < vs.length := (List.getElem?_eq_some_iff.mp hv).1
    obtain ⟨x, hx⟩ : ∃ x, xs[j]? = some x := ⟨_, List.getElem?_eq_getElem (by omega)⟩
    have l' := s1.lt l hD hk
    have hkl : ks.length ≤ xs.length := by rw [ar.len, List.length_take]; exact Nat.min_le_right _ _
    have hxv : R x v (lg (c.hide2 D kS) g) := Mo.mo (vr.at' j x v hx hv) fun b o eb q => lg_get (s1.kept _ _ (lg_sub _ _ eb)) fun z => by
      rcases List.mem_cons.mp z with rfl | z
      · rw [lg_sub _ _ eb] at hk; cases hk
      rcases List.mem_cons.mp z with rfl | z
      · rw [lg_sub _ _ eb] at hD; cases hD
      · exact lg_not eb z
    refine wpAny_bind (wpAny_attempt (hkey j x v _ hx l'.keep hxv g tk _ _ ⟨l'.lg.keep, l'.lg.old⟩ fun u g2 tk2 k2 p2 => ?_))
    try dsimp only
    have hk2 := k2 _ _ hk1
    have sb := Heap.SameBut.update g2 kS (Obj.mapSeq (·.push u))
    obtain ⟨c2, hc2⟩ : ∃ c2, (g2.update kS (Obj.mapSeq (·.push u))).get? kS = some (seqObj "list" (ks.toArray.push u) c2) := ⟨_, get?_update_seq hk2 (·.push u)⟩
    have kl : Kept (lg (c.hide2 D kS) g2) (lg (c.hide2 D kS) (g2.update kS (Obj.mapSeq (·.push u)))) := lg_hide2 fun b o _ q e => (sb.2 b q).trans e
    refine wpAny_bind (listUpdate_at (s := c.sh g2 tk2) hk2 rfl ?_ (by rw [List.size_toArray, sizeLine_eq]; omega) (Nat.le_trans (Nat.le_of_eq (Array.size_push ..)) (by rw [List.size_toArray, sizeLine_eq]; omega)))
    refine wpAny_pure ⟨rfl, _, tk2, ks ++ [u], c2, rfl, ⟨fun b o eb => (sb.2 b (fun q => ?_)).trans (k2 _ _ (s1.kept _ _ eb)), (sb.2 D (Ne.symm hne)).trans (k2 _ _ s1.D), _, hc2⟩, ?_, ?_⟩
    · rw [q, hk] at eb; cases eb
    · rw [hc2]; simp
    · rw [List.take_add_one, hx]
      exact ((ar.stay (k2.lg (c := c.hide2 D kS)).stay).stay kl.stay).snoc (Mo.mo p2 kl.stay)
  case done =>
    rintro s' ⟨g, tk, ks, e, rfl, s1, hk1, ar⟩
    rw [List.take_of_length_le (by omega)] at ar
    try dsimp only
    refine wpAny_bind (listItems_at (s := c.sh g tk) hk1 rfl ?_)
    exact sort_end l s1 hk1 hne hD hk ar vr h64 has hp hT hT1 hT2 hcmp h
/-- sorted(it, key=f) -/
theorem b_sortedK {q : Addr} {v : Value} {lt : Nat → Nat → Bool} (hR : c.A.handled = none)
    (hc : Coll c R xs v h) (h64 : xs.length < 64) (has : 2 ≤ xs.length → asksT xs.length (kas_sort xs.length) = true) (hp : ∀ i ∈ sortPerm xs.length lt, i < xs.length)
    (hT : ∀ x u g, KK x u g → ∃ a o, u = .ref a ∧ g.get? a = some o ∧ o.cls = T) (hT1 : (T != Value.type "tuple") = true) (hT2 : (T == T) = true)
    (hkey : ∀ X (i : Nat) (x : α) v g, xs[i]? = some x → Kept h g → R x v g → Pu { c with A := c.A.in1.in1, X := X } (call (.ref q) [v]) g (KK x))
    (hcmp : ∀ X (i j : Nat) x y u v g, xs[i]? = some x → xs[j]? = some y → Kept h g → KK x u g → KK y v g → Pu { c with A := c.A.in1.in1, X := X } (keyLt' oneType' u v) g (fun b _ => b = lt i j)) :
    Pu c (call (.builtin "sorted") [v] [(Str.ofString "key", .ref q)]) h (isL R (permL (sortPerm xs.length lt) xs)) := Pu.mk fun h1 tk Q E l hq => by
  refine call_function_entry_kw kind_sorted plain_sorted entry_sorted (ksk_s1 _ _) ?_
  unfold Builtin.«sorted»
  refine wpAny_bind (m := checkCount "sorted" 1 1 _) (wpAny_pure ?_)
  refine wpAny_bind (hc (c.sh h1 tk) _ _ _ hR l fun vs h2 tk2 k2 vr => ?_)
  have hvl := vr.len
  have l2 := l.trans k2
  refine wpAny_bind (wpAny_newList ?_ (by rw [sizeLine_eq]; omega))
  have hoL : (h2.push (seqObj "list" vs.toArray 0)).get? h2.objs.size = some (seqObj "list" vs.toArray 0) := Heap.get?_push_size _ rfl
  have hD : h2.get? h2.objs.size = none := Heap.get?_none_of_le (Nat.le_refl _)
  refine wpAny_bind (wpAny_holding (wpAny_call_entry_kw slot_list_sort ⟨_, hoL, rfl⟩ entry_list_sort ?body (ksk_l1 _ _)))
  case body =>
    show wpAny c.M c.A.in1.in1 (Builtin.«list.sort» ⟨[.ref h2.objs.size], [(Str.ofString "key", .ref q)]⟩) _ _ (c.sh (h2.push (seqObj "list" vs.toArray 0)) tk2)
    rw [ksk_t1]
    generalize hDe : h2.objs.size = D at hoL hD ⊢
    have s1 := Heap.SameBut.update (h2.push (seqObj "list" vs.toArray 0)) D (Obj.mapSeq fun _ => (#[] : Array Value))
    obtain ⟨e1, ho1⟩ : ∃ e1, ((h2.push (seqObj "list" vs.toArray 0)).update D (Obj.mapSeq fun _ => (#[] : Array Value))).get? D = some (seqObj "list" #[] e1) := ⟨_, get?_update_seq hoL fun _ => #[]⟩
    have kp : Kept h2 ((h2.push (seqObj "list" vs.toArray 0)).update D (Obj.mapSeq fun _ => (#[] : Array Value))) := fun b o e => (s1.2 b (fun q => by rw [q, hD] at e; cases e)).trans (Heap.get?_push_of_some _ e)
    generalize hH3 : (h2.push (seqObj "list" vs.toArray 0)).update D (Obj.mapSeq fun _ => (#[] : Array Value)) = H3 at ho1 kp
    unfold ksk_tree
    refine wpAny_bind (listItems_at (s := c.sh _ tk2) hoL rfl ?_)
    refine wpAny_bind (listUpdate_at (s := c.sh _ tk2) hoL rfl ?_ (by rw [List.size_toArray, sizeLine_eq]; omega) (Nat.zero_le _))
    show wpAny c.M _ _ _ _ (c.sh ((h2.push (seqObj "list" vs.toArray 0)).update D (Obj.mapSeq fun _ => (#[] : Array Value))) tk2)
    rw [hH3]
    refine wpAny_bind (seqEpoch_at (s := c.sh H3 tk2) ho1 rfl ?_)
    refine wpAny_bind (wpAny_newTuple ?_ (by show vs.length ≤ _; rw [sizeLine_eq]; omega))
    refine wpAny_bind (wpAny_newList ?_ (Nat.zero_le _))
    have hH4 : Kept H3 (H3.push (seqObj "tuple" vs.toArray 0)) := Kept.push _ _
    refine wpAny_holding ?_
    show wpAny c.M _ (ksk_rest D (.ref q) false vs.toArray e1 (.ref (H3.push (seqObj "tuple" vs.toArray 0)).objs.size)) _ _ (c.sh ((H3.push (seqObj "tuple" vs.toArray 0)).push (seqObj "list" #[] 0)) tk2)
    generalize H3.push (seqObj "tuple" vs.toArray 0) = H4 at hH4 ⊢
    have hkS : (H4.push (seqObj "list" #[] 0)).get? H4.objs.size = some (seqObj "list" #[] 0) := Heap.get?_push_size _ rfl
    have hk4 : H4.get? H4.objs.size = none := Heap.get?_none_of_le (Nat.le_refl _)
    have hkn : h2.get? H4.objs.size = none := by
      cases z : h2.get? H4.objs.size with
      | none => rfl
      | some o => have := hH4 _ _ (kp _ _ z); rw [hk4] at this; cases this
    refine sort_rest (h := h) (D := D) (T := T) (KK := KK) (R := R) (lt := lt) l2 ⟨kp.trans (hH4.trans (Kept.push _ _)), Kept.push _ _ _ _ (hH4 _ _ ho1), _, hkS⟩ hkS (fun z => ?_) hD hkn vr h64 has hp hT hT1 hT2 (fun i x v g => hkey _ i x v g) (fun i j x y u v g => hcmp _ i j x y u v g) fun h3 n tk' out k3 e3 ar => ⟨_, rfl, ?_⟩
    · rw [z] at hk4; rw [hH4 _ _ ho1] at hk4; cases hk4
    · refine wpAny_pure ⟨_, rfl, hq _ h3 tk' (k2.trans k3) ⟨D, out, n, rfl, lg_get e3 (fun z => ?_), ar.stay k3.lg.stay⟩⟩
      obtain ⟨o, e⟩ := l2.old D z
      rw [e] at hD; cases hD
end
end Mine
end

section
-- PL14
open PySem PySem.W PyProof.Rows PySem.Spec PySem.Calls
set_option maxRecDepth 100000
namespace Mine
section
variable {c : Cx} {h : Heap} {P : VP} {env : Env}
/-- entry of a def of one return, with what it closes over -/
theorem Pu.enterR {name qual : Str} {params : Arguments} {e : Expr} {p : Pos} {scope : Scope} {cl : List (Str × Addr)} {dV kV doc pm cdv ct : Value} {an : Option Addr} {fo : Obj} {f : Addr} {vs : List Value} {binds : List (Str × Value)}
    (ho : h.get? f = some fo) (hd : fo.data = .func (fnX name qual params [.Return (some e) p] scope cl dV kV doc pm an cdv ct)) (hcd : h.CodeRec cdv qual) (hlim : h.NoLimit) (hroom : Room c.A 1)
    (hbind : ∀ s : Shared, Kept h s.heap → BindsTo s (fnX name qual params [.Return (some e) p] scope cl dV kV doc pm an cdv ct) ⟨vs, []⟩ binds)
    (hloc : ∀ y ∈ binds, scope.names.lookup y.1 = some .local) (hcell : ∀ x ∈ scope.names, x.2 ≠ .cell)
    (hb : ∀ g L, Kept h g → g.Ns L (fun y => binds.reverse.lookup y) → Ev { c with A := c.A.deeper (envX qual scope L f cdv cl) } (envX qual scope L f cdv cl) e g P)
    (hco : scope.isCoroutine = false := by rfl) (hgen : scope.isGenerator = false := by rfl) (hk : scope.kind = .function := by rfl) : Pu c (call (.ref f) vs) h P := by
  refine Pu.mk fun h1 tk Q E k hq => ?_
  refine wpAny_call ?_
  refine codeAny_call_def (fd := fnX name qual params [.Return (some e) p] scope cl dV kV doc pm an cdv ct) (body := [.Return (some e) p]) (binds := binds) (Nat.lt_of_succ_lt (hroom.depth : c.A.depth + 1 < recursionLimit)) (k.top _ _ ho) hd (hlim.keeps k.top) (hcd.keeps k.top) rfl (hbind _ k.top) hcell hloc (fun h2 hns hk2 => ?_) hco hgen hk
  have l2 := k.trans (h2 := h2) hk2
  refine wpAny_execs_cons (wpAny_Return_some ?_)
  refine hb (lg c h2) _ l2.keep (hns.at' fun o eo => lg_get eo (k.new (Heap.get?_none_of_le (Nat.le_refl _)))) h2 (tk + binds.length) _ _ ⟨l2.lg.keep, l2.lg.old⟩ fun v h3 tk3 k3 p3 => ?_
  exact hq v h3 tk3 (Kept.trans hk2 k3) p3
/-- o.a of a name -/
theorem Ev.attrN {P1 : VP} {x attr : Str} {np pos : Pos} (hx : Ev c env (.Name x np) h P1) (hg : ∀ v h', Kept h h' → P1 v h' → Pu c (getAttr v attr true) h' P) : Ev c env (.Attribute (.Name x np) attr pos) h P :=
  Pu.mk fun h1 tk Q E k hq => Attribute_name (hx h1 tk _ E k fun v h2 tk2 k2 p =>
    hg v _ (k.trans k2).keep p h2 tk2 Q E (k.trans k2).lg fun v' h3 tk3 k3 r => hq v' h3 tk3 (k2.trans k3) r)
end
end Mine
end

section
-- PL15
open PySem PySem.W PyProof.Rows PySem.Spec PySem.Calls
set_option maxRecDepth 100000
namespace Mine
/-- a code table with room for one code only: empty or filled -/
def LTab (qual : Str) (pos : Pos) (P : Addr) (h : Heap) : Prop := h.get? P = some (tabObj #[]) ∨ ∃ c', h.get? P = some (tabObj #[rawInt pos.line, rawInt pos.col, .ref c']) ∧ h.CodeRec (.ref c') qual ∧ ∃ oc, h.get? c' = some oc ∧ oc.cls = .type "code"
def IsLam (qual : Str) (params : Arguments) (body : Expr) (scope : Scope) (cl : List (Str × Addr)) (pm : Value) (h : Heap) (f : Addr) : Prop := ∃ c' ctv, h.get? f = some (kla_obj "<lambda>" qual params body scope cl pm c' ctv) ∧ h.CodeRec (.ref c') qual
section
variable {c : Cx} {h : Heap} {P : VP} {env : Env} {qual : Str} {params : Arguments} {body : Expr} {scope : Scope} {cl : List (Str × Addr)} {pm : Value}
theorem IsLam.keeps {h' : Heap} {f : Addr} (x : IsLam qual params body scope cl pm h f) (k : Kept h h') : IsLam qual params body scope cl pm h' f := let ⟨c', ctv, e, r⟩ := x; ⟨c', ctv, k _ _ e, r.keeps k⟩
theorem LTab.keeps {h' : Heap} {pos : Pos} {T : Addr} (x : LTab qual pos T h) (k : Kept h h') : LTab qual pos T h' := x.elim (fun e => .inl (k _ _ e)) fun ⟨c', e, r, oc, eo, q⟩ => .inr ⟨c', k _ _ e, r.keeps k, oc, k _ _ eo, q⟩
theorem makeTailC {M : Model} {A : Around} {E : Value → Shared → Prop} {s : Shared} {name : Str} {cc T : Addr} {ps : Array Value} {pos : Pos} {firstLine : Nat} {mg : Str → Option Value} {Q : Value → Shared → Prop}
    (hcl : closureFor scope env = pure cl) (hge0 : env.globals = mainGlobals) (hg : s.heap.Ns mainGlobals mg) (hcode : env.code = .ref cc) (C : CodeHd s.heap cc T) (hP : s.heap.get? T = some (tabObj ps)) (ht : TriplesOk ps.toList)
    (hnf : codeAmong pos ps.toList = none) (hgP : mainGlobals ≠ T) (hb : s.heap.BuiltinsAt mg T)
    (h : ∀ c' ctv h' tk, Heap.ExtBut T s.heap h' → h'.CodeRec (.ref c') qual → (∃ oc, h'.get? c' = some oc ∧ oc.cls = .type "code") → h'.get? T = some (tabObj (ps ++ #[rawInt pos.line, rawInt pos.col, .ref c'])) →
      Q (.ref h'.objs.size) { s with heap := h'.push (kla_obj name qual params body scope cl ((mg "__name__").getD .none) c' ctv), toks := tk }) :
    wpAny M A (makeFunction name qual params (.expr body) scope env [] [] [] pos firstLine) Q E s := by
  rw [makeFunction_eq]
  simp only [List.zip_nil_right, List.filterMap_nil, List.isEmpty_nil, if_true, pure_bind]
  obtain ⟨bm, ob, hbm, hne0, _, hneP, hbo, hcls, hdict, hdata⟩ := hb
  unfold makeTail
  rw [hcl, hge0]
  refine wpAny_bind (wpAny_pure ?_)
  cases cl with
  | nil =>
    simp only [List.isEmpty_nil, if_true]
    refine wpAny_bind (wpAny_pure ?_)
    refine wpAny_bind (wpAny_functionCodeX hcode (C.code hP ht) (C.tab hP) hnf fun c' h' tk hx hge hlt _ hrec htb hnew => ?_)
    obtain ⟨P', _, _, ⟨oc, _, q1, q2, _⟩, _⟩ := hnew
    have hg' := hg.extBut hx hgP
    refine wpAny_bind (wpAny_builtinsFor hg' hbm hne0 (hx _ _ hneP hbo) hcls hdict hdata ?_)
    refine wpAny_bind (wpAny_nsGet hg' ?_)
    exact wpAny_bind (wpAny_pure (wpAny_newObj_type (h c' .none h' tk hx hrec ⟨oc, q1, q2⟩ htb.2) (by size_fits)))
  | cons q r =>
    simp only [List.isEmpty_cons, Bool.false_eq_true, if_false]
    refine wpAny_bind (wpAny_newTextTuple ?_)
    refine wpAny_bind (wpAny_functionCodeX hcode ((C.keeps fun b o e => Heap.get?_push_of_some _ e).code (Heap.get?_push_of_some _ hP) ht) ((C.keeps fun b o e => Heap.get?_push_of_some _ e).tab (Heap.get?_push_of_some _ hP)) hnf fun c' h' tk hx hge hlt _ hrec htb hnew => ?_)
    obtain ⟨P', _, _, ⟨oc, _, q1, q2, _⟩, _⟩ := hnew
    have hg' := (hg.push _).extBut hx hgP
    have hx' : Heap.ExtBut T s.heap h' := fun b o hb' e => hx b o hb' (Heap.get?_push_of_some _ e)
    refine wpAny_bind (wpAny_builtinsFor hg' hbm hne0 (hx' _ _ hneP hbo) hcls hdict hdata ?_)
    refine wpAny_bind (wpAny_nsGet hg' ?_)
    exact wpAny_bind (wpAny_pure (wpAny_newObj_type (h c' _ h' tk hx' hrec ⟨oc, q1, q2⟩ htb.2) (by size_fits)))
/-- a lambda is made -/
theorem lam_any {pos : Pos} {T cc : Addr} {mg : Str → Option Value} {h1 : Heap} {tk : Nat} {Q : Value → Shared → Prop} {E : Value → Shared → Prop} (hcl : closureFor scope env = pure cl) (hge0 : env.globals = mainGlobals) (hg : h1.Ns mainGlobals mg)
    (hcode : env.code = .ref cc) (C : CodeHd h1 cc T) (ht : LTab (env.qual ++ "<lambda>") pos T h1) (hb : h1.BuiltinsAt mg T)
    (hq : ∀ f h2 tk2, KB (· = T) h1 h2 → LTab (env.qual ++ "<lambda>") pos T h2 → IsLam (env.qual ++ "<lambda>") params body scope cl ((mg "__name__").getD .none) h2 f → Q (.ref f) (c.sh h2 tk2)) (hdef : defaultsOf params env = ([], []) := by rfl) :
    wpAny c.M c.A (eval (.Lambda params body scope pos) env) Q E (c.sh h1 tk) := by
  refine kla_eval hdef ?_
  rcases ht with ht | ⟨c', ht, hr, hoc⟩
  · have hgP : mainGlobals ≠ T := fun q => by
      obtain ⟨o, es, ep, e, hd, _⟩ := hg
      rw [q, ht] at e; cases e; cases hd
    refine makeTailC (s := c.sh h1 tk) hcl hge0 hg hcode C ht (by first | decide | trivial | (intro; simp) | simp [TriplesOk]) (by rfl) hgP hb fun c' ctv h' tk' hx hrec ⟨oc, q1, q2⟩ htb => ?_
    have hn : h'.get? h'.objs.size = none := Heap.get?_none_of_le (Nat.le_refl _)
    refine hq _ _ tk' (fun b o e q => Heap.get?_push_of_some _ (hx b o q e)) (.inr ⟨c', Heap.get?_push_of_some _ htb, hrec.keeps (Kept.push _ _), oc, Heap.get?_push_of_some _ q1, q2⟩) ⟨c', ctv, Heap.get?_push_size _ rfl, hrec.keeps (Kept.push _ _)⟩
  · refine kla_makeFunctionHit (s := c.sh h1 tk) (cv := .ref c') hcl hge0 hg hcode C ht (by first | decide | trivial | (intro; simp) | simp [TriplesOk]) ?_ hb fun ctv h' tk' hk hsz => ?_
    · show codeAmong pos [rawInt pos.line, rawInt pos.col, .ref c'] = _
      simp [codeAmong, rawInt]
    · have kk : ∀ o, Kept h1 (h'.push o) := fun o => Kept.trans hk (Kept.push _ o)
      exact hq _ _ tk' (kk _).kb (LTab.keeps (.inr ⟨c', ht, hr, hoc⟩) (kk _)) ⟨c', ctv, Heap.get?_push_size _ rfl, hr.keeps (kk _)⟩
/-- a lambda is called -/
theorem Pu.enterL {f : Addr} {vs : List Value} {binds : List (Str × Value)} (hf : IsLam qual params body scope cl pm h f) (hlim : h.NoLimit) (hroom : Room c.A 1)
    (hbind : ∀ cv ct, bindArgs (kla_fn "<lambda>" qual params body scope cl pm cv ct) ⟨vs, []⟩ = Pure.pure binds) (hloc : ∀ y ∈ binds, scope.names.lookup y.1 = some .local) (hcell : ∀ x ∈ scope.names, x.2 ≠ .cell)
    (hb : ∀ g L cdv, Kept h g → g.Ns L (fun y => binds.reverse.lookup y) → Ev { c with A := c.A.deeper (envX qual scope L f cdv cl) } (envX qual scope L f cdv cl) body g P)
    (hco : scope.isCoroutine = false := by rfl) (hgen : scope.isGenerator = false := by rfl) (hk : scope.kind = .function := by rfl) : Pu c (call (.ref f) vs) h P := by
  obtain ⟨c', ctv, ho, hr⟩ := hf
  refine Pu.mk fun h1 tk Q E k hq => ?_
  refine wpAny_call (kla_callFunE (s := c.sh h1 tk) (Nat.lt_of_succ_lt (hroom.depth : c.A.depth + 1 < recursionLimit)) (k.top _ _ ho) rfl hco hgen rfl (hr.keeps k.top) ?_)
  rw [hbind]
  refine wpAny_pure (wpAny_newFunctionEnv hcell hloc (fun h2 hns hsb => ?_) hk)
  have hk2 : Kept h1 h2 := fun b o e => hsb.extBut b o (Nat.ne_of_lt (Heap.lt_size e)) (Heap.get?_push_of_some _ e)
  have l2 := k.trans hk2
  refine ⟨hlim.keeps l2.top, ?_⟩
  show codeAny _ _ (.expr body (envX qual scope h1.objs.size f (.ref c') cl)) _ _
  refine kla_codeExpr ?_
  refine hb (lg c h2) _ _ l2.keep (hns.at' fun o eo => lg_get eo (k.new (Heap.get?_none_of_le (Nat.le_refl _)))) h2 _ _ _ ⟨l2.lg.keep, l2.lg.old⟩ fun v h3 tk3 k3 p3 => ?_
  exact hq v h3 tk3 (Kept.trans hk2 k3) p3
end
end Mine
end

section
-- A6
open PySem PySem.W PyProof.Rows PySem.Spec PySem.Calls
set_option maxRecDepth 100000
set_option maxHeartbeats 8000000
namespace Mine
abbrev lamP (pi pj : Pos) : Arguments := { posonlyargs := [], args := [{ arg := Str.ofString "i", annotation := none, pos := pi }, { arg := Str.ofString "j", annotation := none, pos := pj }], vararg := none, kwonlyargs := [], kw_defaults := [], kwarg := none, defaults := [] }
abbrev lamB (p1 p2 p3 p4 p5 p6 p7 p8 : Pos) : Expr := .Call (.Name (Str.ofString "_law_rule") p1) [.Subscript (.Name (Str.ofString "jobs") p2) (.Name (Str.ofString "i") p3) p4, .Subscript (.Name (Str.ofString "jobs") p5) (.Name (Str.ofString "j") p6) p7] [] p8
abbrev lamS : Scope := { kind := .function, names := [(Str.ofString "i", .local), (Str.ofString "j", .local), (Str.ofString "jobs", .free), (Str.ofString "_law_rule", .globalImplicit)], isGenerator := false, isCoroutine := false }
/-- the lambda: jobs i and j by the rule -/
theorem c_lam {c : Cx} {h : Heap} {mg mb : Str → Option Value} (hR : Room c.A 3) (G : Pg (hdx.heap_39 c.w.params) [16, 61] mg mb h) {qual : Str} {pi pj p1 p2 p3 p4 p5 p6 p7 p8 : Pos} {f a : Addr} {pm jv u v : Value} {js : List Job} {i j : Nat} {x y : Job}
    (hf : IsLam qual (lamP pi pj) (lamB p1 p2 p3 p4 p5 p6 p7 p8) lamS [(Str.ofString "jobs", a)] pm h f) (ha : h.IsCell a (some jv)) (hj : isL isJ js jv h) (hx : js[i]? = some x) (hy : js[j]? = some y) (hi : i < 100) (hj' : j < 100)
    (hu : isI (i : Int) u h) (hv : isI (j : Int) v h) : Pu c (call (.ref f) [u, v]) h (isI (ruleZ x y)) := by
  refine Pu.enterL (binds := [(Str.ofString "i", u), (Str.ofString "j", v)]) hf G.lim (hR.le (by decide)) (fun _ _ => rfl) ?_ (by decide) fun g L cdv kg hns => ?_
  · intro q hq
    rcases List.mem_cons.mp hq with rfl | hq
    · rfl
    · obtain rfl := List.mem_singleton.mp hq
      rfl
  · have G' := G.at kg
    have hjg := Mo.mo hj kg.stay
    have jobs : ∀ p, Ev { c with A := c.A.deeper (envX qual lamS L f cdv [(Str.ofString "jobs", a)]) } (envX qual lamS L f cdv [(Str.ofString "jobs", a)]) (.Name (Str.ofString "jobs") p) g (isL isJ js) := fun p => Ev.free (ha.keeps kg) (fun h' k => Mo.mo hjg k.stay) (by rfl) (by rfl) (by rfl)
    refine Ev.callF (Ps := [isJ x, isJ y]) (G'.gl (by k_is)) (G'.X _ _ (show (hdx.heap_39 c.w.params).lookup 35 = some _ by k_is) rfl) rfl (EA.cons (Ev.item (x := x) (k := i) (jobs _) (Ev.loc hns rfl (fun _ _ => hu)) (by omega) (by omega) (by simpa using hx)) (EA.cons (Ev.item (x := y) (k := j) (jobs _) (Ev.loc hns rfl (fun _ _ => hv)) (by omega) (by omega) (by simpa using hy)) EA.nil)) fun vs h' k' z => ?_
    obtain ⟨z1, z2, rfl, s1, s2⟩ := z.two
    exact c_rule (c := { c with A := _ }) (hR.deeper _) (G'.at k') s1 s2
end Mine
end

section
-- Md
open PySem PySem.W PyProof.Rows PySem.Builtin PySem.W.X
set_option maxRecDepth 100000
namespace Mine
/-- what a piece of the run has made of a heap: all that stood is kept, but at the addresses `ex`; `news` stands, none of it stood (but at `ex`) -/
structure Md (ex : List Addr) (h₁ h : Heap) (news : List (Addr × Obj)) : Prop where
  keep : ∀ b o, h₁.get? b = some o → b ∉ ex → h.get? b = some o
  own : ∀ p ∈ news, h.get? p.1 = some p.2 ∧ (h₁.get? p.1 = none ∨ p.1 ∈ ex)
  nd : (news.map (·.1)).Nodup
theorem Md.start {ex : List Addr} {h : Heap} {news : List (Addr × Obj)} (hn : ∀ p ∈ news, h.get? p.1 = some p.2 ∧ p.1 ∈ ex) (hd : (news.map (·.1)).Nodup) : Md ex h h news :=
  ⟨fun _ _ e _ => e, fun p hp => ⟨(hn p hp).1, .inr (hn p hp).2⟩, hd⟩
theorem Md.start0 {ex : List Addr} {h : Heap} : Md ex h h [] := Md.start (fun _ hp => nomatch hp) List.nodup_nil
section
variable {ex : List Addr} {h₁ h h' : Heap} {news : List (Addr × Obj)}
theorem Md.at (D : Md ex h₁ h news) (i : Nat) (a : Addr) (o : Obj) (hi : news[i]? = some (a, o)) : h.get? a = some o := (D.own _ (List.mem_of_getElem? hi)).1
theorem Md.old (D : Md ex h₁ h news) {a : Addr} {o : Obj} (e : h₁.get? a = some o) (q : ex.contains a = false) : h.get? a = some o :=
  D.keep a o e (fun hm => by rw [List.contains_iff_mem.mpr hm] at q; cases q)
theorem Md.fresh (D : Md ex h₁ h news) {a : Addr} (hn : h.get? a = none) : h₁.get? a = none ∨ a ∈ ex := by
  by_cases q : a ∈ ex
  · exact .inr q
  · cases e : h₁.get? a with
    | none => exact .inl rfl
    | some o => rw [D.keep a o e q] at hn; cases hn
theorem Md.alloc (D : Md ex h₁ h news) {o : Obj} (hf : o.isFreed = false) : Md ex h₁ (h.push o) ((h.objs.size, o) :: news) := by
  have hnone : h.get? h.objs.size = none := by
    cases e : h.get? h.objs.size with
    | none => rfl
    | some o' => exact absurd (Heap.lt_size e) (Nat.lt_irrefl _)
  refine ⟨fun b o' e q => Heap.get?_push_of_some _ (D.keep b o' e q), fun p hp => ?_, ?_⟩
  · rcases List.mem_cons.mp hp with rfl | hp
    · exact ⟨Heap.get?_push_size _ hf, D.fresh hnone⟩
    · exact ⟨Heap.get?_push_of_some _ (D.own p hp).1, (D.own p hp).2⟩
  · rw [List.map_cons, List.nodup_cons]
    refine ⟨fun hm => ?_, D.nd⟩
    obtain ⟨p, hp, hpa⟩ := List.mem_map.mp hm
    have q := (D.own p hp).1
    rw [hpa, hnone] at q
    cases q
theorem Md.update (D : Md ex h₁ h news) {i : Nat} {a : Addr} {o : Obj} {f : Obj → Obj} (hi : news[i]? = some (a, o)) (hf : (f o).isFreed = false) : Md ex h₁ (h.update a f) (news.set i (a, f o)) := by
  have hs : Heap.SameBut a h (h.update a f) := Heap.SameBut.update ..
  have hm := List.mem_of_getElem? hi
  have ho := (D.own _ hm).1
  have ge : (h.update a f).get? a = some (f o) := Heap.get?_update_self _ ho hf
  obtain ⟨hl, hgi⟩ := List.getElem?_eq_some_iff.mp hi
  have em : (news.set i (a, f o)).map (·.1) = news.map (·.1) := by
    rw [List.map_set]
    have : (news.map (·.1))[i]? = some a := by rw [List.getElem?_map, hi]; rfl
    exact set_same this
  refine ⟨fun b o' e q => ?_, fun p hp => ?_, by rw [em]; exact D.nd⟩
  · have ne : b ≠ a := by
      rintro rfl
      rcases (D.own _ hm).2 with hb | hb
      · have hb' : h₁.get? b = none := hb
        rw [e] at hb'; cases hb'
      · exact q hb
    exact (hs.2 b ne).trans (D.keep b o' e q)
  · have hx : (a, f o) ∈ news.set i (a, f o) := List.mem_set hl _
    by_cases hpa : p.1 = a
    · have : p = (a, f o) := key_unique (by rw [em]; exact D.nd) hp hx hpa
      subst this
      exact ⟨ge, (D.own _ hm).2⟩
    · rcases List.mem_or_eq_of_mem_set hp with hp | rfl
      · exact ⟨(hs.2 _ hpa).trans (D.own p hp).1, (D.own p hp).2⟩
      · exact absurd rfl hpa
/-- two pieces behind each other -/
theorem Md.trans {ex' : List Addr} {news' : List (Addr × Obj)} (D : Md ex h₁ h news) (D' : Md ex' h h' news') (hx : ∀ b ∈ ex', b ∈ ex) (hn : ∀ p ∈ news, p.1 ∉ ex') : Md ex h₁ h' (news' ++ news) := by
  refine ⟨fun b o e q => D'.keep b o (D.keep b o e q) (fun hb => q (hx b hb)), fun p hp => ?_, ?_⟩
  · rcases List.mem_append.mp hp with hp | hp
    · refine ⟨(D'.own p hp).1, ?_⟩
      rcases (D'.own p hp).2 with hb | hb
      · exact D.fresh hb
      · exact .inr (hx _ hb)
    · exact ⟨D'.keep _ _ (D.own p hp).1 (hn p hp), (D.own p hp).2⟩
  · rw [List.map_append, List.nodup_append]
    refine ⟨D'.nd, D.nd, fun a ha b hb e => ?_⟩
    subst e
    obtain ⟨p, hp, rfl⟩ := List.mem_map.mp ha
    obtain ⟨q, hq, hqp⟩ := List.mem_map.mp hb
    have h1 := (D.own q hq).1
    rcases (D'.own p hp).2 with hb | hb
    · rw [hqp, hb] at h1; cases h1
    · exact hn q hq (hqp ▸ hb)
theorem Md.ne_old (D : Md ex h₁ h news) (i : Nat) (a : Addr) (o : Obj) (hi : news[i]? = some (a, o)) {b : Addr} {ob : Obj} (e : h₁.get? b = some ob) (q : ex.contains b = false) : (a == b) = false := by
  have hb : b ∉ ex := fun hm => by rw [List.contains_iff_mem.mpr hm] at q; cases q
  have ne : a ≠ b := by
    rintro rfl
    rcases (D.own _ (List.mem_of_getElem? hi)).2 with hx | hx
    · have hx' : h₁.get? a = none := hx
      rw [e] at hx'; cases hx'
    · exact hb hx
  simpa using ne
theorem Md.sub {news' : List (Addr × Obj)} (D : Md ex h₁ h news) (hs : news'.Sublist news) : Md ex h₁ h news' :=
  ⟨D.keep, fun p hp => D.own p (hs.subset hp), D.nd.sublist (hs.map _)⟩
end
/-- out of the elder engine's end: no table was touched -/
theorem Md.ofMem {h h' : Heap} {news : List (Addr × Obj)} (D : Mem h h' [] news) : Md [] h h' news :=
  ⟨fun b o e _ => D.keep b o e (by simp [away]), fun p hp => ⟨(D.nw p hp).1, .inl (D.nw p hp).2⟩, D.ord.imp (fun h => Nat.ne_of_gt h)⟩
theorem Md.more {ex : List Addr} {h₁ h h' : Heap} {news news' : List (Addr × Obj)} (D : Md ex h₁ h news) (D' : Mem h h' [] news') : Md ex h₁ h' (news' ++ news) :=
  D.trans (Md.ofMem D') (fun _ hb => nomatch hb) (fun _ _ hb => nomatch hb)

section
variable {prog : Program} {w : World} {A : Around} {α : Type} {Q : α → Shared → Prop} {E : Value → Shared → Prop} {ex : List Addr} {h₁ h : Heap} {news : List (Addr × Obj)} {g : Array GenState} {d : Drawn} {tk : Nat} {os : OsState} {t : Sem α}
theorem e_load {a : Addr} {q : Option Value} {k : Obj → Sem α} {o : Obj} (ht : skim ⟨prog, w.params⟩ 400 t = .load a q k) (ho : h.get? a = some o) (x : wpAny (model prog w) A (k o) Q E ⟨h, g, d, tk, os⟩) : wpAny (model prog w) A t Q E ⟨h, g, d, tk, os⟩ :=
  x_skim 400 (by rw [ht]; exact x_load ho x)
theorem e_alloc {o : Obj} {k : Addr → Sem α} (ht : skim ⟨prog, w.params⟩ 400 t = .alloc o k) (D : Md ex h₁ h news) (hf : o.isFreed = false) (x : ∀ a h', Md ex h₁ h' ((a, o) :: news) → wpAny (model prog w) A (k a) Q E ⟨h', g, d, tk, os⟩) : wpAny (model prog w) A t Q E ⟨h, g, d, tk, os⟩ :=
  x_skim 400 (by rw [ht]; exact wpAny_bind (m := alloc o) (f := k) (wpAny_alloc (x _ _ (D.alloc hf))))
theorem e_update {a : Addr} {q : Option Value} {f : Obj → Obj} {k : Unit → Sem α} {o o' : Obj} (ht : skim ⟨prog, w.params⟩ 400 t = .update a q f k) (D : Md ex h₁ h news) (i : Nat) (hi : news[i]? = some (a, o)) (hu : f o = o') (hf : o'.isFreed = false) (x : ∀ h', Md ex h₁ h' (news.set i (a, o')) → wpAny (model prog w) A (k ()) Q E ⟨h', g, d, tk, os⟩) : wpAny (model prog w) A t Q E ⟨h, g, d, tk, os⟩ :=
  x_skim 400 (by subst hu; rw [ht]; exact wpAny_bind (m := updatePart a q f) (f := k) (wpAny_updatePart (D.at i a o hi) (x _ (D.update hi hf))))
theorem e_fresh {k : Tok → Sem α} (ht : skim ⟨prog, w.params⟩ 400 t = .fresh k) (x : ∀ u tk', wpAny (model prog w) A (k u) Q E ⟨h, g, d, tk', os⟩) : wpAny (model prog w) A t Q E ⟨h, g, d, tk, os⟩ := x_skim 400 (by rw [ht]; exact x_fresh (x _ _))
theorem e_call {c : Code} {hd : Option Value} {gd : Bool} {l : List Value} {k : Result → Sem α} {s : Shared} (ht : skim ⟨prog, w.params⟩ 400 t = .call c hd gd l k) (x : wpAny (model prog w) A (Sem.call c hd gd l Sem.pure) (fun r s' => wpAny (model prog w) A (k r) Q E s') E s) : wpAny (model prog w) A t Q E s :=
  x_skim 400 (by rw [ht]; exact wpAny_bind (m := Sem.call c hd gd l Sem.pure) (f := k) x)
theorem e_pure {a : α} {s : Shared} (ht : skim ⟨prog, w.params⟩ 400 t = .pure a) (x : Q a s) : wpAny (model prog w) A t Q E s := x_skim 400 (by rw [ht]; exact wpAny_pure x)
theorem e_step {β : Type} {m : Sem β} {f : β → Sem α} {a : β} {s : Shared} (hm : skim ⟨prog, w.params⟩ 400 m = .pure a) (x : wpAny (model prog w) A (f a) Q E s) : wpAny (model prog w) A (m >>= f) Q E s := wpAny_bind (e_pure hm x)
end
/-! the same steps, the tree left unreduced: the kernel alone reduces it -/
def adL {α : Type} (F : Setting) (t : Sem α) : Option Addr := match skim F 400 t with | .load a _ _ => some a | _ => none
def nxL {α : Type} (F : Setting) (t : Sem α) (o : Obj) : Sem α := match skim F 400 t with | .load _ _ k => k o | _ => t
def obA {α : Type} (F : Setting) (t : Sem α) : Option Obj := match skim F 400 t with | .alloc o _ => some o | _ => none
def nxA {α : Type} (F : Setting) (t : Sem α) (a : Addr) : Sem α := match skim F 400 t with | .alloc _ k => k a | _ => t
def upA {α : Type} (F : Setting) (t : Sem α) (o : Obj) : Option (Addr × Obj) := match skim F 400 t with | .update a _ f _ => some (a, f o) | _ => none
def nxU {α : Type} (F : Setting) (t : Sem α) : Sem α := match skim F 400 t with | .update _ _ _ k => k () | _ => t
def isF {α : Type} (F : Setting) (t : Sem α) : Bool := match skim F 400 t with | .fresh _ => true | _ => false
def nxF {α : Type} (F : Setting) (t : Sem α) (u : Tok) : Sem α := match skim F 400 t with | .fresh k => k u | _ => t
section
variable {prog : Program} {w : World} {A : Around} {α : Type} {Q : α → Shared → Prop} {E : Value → Shared → Prop} {ex : List Addr} {h₁ h : Heap} {news : List (Addr × Obj)} {g : Array GenState} {d : Drawn} {tk : Nat} {os : OsState} {t : Sem α}
theorem f_load {a : Addr} {o : Obj} (ht : adL ⟨prog, w.params⟩ t = some a) (ho : h.get? a = some o) (x : wpAny (model prog w) A (nxL ⟨prog, w.params⟩ t o) Q E ⟨h, g, d, tk, os⟩) : wpAny (model prog w) A t Q E ⟨h, g, d, tk, os⟩ := by
  unfold adL at ht; unfold nxL at x
  split at ht
  · next e => rw [e] at x; cases ht; exact e_load e ho x
  · cases ht
theorem f_alloc {o : Obj} (ht : obA ⟨prog, w.params⟩ t = some o) (D : Md ex h₁ h news) (hf : o.isFreed = false) (x : ∀ a h', Md ex h₁ h' ((a, o) :: news) → wpAny (model prog w) A (nxA ⟨prog, w.params⟩ t a) Q E ⟨h', g, d, tk, os⟩) : wpAny (model prog w) A t Q E ⟨h, g, d, tk, os⟩ := by
  unfold obA at ht; unfold nxA at x
  split at ht
  · next e => rw [e] at x; cases ht; exact e_alloc e D hf x
  · cases ht
end
/-- what is said of an end, marked so that a line of the walk finds it -/
structure RetW (P : Prop) : Prop where
  out : P
theorem filt_self (a : Addr) (l : List Value) : List.filter (fun x => x != Value.ref a) (Value.ref a :: l) = List.filter (fun x => x != Value.ref a) l := by simp
end Mine
end

section
-- Sub1
open PySem PySem.W PyProof.Rows PySem.Builtin PySem.W.X
set_option maxRecDepth 100000
set_option maxHeartbeats 0
namespace Mine
local macro_rules | `(tactic| x_close) => `(tactic| ((rename RetW _ => hR); first | (apply (RetW.out hR); with_unfolding_all assumption)))
theorem s_collect {prog : Program} {w : World} {A : Around} {Q : Result → Shared → Prop} {E : Value → Shared → Prop} {h : Heap} {d : Drawn} {tk : Nat} {os : OsState} {a : Addr} {u0 : Tok} {l : List Value} (ha : h.get? a = some ⟨.type "list", none, .seq #[.str (Str.ofString "obj") u0] 0, #[]⟩)
   (hret : RetW (∀ r h' tk', Mem h h' [] [(r, ⟨.type "list", none, .seq #[.str (Str.ofString "obj") u0] 1, #[]⟩)] → Q (.ok (.ret (.ref r))) ⟨h', #[], d, tk', os⟩)) :
   wpAny (model prog w) A (Sem.call (.builtin "proto.collect" ⟨[.ref a], []⟩) none false l Sem.pure) Q E ⟨h, #[], d, tk, os⟩ := by
  x_run
abbrev clsO (C NS bT : Addr) (tn tq : Tok) : Obj := ⟨(.type "type"), none, (.cls { name := (Str.ofString "K"), bases := [(.type "object")], mro := [(.ref C), (.type "object")], ns := NS, qualname := (Str.ofString "cmp_to_key.<locals>.K"), hasDict := false, slotNames := [(Str.ofString "obj")], subclasses := [], abstract := false, collection := none, hasDel := false }), #[(some (.ref bT)), none, (some (.str (Str.ofString "K") tn)), (some (.str (Str.ofString "cmp_to_key.<locals>.K") tq)), (some (.builtin "object.__new__")), (some (.bool false))]⟩
theorem s_super {prog : Program} {w : World} {A : Around} {Q : Result → Shared → Prop} {E : Value → Shared → Prop} {h : Heap} {d : Drawn} {tk : Nat} {os : OsState} {C NS bT : Addr} {tn tq : Tok} {l : List Value} (ha : h.get? C = some (clsO C NS bT tn tq))
   (hret : RetW (∀ r h' tk', Mem h h' [] [(r, ⟨.type "super", none, .fields #[.ref C, .ref C, .ref C], #[]⟩)] → Q (.ok (.ret (.ref r))) ⟨h', #[], d, tk', os⟩)) :
   wpAny (model prog w) A (Sem.call (.call (.type "super") ⟨[.ref C, .ref C], []⟩) none false l Sem.pure) Q E ⟨h, #[], d, tk, os⟩ := by
  dsimp only [clsO] at ha
  x_run
end Mine
end

section
-- Sub2
open PySem PySem.W PyProof.Rows PySem.Builtin PySem.W.X
set_option maxRecDepth 100000
set_option maxHeartbeats 0
namespace Mine
local macro_rules | `(tactic| x_close) => `(tactic| ((rename RetW _ => hR); first | (apply (RetW.out hR); with_unfolding_all assumption) | (apply (RetW.out hR))))
section
variable {prog : Program} {w : World} {A : Around} {Q : Result → Shared → Prop} {E : Value → Shared → Prop} {h : Heap} {d : Drawn} {tk : Nat} {os : OsState} {C NS bT : Addr} {tn tq : Tok} {l : List Value}
theorem s_cmget (ha : h.get? C = some (clsO C NS bT tn tq))
   (hret : RetW (∀ r h' tk', Mem h h' [] [(r, ⟨.type "builtin_function_or_method", none, .fields #[.builtin "object.__init_subclass__", .ref C], #[]⟩)] → Q (.ok (.ret (.ref r))) ⟨h', #[], d, tk', os⟩)) :
   wpAny (model prog w) A (Sem.call (.call (.builtin "classmethod_descriptor.__get__") ⟨[.builtin "object.__init_subclass__", .none, .ref C], []⟩) none false l Sem.pure) Q E ⟨h, #[], d, tk, os⟩ := by
  dsimp only [clsO] at ha
  x_run
theorem s_initsub {r : Addr} (ha : h.get? C = some (clsO C NS bT tn tq)) (hr : h.get? r = some ⟨.type "builtin_function_or_method", none, .fields #[.builtin "object.__init_subclass__", .ref C], #[]⟩)
   (hret : RetW (∀ tk', Q (.ok (.ret .none)) ⟨h, #[], d, tk', os⟩)) :
   wpAny (model prog w) A (Sem.call (.call (.ref r) ⟨[], []⟩) none false l Sem.pure) Q E ⟨h, #[], d, tk, os⟩ := by
  dsimp only [clsO] at ha
  x_run
theorem s_typeinit {u : Tok} {a b : Addr} (ha : h.get? C = some (clsO C NS bT tn tq))
   (hret : RetW (∀ tk', Q (.ok (.ret .none)) ⟨h, #[], d, tk', os⟩)) :
   wpAny (model prog w) A (Sem.call (.call (.builtin "type.__init__") ⟨[.ref C, .str (Str.ofString "K") u, .ref a, .ref b], []⟩) none false l Sem.pure) Q E ⟨h, #[], d, tk, os⟩ := by
  dsimp only [clsO] at ha
  x_run
end
end Mine
end

section
-- Sub3
open PySem PySem.W PyProof.Rows PySem.Builtin PySem.W.X
set_option maxRecDepth 100000
set_option maxHeartbeats 0
namespace Mine
abbrev statO : Obj := ⟨.none, none, .dict #[] 0, #[]⟩
theorem s_superget {prog : Program} {w : World} {A : Around} {Q : Result → Shared → Prop} {E : Value → Shared → Prop} {h : Heap} {d : Drawn} {tk : Nat} {os : OsState} {C NS bT sup : Addr} {tn tq u : Tok} {l : List Value}
   (hO2 : h.get? 2 = some statO) (ha : h.get? C = some (clsO C NS bT tn tq)) (hs : h.get? sup = some ⟨.type "super", none, .fields #[.ref C, .ref C, .ref C], #[]⟩)
   (hret : ∀ r h' tk', Mem h h' [] [(r, ⟨.type "builtin_function_or_method", none, .fields #[.builtin "object.__init_subclass__", .ref C], #[]⟩)] → Q (.ok (.ret (.ref r))) ⟨h', #[], d, tk', os⟩) :
   wpAny (model prog w) A (Sem.call (.call (.builtin "super.__getattribute__") ⟨[.ref sup, .str (Str.ofString "__init_subclass__") u], []⟩) none false l Sem.pure) Q E ⟨h, #[], d, tk, os⟩ := by
  refine x_call ?_ (by intro h; cases h)
  refine codeAny_call_builtin_at (b := PySem.Builtin.«super.__getattribute__») (by kernel_rfl) (entryFor_of_tree (by kernel_rfl)) ?_
  refine' e_load ?ht hs ?_; (case ht => with_unfolding_all rfl)
  refine e_pure (a := ()) (by with_unfolding_all rfl) ?_
  refine' e_load ?ht hs ?_; (case ht => with_unfolding_all rfl)
  refine' e_load ?ht hs ?_; (case ht => with_unfolding_all rfl)
  refine' e_load ?ht hs ?_; (case ht => with_unfolding_all rfl)
  refine e_step (a := Value.ref C) (by with_unfolding_all rfl) ?_
  have hb : (#[Value.ref C, Value.ref C, Value.ref C][1] == Value.ref C) = true := by simp
  have hdr : List.drop 1 (List.dropWhile (fun x => x != #[Value.ref C, Value.ref C, Value.ref C][0]) [Value.ref C, Value.type "object"]) = [Value.type "object"] := by simp
  dsimp only
  rw [hb]
  refine' e_load ?ht hO2 ?_; (case ht => with_unfolding_all rfl)
  refine' e_load ?ht ha ?_; (case ht => with_unfolding_all rfl)
  refine e_step (a := [Value.ref C, Value.type "object"]) (by with_unfolding_all rfl) ?_
  try dsimp only
  rw [hdr]
  refine' e_call ?ht ?_; (case ht => with_unfolding_all rfl)
  refine' s_cmget ha ⟨fun r h' tk' M => ?_⟩
  refine e_pure (a := .done (.ret (.ref r))) (by with_unfolding_all rfl) ?_
  exact wpAny_pure (hret r h' tk' M)
end Mine
end

section
-- TN
open PySem PySem.W PyProof.Rows PySem.Builtin PySem.W.X
set_option maxRecDepth 100000
set_option maxHeartbeats 0
namespace Mine
theorem typeNewT {prog : Program} {w : World} {A : Around} {h₁ : Heap} {d : Drawn} {tk : Nat} {os : OsState} {Q : PySem.Fin → Shared → Prop} {E : Value → Shared → Prop} {a131 a133 a135 a136 a138 a140 a142 a144 a146 a147 : Addr} {f1 f2 f3 f4 f5 f6 : FuncData} {u78 u87 u96 u80 u81 u82 u83 u84 u85 u88 u89 u90 u91 u92 u93 u94 u95 u97 : Tok}
   (hO2 : h₁.get? 2 = some statO) (hO131 : h₁.get? a131 = some ⟨.type "tuple", none, .seq #[.type "object"] 0, #[]⟩) (hO133 : h₁.get? a133 = some ⟨(.type "dict"), none, (.dict #[⟨PyData.keyHash w.params (Str.ofString "__module__"), (.str (Str.ofString "__module__") u80), (.str (Str.ofString "cpy313.functools") u85)⟩, ⟨PyData.keyHash w.params (Str.ofString "__qualname__"), (.str (Str.ofString "__qualname__") u82), (.str (Str.ofString "cmp_to_key.<locals>.K") u81)⟩, ⟨PyData.keyHash w.params (Str.ofString "__firstlineno__"), (.str (Str.ofString "__firstlineno__") u84), (.int 4 u83)⟩, ⟨PyData.keyHash w.params (Str.ofString "__slots__"), (.str (Str.ofString "__slots__") u88), (.ref a135)⟩, ⟨PyData.keyHash w.params (Str.ofString "__init__"), (.str (Str.ofString "__init__") u89), (.ref a136)⟩, ⟨PyData.keyHash w.params (Str.ofString "__lt__"), (.str (Str.ofString "__lt__") u90), (.ref a138)⟩, ⟨PyData.keyHash w.params (Str.ofString "__gt__"), (.str (Str.ofString "__gt__") u91), (.ref a140)⟩, ⟨PyData.keyHash w.params (Str.ofString "__eq__"), (.str (Str.ofString "__eq__") u92), (.ref a142)⟩, ⟨PyData.keyHash w.params (Str.ofString "__le__"), (.str (Str.ofString "__le__") u93), (.ref a144)⟩, ⟨PyData.keyHash w.params (Str.ofString "__ge__"), (.str (Str.ofString "__ge__") u94), (.ref a146)⟩, ⟨PyData.keyHash w.params (Str.ofString "__hash__"), (.str (Str.ofString "__hash__") u95), .none⟩, ⟨PyData.keyHash w.params (Str.ofString "__static_attributes__"), (.str (Str.ofString "__static_attributes__") u97), (.ref a147)⟩] 12), #[]⟩) (hO135 : h₁.get? a135 = some ⟨.type "list", none, .seq #[.str (Str.ofString "obj") u87] 0, #[]⟩)
   (hO136 : h₁.get? a136 = some ⟨.type "function", none, .func f1, #[]⟩) (hO138 : h₁.get? a138 = some ⟨.type "function", none, .func f2, #[]⟩) (hO140 : h₁.get? a140 = some ⟨.type "function", none, .func f3, #[]⟩) (hO142 : h₁.get? a142 = some ⟨.type "function", none, .func f4, #[]⟩) (hO144 : h₁.get? a144 = some ⟨.type "function", none, .func f5, #[]⟩) (hO146 : h₁.get? a146 = some ⟨.type "function", none, .func f6, #[]⟩)
   (hO147 : h₁.get? a147 = some ⟨.type "tuple", none, .seq #[.str (Str.ofString "obj") u96] 0, #[]⟩) (hns : (a133 == sysModules) = false)
   (hret : ∀ a149 a150 a151 u98 u99 u100 h' tk', Md [] h₁ h' [(a151, ⟨(.type "member_descriptor"), none, (.fields #[(.str (Str.ofString "obj") u98), (.ref a150), (.builtin "proto.slot"), (.builtin "proto.slot#set"), (.int 0 0)]), #[]⟩), (a150, clsO a150 a149 a131 u78 u81), (a149, ⟨(.type "dict"), none, (.dict #[⟨PyData.keyHash w.params (Str.ofString "__module__"), (.str (Str.ofString "__module__") u80), (.str (Str.ofString "cpy313.functools") u85)⟩, ⟨PyData.keyHash w.params (Str.ofString "__firstlineno__"), (.str (Str.ofString "__firstlineno__") u84), (.int 4 u83)⟩, ⟨PyData.keyHash w.params (Str.ofString "__slots__"), (.str (Str.ofString "__slots__") u88), (.ref a135)⟩, ⟨PyData.keyHash w.params (Str.ofString "__init__"), (.str (Str.ofString "__init__") u89), (.ref a136)⟩, ⟨PyData.keyHash w.params (Str.ofString "__lt__"), (.str (Str.ofString "__lt__") u90), (.ref a138)⟩, ⟨PyData.keyHash w.params (Str.ofString "__gt__"), (.str (Str.ofString "__gt__") u91), (.ref a140)⟩, ⟨PyData.keyHash w.params (Str.ofString "__eq__"), (.str (Str.ofString "__eq__") u92), (.ref a142)⟩, ⟨PyData.keyHash w.params (Str.ofString "__le__"), (.str (Str.ofString "__le__") u93), (.ref a144)⟩, ⟨PyData.keyHash w.params (Str.ofString "__ge__"), (.str (Str.ofString "__ge__") u94), (.ref a146)⟩, ⟨PyData.keyHash w.params (Str.ofString "__hash__"), (.str (Str.ofString "__hash__") u95), .none⟩, ⟨PyData.keyHash w.params (Str.ofString "__static_attributes__"), (.str (Str.ofString "__static_attributes__") u97), (.ref a147)⟩, ⟨PyData.keyHash w.params (Str.ofString "obj"), (.str (Str.ofString "obj") u99), (.ref a151)⟩, ⟨PyData.keyHash w.params (Str.ofString "__doc__"), (.str (Str.ofString "__doc__") u100), .none⟩] 3), #[]⟩)] → Q (.done (.ret (.ref a150))) ⟨h', #[], d, tk', os⟩) :
   wpAny (model prog w) A (PySem.Builtin.«type.__new__» ⟨[.type "type", .str (Str.ofString "K") u78, .ref a131, .ref a133], []⟩) Q E ⟨h₁, #[], d, tk, os⟩ := by
  have D0 : Md [] h₁ h₁ [] := Md.start0
  refine' e_load ?ht (Md.old D0 hO131 rfl) ?_; (case ht => with_unfolding_all rfl)
  refine' e_load ?ht (Md.old D0 hO133 rfl) ?_; (case ht => with_unfolding_all rfl)
  refine' e_load ?ht (Md.old D0 hO131 rfl) ?_; (case ht => with_unfolding_all rfl)
  rw [hns]
  refine' e_load ?ht (Md.old D0 hO133 rfl) ?_; (case ht => with_unfolding_all rfl)
  refine' e_load ?ht (Md.old D0 hO133 rfl) ?_; (case ht => with_unfolding_all rfl)
  refine' e_load ?ht (Md.old D0 hO135 rfl) ?_; (case ht => with_unfolding_all rfl)
  refine' e_call ?ht ?_; (case ht => with_unfolding_all rfl); refine' s_collect (Md.old D0 hO135 rfl) ⟨fun a148 h148 tk148 M148 => ?_⟩; (try exact []); have Ds1 := Md.more D0 M148; simp only [List.cons_append, List.nil_append] at Ds1; clear D0 M148
  refine' e_load ?ht (Md.at Ds1 0 _ _ rfl) ?_; (case ht => with_unfolding_all rfl)
  refine' e_alloc (o := ⟨(.type "dict"), none, (.dict #[⟨PyData.keyHash w.params (Str.ofString "__module__"), (.str (Str.ofString "__module__") u80), (.str (Str.ofString "cpy313.functools") u85)⟩, ⟨PyData.keyHash w.params (Str.ofString "__qualname__"), (.str (Str.ofString "__qualname__") u82), (.str (Str.ofString "cmp_to_key.<locals>.K") u81)⟩, ⟨PyData.keyHash w.params (Str.ofString "__firstlineno__"), (.str (Str.ofString "__firstlineno__") u84), (.int 4 u83)⟩, ⟨PyData.keyHash w.params (Str.ofString "__slots__"), (.str (Str.ofString "__slots__") u88), (.ref a135)⟩, ⟨PyData.keyHash w.params (Str.ofString "__init__"), (.str (Str.ofString "__init__") u89), (.ref a136)⟩, ⟨PyData.keyHash w.params (Str.ofString "__lt__"), (.str (Str.ofString "__lt__") u90), (.ref a138)⟩, ⟨PyData.keyHash w.params (Str.ofString "__gt__"), (.str (Str.ofString "__gt__") u91), (.ref a140)⟩, ⟨PyData.keyHash w.params (Str.ofString "__eq__"), (.str (Str.ofString "__eq__") u92), (.ref a142)⟩, ⟨PyData.keyHash w.params (Str.ofString "__le__"), (.str (Str.ofString "__le__") u93), (.ref a144)⟩, ⟨PyData.keyHash w.params (Str.ofString "__ge__"), (.str (Str.ofString "__ge__") u94), (.ref a146)⟩, ⟨PyData.keyHash w.params (Str.ofString "__hash__"), (.str (Str.ofString "__hash__") u95), .none⟩, ⟨PyData.keyHash w.params (Str.ofString "__static_attributes__"), (.str (Str.ofString "__static_attributes__") u97), (.ref a147)⟩] 0), #[]⟩) ?ht Ds1 rfl (fun a149 h149 Ds2 => ?_); (case ht => with_unfolding_all rfl); clear Ds1
  refine' e_load ?ht (Md.at Ds2 0 _ _ rfl) ?_; (case ht => with_unfolding_all rfl)
  refine' e_load ?ht (Md.at Ds2 0 _ _ rfl) ?_; (case ht => with_unfolding_all rfl)
  refine' e_load ?ht (Md.at Ds2 0 _ _ rfl) ?_; (case ht => with_unfolding_all rfl)
  refine' e_alloc (o := ⟨(.type "type"), none, (.cls { name := (Str.ofString "K"), bases := [(.type "object")], mro := [], ns := a149, qualname := (Str.ofString "cmp_to_key.<locals>.K"), hasDict := true, slotNames := [], subclasses := [], abstract := false, collection := none, hasDel := false }), #[]⟩) ?ht Ds2 rfl (fun a150 h150 Ds3 => ?_); (case ht => with_unfolding_all rfl); clear Ds2
  refine' e_update (o' := ⟨(.type "type"), none, (.cls { name := (Str.ofString "K"), bases := [(.type "object")], mro := [], ns := a149, qualname := (Str.ofString "cmp_to_key.<locals>.K"), hasDict := true, slotNames := [], subclasses := [], abstract := false, collection := none, hasDel := false }), #[(some (.ref a131))]⟩) ?ht Ds3 0 rfl ?hu rfl (fun hDs4 Ds4 => ?_); (case ht => with_unfolding_all rfl); (case hu => with_unfolding_all rfl); clear Ds3; simp only [List.set_cons_succ, List.set_cons_zero] at Ds4
  refine' e_update (o' := ⟨(.type "type"), none, (.cls { name := (Str.ofString "K"), bases := [(.type "object")], mro := [], ns := a149, qualname := (Str.ofString "cmp_to_key.<locals>.K"), hasDict := true, slotNames := [], subclasses := [], abstract := false, collection := none, hasDel := false }), #[(some (.ref a131)), none, (some (.str (Str.ofString "K") u78))]⟩) ?ht Ds4 0 rfl ?hu rfl (fun hDs5 Ds5 => ?_); (case ht => with_unfolding_all rfl); (case hu => with_unfolding_all rfl); clear Ds4; simp only [List.set_cons_succ, List.set_cons_zero] at Ds5
  refine' e_update (o' := ⟨(.type "type"), none, (.cls { name := (Str.ofString "K"), bases := [(.type "object")], mro := [], ns := a149, qualname := (Str.ofString "cmp_to_key.<locals>.K"), hasDict := true, slotNames := [], subclasses := [], abstract := false, collection := none, hasDel := false }), #[(some (.ref a131)), none, (some (.str (Str.ofString "K") u78)), (some (.str (Str.ofString "cmp_to_key.<locals>.K") u81))]⟩) ?ht Ds5 0 rfl ?hu rfl (fun hDs6 Ds6 => ?_); (case ht => with_unfolding_all rfl); (case hu => with_unfolding_all rfl); clear Ds5; simp only [List.set_cons_succ, List.set_cons_zero] at Ds6
  refine' e_load ?ht (Md.at Ds6 1 _ _ rfl) ?_; (case ht => with_unfolding_all rfl)
  refine' e_update (o' := ⟨(.type "dict"), none, (.dict #[⟨PyData.keyHash w.params (Str.ofString "__module__"), (.str (Str.ofString "__module__") u80), (.str (Str.ofString "cpy313.functools") u85)⟩, ⟨PyData.keyHash w.params (Str.ofString "__firstlineno__"), (.str (Str.ofString "__firstlineno__") u84), (.int 4 u83)⟩, ⟨PyData.keyHash w.params (Str.ofString "__slots__"), (.str (Str.ofString "__slots__") u88), (.ref a135)⟩, ⟨PyData.keyHash w.params (Str.ofString "__init__"), (.str (Str.ofString "__init__") u89), (.ref a136)⟩, ⟨PyData.keyHash w.params (Str.ofString "__lt__"), (.str (Str.ofString "__lt__") u90), (.ref a138)⟩, ⟨PyData.keyHash w.params (Str.ofString "__gt__"), (.str (Str.ofString "__gt__") u91), (.ref a140)⟩, ⟨PyData.keyHash w.params (Str.ofString "__eq__"), (.str (Str.ofString "__eq__") u92), (.ref a142)⟩, ⟨PyData.keyHash w.params (Str.ofString "__le__"), (.str (Str.ofString "__le__") u93), (.ref a144)⟩, ⟨PyData.keyHash w.params (Str.ofString "__ge__"), (.str (Str.ofString "__ge__") u94), (.ref a146)⟩, ⟨PyData.keyHash w.params (Str.ofString "__hash__"), (.str (Str.ofString "__hash__") u95), .none⟩, ⟨PyData.keyHash w.params (Str.ofString "__static_attributes__"), (.str (Str.ofString "__static_attributes__") u97), (.ref a147)⟩] 1), #[]⟩) ?ht Ds6 1 rfl ?hu rfl (fun hDs7 Ds7 => ?_); (case ht => with_unfolding_all rfl); (case hu => with_unfolding_all rfl); clear Ds6; simp only [List.set_cons_succ, List.set_cons_zero] at Ds7
  refine' e_load ?ht (Md.at Ds7 1 _ _ rfl) ?_; (case ht => with_unfolding_all rfl)
  refine' e_load ?ht (Md.at Ds7 1 _ _ rfl) ?_; (case ht => with_unfolding_all rfl)
  refine' e_load ?ht (Md.at Ds7 1 _ _ rfl) ?_; (case ht => with_unfolding_all rfl)
  refine' e_load ?ht (Md.at Ds7 1 _ _ rfl) ?_; (case ht => with_unfolding_all rfl)
  refine' e_load ?ht (Md.at Ds7 1 _ _ rfl) ?_; (case ht => with_unfolding_all rfl)
  refine e_step (by with_unfolding_all rfl) ?_; try dsimp only
  refine e_step (by with_unfolding_all rfl) ?_; try dsimp only
  refine e_step (by with_unfolding_all rfl) ?_; try dsimp only
  refine e_step (by with_unfolding_all rfl) ?_; try dsimp only
  rw [filt_self]
  refine' e_load ?ht (Md.at Ds7 0 _ _ rfl) ?_; (case ht => with_unfolding_all rfl)
  refine' e_update (o' := ⟨(.type "type"), none, (.cls { name := (Str.ofString "K"), bases := [(.type "object")], mro := [(.ref a150), (.type "object")], ns := a149, qualname := (Str.ofString "cmp_to_key.<locals>.K"), hasDict := true, slotNames := [], subclasses := [], abstract := false, collection := none, hasDel := false }), #[(some (.ref a131)), none, (some (.str (Str.ofString "K") u78)), (some (.str (Str.ofString "cmp_to_key.<locals>.K") u81))]⟩) ?ht Ds7 0 rfl ?hu rfl (fun hDs8 Ds8 => ?_); (case ht => with_unfolding_all rfl); (case hu => with_unfolding_all rfl); clear Ds7; simp only [List.set_cons_succ, List.set_cons_zero] at Ds8
  refine' e_load ?ht (Md.at Ds8 0 _ _ rfl) ?_; (case ht => with_unfolding_all rfl)
  refine' e_update (o' := ⟨(.type "type"), none, (.cls { name := (Str.ofString "K"), bases := [(.type "object")], mro := [(.ref a150), (.type "object")], ns := a149, qualname := (Str.ofString "cmp_to_key.<locals>.K"), hasDict := true, slotNames := [], subclasses := [], abstract := false, collection := none, hasDel := false }), #[(some (.ref a131)), none, (some (.str (Str.ofString "K") u78)), (some (.str (Str.ofString "cmp_to_key.<locals>.K") u81)), (some (.builtin "object.__new__"))]⟩) ?ht Ds8 0 rfl ?hu rfl (fun hDs9 Ds9 => ?_); (case ht => with_unfolding_all rfl); (case hu => with_unfolding_all rfl); clear Ds8; simp only [List.set_cons_succ, List.set_cons_zero] at Ds9
  refine' e_load ?ht (Md.at Ds9 0 _ _ rfl) ?_; (case ht => with_unfolding_all rfl)
  refine' e_load ?ht (Md.at Ds9 0 _ _ rfl) ?_; (case ht => with_unfolding_all rfl)
  refine' e_load ?ht (Md.at Ds9 0 _ _ rfl) ?_; (case ht => with_unfolding_all rfl)
  refine' e_load ?ht (Md.at Ds9 1 _ _ rfl) ?_; (case ht => with_unfolding_all rfl)
  refine' e_load ?ht (Md.at Ds9 1 _ _ rfl) ?_; (case ht => with_unfolding_all rfl)
  refine' e_fresh ?ht (fun u98 tk' => ?_); (case ht => with_unfolding_all rfl)
  refine' e_alloc (o := ⟨(.type "member_descriptor"), none, (.fields #[(.str (Str.ofString "obj") u98), (.ref a150), (.builtin "proto.slot"), (.builtin "proto.slot#set"), (.int 0 0)]), #[]⟩) ?ht Ds9 rfl (fun a151 h151 Ds10 => ?_); (case ht => with_unfolding_all rfl); clear Ds9
  refine' e_load ?ht (Md.at Ds10 2 _ _ rfl) ?_; (case ht => with_unfolding_all rfl)
  refine' e_fresh ?ht (fun u99 tk' => ?_); (case ht => with_unfolding_all rfl)
  refine' e_load ?ht (Md.at Ds10 2 _ _ rfl) ?_; (case ht => with_unfolding_all rfl)
  refine' e_update (o' := ⟨(.type "dict"), none, (.dict #[⟨PyData.keyHash w.params (Str.ofString "__module__"), (.str (Str.ofString "__module__") u80), (.str (Str.ofString "cpy313.functools") u85)⟩, ⟨PyData.keyHash w.params (Str.ofString "__firstlineno__"), (.str (Str.ofString "__firstlineno__") u84), (.int 4 u83)⟩, ⟨PyData.keyHash w.params (Str.ofString "__slots__"), (.str (Str.ofString "__slots__") u88), (.ref a135)⟩, ⟨PyData.keyHash w.params (Str.ofString "__init__"), (.str (Str.ofString "__init__") u89), (.ref a136)⟩, ⟨PyData.keyHash w.params (Str.ofString "__lt__"), (.str (Str.ofString "__lt__") u90), (.ref a138)⟩, ⟨PyData.keyHash w.params (Str.ofString "__gt__"), (.str (Str.ofString "__gt__") u91), (.ref a140)⟩, ⟨PyData.keyHash w.params (Str.ofString "__eq__"), (.str (Str.ofString "__eq__") u92), (.ref a142)⟩, ⟨PyData.keyHash w.params (Str.ofString "__le__"), (.str (Str.ofString "__le__") u93), (.ref a144)⟩, ⟨PyData.keyHash w.params (Str.ofString "__ge__"), (.str (Str.ofString "__ge__") u94), (.ref a146)⟩, ⟨PyData.keyHash w.params (Str.ofString "__hash__"), (.str (Str.ofString "__hash__") u95), .none⟩, ⟨PyData.keyHash w.params (Str.ofString "__static_attributes__"), (.str (Str.ofString "__static_attributes__") u97), (.ref a147)⟩, ⟨PyData.keyHash w.params (Str.ofString "obj"), (.str (Str.ofString "obj") u99), (.ref a151)⟩] 2), #[]⟩) ?ht Ds10 2 rfl ?hu rfl (fun hDs11 Ds11 => ?_); (case ht => with_unfolding_all rfl); (case hu => with_unfolding_all rfl); clear Ds10; simp only [List.set_cons_succ, List.set_cons_zero] at Ds11
  refine' e_load ?ht (Md.at Ds11 1 _ _ rfl) ?_; (case ht => with_unfolding_all rfl)
  refine' e_update (o' := ⟨(.type "type"), none, (.cls { name := (Str.ofString "K"), bases := [(.type "object")], mro := [(.ref a150), (.type "object")], ns := a149, qualname := (Str.ofString "cmp_to_key.<locals>.K"), hasDict := false, slotNames := [(Str.ofString "obj")], subclasses := [], abstract := false, collection := none, hasDel := false }), #[(some (.ref a131)), none, (some (.str (Str.ofString "K") u78)), (some (.str (Str.ofString "cmp_to_key.<locals>.K") u81)), (some (.builtin "object.__new__"))]⟩) ?ht Ds11 1 rfl ?hu rfl (fun hDs12 Ds12 => ?_); (case ht => with_unfolding_all rfl); (case hu => with_unfolding_all rfl); clear Ds11; simp only [List.set_cons_succ, List.set_cons_zero] at Ds12
  refine' e_load ?ht (Md.at Ds12 1 _ _ rfl) ?_; (case ht => with_unfolding_all rfl)
  refine' e_update (o' := ⟨(.type "type"), none, (.cls { name := (Str.ofString "K"), bases := [(.type "object")], mro := [(.ref a150), (.type "object")], ns := a149, qualname := (Str.ofString "cmp_to_key.<locals>.K"), hasDict := false, slotNames := [(Str.ofString "obj")], subclasses := [], abstract := false, collection := none, hasDel := false }), #[(some (.ref a131)), none, (some (.str (Str.ofString "K") u78)), (some (.str (Str.ofString "cmp_to_key.<locals>.K") u81)), (some (.builtin "object.__new__")), (some (.bool false))]⟩) ?ht Ds12 1 rfl ?hu rfl (fun hDs13 Ds13 => ?_); (case ht => with_unfolding_all rfl); (case hu => with_unfolding_all rfl); clear Ds12; simp only [List.set_cons_succ, List.set_cons_zero] at Ds13
  refine' e_load ?ht (Md.at Ds13 2 _ _ rfl) ?_; (case ht => with_unfolding_all rfl)
  refine' e_fresh ?ht (fun u100 tk' => ?_); (case ht => with_unfolding_all rfl)
  refine' e_load ?ht (Md.at Ds13 2 _ _ rfl) ?_; (case ht => with_unfolding_all rfl)
  refine' e_update (o' := ⟨(.type "dict"), none, (.dict #[⟨PyData.keyHash w.params (Str.ofString "__module__"), (.str (Str.ofString "__module__") u80), (.str (Str.ofString "cpy313.functools") u85)⟩, ⟨PyData.keyHash w.params (Str.ofString "__firstlineno__"), (.str (Str.ofString "__firstlineno__") u84), (.int 4 u83)⟩, ⟨PyData.keyHash w.params (Str.ofString "__slots__"), (.str (Str.ofString "__slots__") u88), (.ref a135)⟩, ⟨PyData.keyHash w.params (Str.ofString "__init__"), (.str (Str.ofString "__init__") u89), (.ref a136)⟩, ⟨PyData.keyHash w.params (Str.ofString "__lt__"), (.str (Str.ofString "__lt__") u90), (.ref a138)⟩, ⟨PyData.keyHash w.params (Str.ofString "__gt__"), (.str (Str.ofString "__gt__") u91), (.ref a140)⟩, ⟨PyData.keyHash w.params (Str.ofString "__eq__"), (.str (Str.ofString "__eq__") u92), (.ref a142)⟩, ⟨PyData.keyHash w.params (Str.ofString "__le__"), (.str (Str.ofString "__le__") u93), (.ref a144)⟩, ⟨PyData.keyHash w.params (Str.ofString "__ge__"), (.str (Str.ofString "__ge__") u94), (.ref a146)⟩, ⟨PyData.keyHash w.params (Str.ofString "__hash__"), (.str (Str.ofString "__hash__") u95), .none⟩, ⟨PyData.keyHash w.params (Str.ofString "__static_attributes__"), (.str (Str.ofString "__static_attributes__") u97), (.ref a147)⟩, ⟨PyData.keyHash w.params (Str.ofString "obj"), (.str (Str.ofString "obj") u99), (.ref a151)⟩, ⟨PyData.keyHash w.params (Str.ofString "__doc__"), (.str (Str.ofString "__doc__") u100), .none⟩] 3), #[]⟩) ?ht Ds13 2 rfl ?hu rfl (fun hDs14 Ds14 => ?_); (case ht => with_unfolding_all rfl); (case hu => with_unfolding_all rfl); clear Ds13; simp only [List.set_cons_succ, List.set_cons_zero] at Ds14
  refine' e_load ?ht (Md.at Ds14 2 _ _ rfl) ?_; (case ht => with_unfolding_all rfl)
  refine' e_load ?ht (Md.at Ds14 2 _ _ rfl) ?_; (case ht => with_unfolding_all rfl)
  refine' e_load ?ht (Md.at Ds14 2 _ _ rfl) ?_; (case ht => with_unfolding_all rfl)
  refine' e_load ?ht (Md.at Ds14 2 _ _ rfl) ?_; (case ht => with_unfolding_all rfl)
  refine' e_load ?ht (Md.old Ds14 hO135 rfl) ?_; (case ht => with_unfolding_all rfl)
  refine' e_load ?ht (Md.old Ds14 hO136 rfl) ?_; (case ht => with_unfolding_all rfl)
  refine' e_load ?ht (Md.old Ds14 hO138 rfl) ?_; (case ht => with_unfolding_all rfl)
  refine' e_load ?ht (Md.old Ds14 hO140 rfl) ?_; (case ht => with_unfolding_all rfl)
  refine' e_load ?ht (Md.old Ds14 hO142 rfl) ?_; (case ht => with_unfolding_all rfl)
  refine' e_load ?ht (Md.old Ds14 hO144 rfl) ?_; (case ht => with_unfolding_all rfl)
  refine' e_load ?ht (Md.old Ds14 hO146 rfl) ?_; (case ht => with_unfolding_all rfl)
  refine' e_load ?ht (Md.old Ds14 hO147 rfl) ?_; (case ht => with_unfolding_all rfl)
  refine' e_load ?ht (Md.at Ds14 0 _ _ rfl) ?_; (case ht => with_unfolding_all rfl)
  refine' e_call ?ht ?_; (case ht => with_unfolding_all rfl); refine' s_super (Md.at Ds14 1 _ _ rfl) ⟨fun a152 h152 tk152 M152 => ?_⟩; (try exact []); have Ds15 := Md.more Ds14 M152; simp only [List.cons_append, List.nil_append] at Ds15; clear Ds14 M152
  refine' e_fresh ?ht (fun u101 tk' => ?_); (case ht => with_unfolding_all rfl)
  refine' e_load ?ht (Md.at Ds15 0 _ _ rfl) ?_; (case ht => with_unfolding_all rfl)
  refine' e_call ?ht ?_; (case ht => with_unfolding_all rfl); refine' s_superget (Md.old Ds15 hO2 rfl) (Md.at Ds15 2 _ _ rfl) (Md.at Ds15 0 _ _ rfl) (fun a153 h153 tk153 M153 => ?_); (try exact []); have Ds16 := Md.more Ds15 M153; simp only [List.cons_append, List.nil_append] at Ds16; clear Ds15 M153
  refine' e_call ?ht ?_; (case ht => with_unfolding_all rfl); refine' s_initsub (Md.at Ds16 3 _ _ rfl) (Md.at Ds16 0 _ _ rfl) ⟨fun tk154 => ?_⟩; (try exact [])
  refine e_pure (by with_unfolding_all rfl) ?_
  exact hret a149 a150 a151 u98 u99 u100 _ _ (Md.sub Ds16 (.cons _ (.cons _ (.cons_cons _ (.cons_cons _ (.cons_cons _ (.cons _ .slnil)))))))
end Mine
end

section
-- TC
open PySem PySem.W PyProof.Rows PySem.Builtin PySem.W.X
set_option maxRecDepth 100000
set_option maxHeartbeats 0
namespace Mine
theorem typeCallT {prog : Program} {w : World} {A : Around} {h₁ : Heap} {d : Drawn} {tk : Nat} {os : OsState} {Q : Result → Shared → Prop} {E : Value → Shared → Prop} {a131 a133 a135 a136 a138 a140 a142 a144 a146 a147 : Addr} {f1 f2 f3 f4 f5 f6 : FuncData} {u78 u87 u96 u80 u81 u82 u83 u84 u85 u88 u89 u90 u91 u92 u93 u94 u95 u97 : Tok}
   {l : List Value} (hO2 : h₁.get? 2 = some statO) (hO131 : h₁.get? a131 = some ⟨.type "tuple", none, .seq #[.type "object"] 0, #[]⟩) (hO133 : h₁.get? a133 = some ⟨(.type "dict"), none, (.dict #[⟨PyData.keyHash w.params (Str.ofString "__module__"), (.str (Str.ofString "__module__") u80), (.str (Str.ofString "cpy313.functools") u85)⟩, ⟨PyData.keyHash w.params (Str.ofString "__qualname__"), (.str (Str.ofString "__qualname__") u82), (.str (Str.ofString "cmp_to_key.<locals>.K") u81)⟩, ⟨PyData.keyHash w.params (Str.ofString "__firstlineno__"), (.str (Str.ofString "__firstlineno__") u84), (.int 4 u83)⟩, ⟨PyData.keyHash w.params (Str.ofString "__slots__"), (.str (Str.ofString "__slots__") u88), (.ref a135)⟩, ⟨PyData.keyHash w.params (Str.ofString "__init__"), (.str (Str.ofString "__init__") u89), (.ref a136)⟩, ⟨PyData.keyHash w.params (Str.ofString "__lt__"), (.str (Str.ofString "__lt__") u90), (.ref a138)⟩, ⟨PyData.keyHash w.params (Str.ofString "__gt__"), (.str (Str.ofString "__gt__") u91), (.ref a140)⟩, ⟨PyData.keyHash w.params (Str.ofString "__eq__"), (.str (Str.ofString "__eq__") u92), (.ref a142)⟩, ⟨PyData.keyHash w.params (Str.ofString "__le__"), (.str (Str.ofString "__le__") u93), (.ref a144)⟩, ⟨PyData.keyHash w.params (Str.ofString "__ge__"), (.str (Str.ofString "__ge__") u94), (.ref a146)⟩, ⟨PyData.keyHash w.params (Str.ofString "__hash__"), (.str (Str.ofString "__hash__") u95), .none⟩, ⟨PyData.keyHash w.params (Str.ofString "__static_attributes__"), (.str (Str.ofString "__static_attributes__") u97), (.ref a147)⟩] 12), #[]⟩) (hO135 : h₁.get? a135 = some ⟨.type "list", none, .seq #[.str (Str.ofString "obj") u87] 0, #[]⟩)
   (hO136 : h₁.get? a136 = some ⟨.type "function", none, .func f1, #[]⟩) (hO138 : h₁.get? a138 = some ⟨.type "function", none, .func f2, #[]⟩) (hO140 : h₁.get? a140 = some ⟨.type "function", none, .func f3, #[]⟩) (hO142 : h₁.get? a142 = some ⟨.type "function", none, .func f4, #[]⟩) (hO144 : h₁.get? a144 = some ⟨.type "function", none, .func f5, #[]⟩) (hO146 : h₁.get? a146 = some ⟨.type "function", none, .func f6, #[]⟩)
   (hO147 : h₁.get? a147 = some ⟨.type "tuple", none, .seq #[.str (Str.ofString "obj") u96] 0, #[]⟩) (hns : (a133 == sysModules) = false)
   (hret : ∀ a149 a150 a151 u98 u99 u100 h' tk', Md [] h₁ h' [(a151, ⟨(.type "member_descriptor"), none, (.fields #[(.str (Str.ofString "obj") u98), (.ref a150), (.builtin "proto.slot"), (.builtin "proto.slot#set"), (.int 0 0)]), #[]⟩), (a150, clsO a150 a149 a131 u78 u81), (a149, ⟨(.type "dict"), none, (.dict #[⟨PyData.keyHash w.params (Str.ofString "__module__"), (.str (Str.ofString "__module__") u80), (.str (Str.ofString "cpy313.functools") u85)⟩, ⟨PyData.keyHash w.params (Str.ofString "__firstlineno__"), (.str (Str.ofString "__firstlineno__") u84), (.int 4 u83)⟩, ⟨PyData.keyHash w.params (Str.ofString "__slots__"), (.str (Str.ofString "__slots__") u88), (.ref a135)⟩, ⟨PyData.keyHash w.params (Str.ofString "__init__"), (.str (Str.ofString "__init__") u89), (.ref a136)⟩, ⟨PyData.keyHash w.params (Str.ofString "__lt__"), (.str (Str.ofString "__lt__") u90), (.ref a138)⟩, ⟨PyData.keyHash w.params (Str.ofString "__gt__"), (.str (Str.ofString "__gt__") u91), (.ref a140)⟩, ⟨PyData.keyHash w.params (Str.ofString "__eq__"), (.str (Str.ofString "__eq__") u92), (.ref a142)⟩, ⟨PyData.keyHash w.params (Str.ofString "__le__"), (.str (Str.ofString "__le__") u93), (.ref a144)⟩, ⟨PyData.keyHash w.params (Str.ofString "__ge__"), (.str (Str.ofString "__ge__") u94), (.ref a146)⟩, ⟨PyData.keyHash w.params (Str.ofString "__hash__"), (.str (Str.ofString "__hash__") u95), .none⟩, ⟨PyData.keyHash w.params (Str.ofString "__static_attributes__"), (.str (Str.ofString "__static_attributes__") u97), (.ref a147)⟩, ⟨PyData.keyHash w.params (Str.ofString "obj"), (.str (Str.ofString "obj") u99), (.ref a151)⟩, ⟨PyData.keyHash w.params (Str.ofString "__doc__"), (.str (Str.ofString "__doc__") u100), .none⟩] 3), #[]⟩)] → Q (.ok (.ret (.ref a150))) ⟨h', #[], d, tk', os⟩) :
   wpAny (model prog w) A (Sem.call (.call (.type "type") ⟨[.str (Str.ofString "K") u78, .ref a131, .ref a133], []⟩) none false l Sem.pure) Q E ⟨h₁, #[], d, tk, os⟩ := by
  refine x_call ?_ (by intro h; cases h)
  refine x_code ?_
  refine e_pure (a := .again (.builtin "type.__call__" ⟨[.type "type", .str (Str.ofString "K") u78, .ref a131, .ref a133], []⟩)) (by kernel_rfl) ?_
  refine ⟨by kernel_rfl, codeAny_builtin (b := PySem.Builtin.«type.__call__») (entryFor_of_tree (by kernel_rfl)) ?_⟩
  refine' e_call ?ht ?_; (case ht => with_unfolding_all rfl)
  refine x_call ?_ (by intro h; cases h)
  refine codeAny_call_builtin_at (b := PySem.Builtin.«type.__new__») (by kernel_rfl) (entryFor_of_tree (by kernel_rfl)) ?_
  refine e_pure (a := ()) (by kernel_rfl) ?_
  refine typeNewT hO2 hO131 hO133 hO135 hO136 hO138 hO140 hO142 hO144 hO146 hO147 hns (fun a149 a150 a151 u98 u99 u100 h' tk' D => ?_)
  refine wpAny_pure ?_
  refine' e_load ?ht (Md.at D 1 _ _ rfl) ?_; (case ht => with_unfolding_all rfl)
  refine' e_load ?ht (Md.at D 1 _ _ rfl) ?_; (case ht => with_unfolding_all rfl)
  refine' e_call ?ht ?_; (case ht => with_unfolding_all rfl)
  refine' s_typeinit (Md.at D 1 _ _ rfl) ⟨fun tk154 => ?_⟩; (try exact [])
  refine e_pure (a := .done (.ret (.ref a150))) (by with_unfolding_all rfl) ?_
  exact wpAny_pure (hret a149 a150 a151 u98 u99 u100 _ _ D)
end Mine
end

section
-- Sub4
open PySem PySem.W PyProof.Rows PySem.Builtin PySem.W.X
set_option maxRecDepth 100000
set_option maxHeartbeats 0
namespace Mine
local macro_rules | `(tactic| x_close) => `(tactic| ((rename RetW _ => hR); first | (apply (RetW.out hR); with_unfolding_all assumption) | (apply (RetW.out hR))))
section
variable {prog : Program} {w : World} {A : Around} {Q : Result → Shared → Prop} {E : Value → Shared → Prop} {h : Heap} {d : Drawn} {tk : Nat} {os : OsState} {l : List Value}
theorem s_prep1 {u : Tok}
   (hret : RetW (∀ r h' tk', Mem h h' [] [(r, ⟨.type "builtin_function_or_method", none, .fields #[.builtin "type.__prepare__", .type "type"], #[]⟩)] → Q (.ok (.ret (.ref r))) ⟨h', #[], d, tk', os⟩)) :
   wpAny (model prog w) A (Sem.call (.call (.builtin "type.__getattribute__") ⟨[.type "type", .str (Str.ofString "__prepare__") u], []⟩) none false l Sem.pure) Q E ⟨h, #[], d, tk, os⟩ := by
  x_run
theorem s_prep2 {r : Addr} {v1 v2 : Value} (hr : h.get? r = some ⟨.type "builtin_function_or_method", none, .fields #[.builtin "type.__prepare__", .type "type"], #[]⟩)
   (hret : RetW (∀ r' h' tk', Mem h h' [] [(r', ⟨.type "dict", none, .dict #[] 0, #[]⟩)] → Q (.ok (.ret (.ref r'))) ⟨h', #[], d, tk', os⟩)) :
   wpAny (model prog w) A (Sem.call (.call (.ref r) ⟨[v1, v2], []⟩) none false l Sem.pure) Q E ⟨h, #[], d, tk, os⟩ := by
  x_run
end
end Mine
end

section
-- KD
open PySem PySem.W PyProof.Rows PySem.Builtin PySem.W.X PySem.Calls PySem.Spec
set_option maxRecDepth 100000
set_option maxHeartbeats 0
namespace Mine
noncomputable def KO (w : World) (a : Addr) : Obj := ((hdx.heap_39 w.params).lookup a).getD default
abbrev PRG : Program := PySem.Challenge.rw_oy0001_01.row.prog
theorem noLimit_of {h : Heap} (hO2 : h.get? 2 = some statO) : h.NoLimit := ⟨fun _ => none, ⟨statO, #[], 0, hO2, rfl, by intro e he; simp at he, fun _ => rfl⟩, rfl⟩
theorem evalArgs_one {prog : Program} {w : World} {A : Around} {f : Value} {T : String} {x : Sem Value} {s : Shared} {Q : Args → Shared → Prop} {E : Value → Shared → Prop}
    (hx : wpAny (model prog w) A x (fun u s' => u = .type T ∧ Q ⟨[.type T], []⟩ s') E s) : wpAny (model prog w) A (evalArgs f false [(false, x)] []) Q E s := by
  unfold evalArgs
  refine wpAny_bind (m := spliced [(false, x)]) (spliced_cons (wpAny_mono hx (fun u s' hv => spliced_nil ?_) fun _ _ e => e))
  obtain ⟨rfl, hv⟩ := hv
  exact e_pure (a := (⟨[.type T], []⟩ : Args)) (by with_unfolding_all rfl) hv
/-- the class's block, out of the program -/
def kStmts : List Stmt := match PySem.Challenge.pw_oy0001_01.main.body with
  | _ :: .FunctionDef _ _ (.ClassDef _ _ _ b _ _ _ _ _ _ _ :: _) _ _ _ _ _ _ _ :: _ => b
  | _ => []
def kFn (i : Nat) : Arguments × List Stmt × Scope := match kStmts[i]? with
  | some (.FunctionDef _ a b _ _ _ sc _ _ _) => (a, b, sc)
  | _ => default
/-- a method's template, a method -/
def fnT (i : Nat) (name : String) : FuncData := { name := Str.ofString name, qualname := Str.ofString "cmp_to_key.<locals>.K." ++ Str.ofString name, params := (kFn i).1, body := .stmts (kFn i).2.1, scope := (kFn i).2.2, globals := builtinsNs, closure := [], defaults := .none, kwdefaults := .none }
def fnD (i : Nat) (name : String) (clos : List (Str × Addr)) (code ct : Value) : FuncData := { fnT i name with globals := 3, closure := clos, code := code, closureTuple := ct, pyModule := .str (Str.ofString "law_oy0001_01") 211, builtins := 0 }
end Mine
end

section
-- WQ
open PySem PySem.W PyProof.Rows PySem.Builtin PySem.W.X
set_option maxRecDepth 100000
namespace Mine
/-- a piece of a walk with no new name in it: the heap is any that has taken `i` objects and `j` tokens since the piece began, and shows `news`; `af`, `tf`: the addresses and the tokens that it takes -/
structure Wq (ex : List Addr) (h₁ : Heap) (af : Nat → Addr) (tf : Nat → Tok) (d : Drawn) (os : OsState) (i j : Nat) (news : List (Addr × Obj)) (P : Shared → Prop) : Prop where
  go : ∀ n tk0, (∀ k, af k = n + k) → (∀ k, tf k = tk0 + k) → ∀ h, h.objs.size = n + i → Md ex h₁ h news → P ⟨h, #[], d, tk0 + j, os⟩
section
variable {prog : Program} {w : World} {A : Around} {α : Type} {Q : α → Shared → Prop} {E : Value → Shared → Prop} {ex : List Addr} {h₁ : Heap} {af : Nat → Addr} {tf : Nat → Tok} {d : Drawn} {os : OsState} {i j : Nat} {news : List (Addr × Obj)} {t : Sem α}
theorem Wq.enter {h : Heap} {tk : Nat} {P : Shared → Prop} (D : Md ex h₁ h news) (x : ∀ af tf, Wq ex h₁ af tf d os 0 0 news P) : P ⟨h, #[], d, tk, os⟩ := (x (fun k => h.objs.size + k) (fun k => tk + k)).go h.objs.size tk (fun _ => rfl) (fun _ => rfl) h rfl D
theorem Wq.out {P : Shared → Prop} (x : ∀ h tk, Md ex h₁ h news → P ⟨h, #[], d, tk, os⟩) : Wq ex h₁ af tf d os i j news P := ⟨fun _ _ _ _ h _ D => x h _ D⟩
theorem Wq.map {P P' : Shared → Prop} (f : ∀ h tk, Md ex h₁ h news → P' ⟨h, #[], d, tk, os⟩ → P ⟨h, #[], d, tk, os⟩) (x : Wq ex h₁ af tf d os i j news P') : Wq ex h₁ af tf d os i j news P := ⟨fun n tk0 ha ht h hs D => f _ _ D (x.go n tk0 ha ht h hs D)⟩
theorem w_load {a : Addr} {q : Option Value} {k : Obj → Sem α} {o : Obj} (ht : skim ⟨prog, w.params⟩ 400 t = .load a q k) (m : Nat) (hm : news[m]? = some (a, o)) (x : Wq ex h₁ af tf d os i j news (wpAny (model prog w) A (k o) Q E)) : Wq ex h₁ af tf d os i j news (wpAny (model prog w) A t Q E) :=
  ⟨fun n tk0 ha hk h hs D => e_load ht (D.at m a o hm) (x.go n tk0 ha hk h hs D)⟩
theorem w_loadO {a : Addr} {q : Option Value} {k : Obj → Sem α} {o : Obj} (ht : skim ⟨prog, w.params⟩ 400 t = .load a q k) (ho : h₁.get? a = some o) (hx : ex.contains a = false) (x : Wq ex h₁ af tf d os i j news (wpAny (model prog w) A (k o) Q E)) : Wq ex h₁ af tf d os i j news (wpAny (model prog w) A t Q E) :=
  ⟨fun n tk0 ha hk h hs D => e_load ht (D.old ho hx) (x.go n tk0 ha hk h hs D)⟩
theorem w_alloc {o : Obj} {k : Addr → Sem α} {i' : Nat} (ht : skim ⟨prog, w.params⟩ 400 t = .alloc o k) (hf : o.isFreed = false) (hi : i' = i + 1) (x : Wq ex h₁ af tf d os i' j ((af i, o) :: news) (wpAny (model prog w) A (k (af i)) Q E)) : Wq ex h₁ af tf d os i j news (wpAny (model prog w) A t Q E) := by
  subst hi
  refine ⟨fun n tk0 ha hk h hs D => ?_⟩
  refine x_skim 400 ?_
  rw [ht]
  have e : af i = h.objs.size := (ha i).trans hs.symm
  have x' := x.go n tk0 ha hk (h.push o) (by show (h.objs.push o).size = _; rw [Array.size_push, hs]; rfl) (by rw [e]; exact D.alloc hf)
  rw [e] at x'
  exact wpAny_bind (m := alloc o) (f := k) (wpAny_alloc x')
theorem w_update {news' : List (Addr × Obj)} {a : Addr} {q : Option Value} {f : Obj → Obj} {k : Unit → Sem α} {o o' : Obj} (ht : skim ⟨prog, w.params⟩ 400 t = .update a q f k) (m : Nat) (hm : news[m]? = some (a, o)) (hu : f o = o') (hf : o'.isFreed = false) (hn : news.set m (a, o') = news') (x : Wq ex h₁ af tf d os i j news' (wpAny (model prog w) A (k ()) Q E)) : Wq ex h₁ af tf d os i j news (wpAny (model prog w) A t Q E) :=
  ⟨fun n tk0 ha hk h hs D => x_skim 400 (by subst hu; subst hn; rw [ht]; exact wpAny_bind (m := updatePart a q f) (f := k) (wpAny_updatePart (D.at m a o hm) (x.go n tk0 ha hk _ ((Heap.SameBut.update ..).1.trans hs) (D.update hm hf))))⟩
theorem w_fresh {k : Tok → Sem α} {j' : Nat} (ht : skim ⟨prog, w.params⟩ 400 t = .fresh k) (hj : j' = j + 1) (x : Wq ex h₁ af tf d os i j' news (wpAny (model prog w) A (k (tf j)) Q E)) : Wq ex h₁ af tf d os i j news (wpAny (model prog w) A t Q E) := by
  subst hj
  refine ⟨fun n tk0 ha hk h hs D => x_skim 400 ?_⟩
  rw [ht]
  have x' := x.go n tk0 ha hk h hs D
  rw [hk j] at x'
  exact x_fresh x'
theorem w_pure {a : α} (ht : skim ⟨prog, w.params⟩ 400 t = .pure a) (x : Wq ex h₁ af tf d os i j news (Q a)) : Wq ex h₁ af tf d os i j news (wpAny (model prog w) A t Q E) :=
  ⟨fun n tk0 ha hk h hs D => e_pure ht (x.go n tk0 ha hk h hs D)⟩
theorem w_call {c : Code} {hd : Option Value} {gd : Bool} {l : List Value} {k : Result → Sem α} (ht : skim ⟨prog, w.params⟩ 400 t = .call c hd gd l k) (x : Wq ex h₁ af tf d os i j news (wpAny (model prog w) A (Sem.call c hd gd l Sem.pure) (fun r s' => wpAny (model prog w) A (k r) Q E s') E)) : Wq ex h₁ af tf d os i j news (wpAny (model prog w) A t Q E) :=
  ⟨fun n tk0 ha hk h hs D => e_call ht (x.go n tk0 ha hk h hs D)⟩
theorem w_step {β : Type} {m : Sem β} {f : β → Sem α} {a : β} (hm : skim ⟨prog, w.params⟩ 400 m = .pure a) (x : Wq ex h₁ af tf d os i j news (wpAny (model prog w) A (f a) Q E)) : Wq ex h₁ af tf d os i j news (wpAny (model prog w) A (m >>= f) Q E) :=
  ⟨fun n tk0 ha hk h hs D => e_step hm (x.go n tk0 ha hk h hs D)⟩
/-! the same steps, the tree left unreduced: the kernel alone reduces it -/
theorem v_load {a : Addr} {o : Obj} (m : Nat) (hm : news[m]? = some (a, o)) (ht : adL ⟨prog, w.params⟩ t = some a) (x : Wq ex h₁ af tf d os i j news (wpAny (model prog w) A (nxL ⟨prog, w.params⟩ t o) Q E)) : Wq ex h₁ af tf d os i j news (wpAny (model prog w) A t Q E) := by
  unfold adL at ht; unfold nxL at x
  split at ht
  · next e => rw [e] at x; cases ht; exact w_load e m hm x
  · cases ht
theorem v_loadO {a : Addr} {o : Obj} (ho : h₁.get? a = some o) (hx : ex.contains a = false) (ht : adL ⟨prog, w.params⟩ t = some a) (x : Wq ex h₁ af tf d os i j news (wpAny (model prog w) A (nxL ⟨prog, w.params⟩ t o) Q E)) : Wq ex h₁ af tf d os i j news (wpAny (model prog w) A t Q E) := by
  unfold adL at ht; unfold nxL at x
  split at ht
  · next e => rw [e] at x; cases ht; exact w_loadO e ho hx x
  · cases ht
theorem v_alloc {o : Obj} {i' : Nat} (ht : obA ⟨prog, w.params⟩ t = some o) (hf : o.isFreed = false) (hi : i' = i + 1) (x : Wq ex h₁ af tf d os i' j ((af i, o) :: news) (wpAny (model prog w) A (nxA ⟨prog, w.params⟩ t (af i)) Q E)) : Wq ex h₁ af tf d os i j news (wpAny (model prog w) A t Q E) := by
  unfold obA at ht; unfold nxA at x
  split at ht
  · next e => rw [e] at x; cases ht; exact w_alloc e hf hi x
  · cases ht
theorem v_update {news' : List (Addr × Obj)} {a : Addr} {o o' : Obj} (m : Nat) (hm : news[m]? = some (a, o)) (ht : upA ⟨prog, w.params⟩ t o = some (a, o')) (hf : o'.isFreed = false) (hn : news.set m (a, o') = news') (x : Wq ex h₁ af tf d os i j news' (wpAny (model prog w) A (nxU ⟨prog, w.params⟩ t) Q E)) : Wq ex h₁ af tf d os i j news (wpAny (model prog w) A t Q E) := by
  unfold upA at ht; unfold nxU at x
  split at ht
  · next e => rw [e] at x; cases ht; exact w_update e m hm rfl hf hn x
  · cases ht
theorem v_fresh {j' : Nat} (ht : isF ⟨prog, w.params⟩ t = true) (hj : j' = j + 1) (x : Wq ex h₁ af tf d os i j' news (wpAny (model prog w) A (nxF ⟨prog, w.params⟩ t (tf j)) Q E)) : Wq ex h₁ af tf d os i j news (wpAny (model prog w) A t Q E) := by
  unfold isF at ht; unfold nxF at x
  split at ht
  · next e => rw [e] at x; exact w_fresh e hj x
  · cases ht
end
end Mine
end

section
-- CK1
open PySem PySem.W PyProof.Rows PySem.Builtin PySem.W.X PySem.Calls PySem.Spec
set_option maxRecDepth 100000
set_option maxHeartbeats 0
namespace Mine
theorem ctk1 {w : World} {A : Around} {h₁ : Heap} {d : Drawn} {tk : Nat} {os : OsState} {Q : Result → Shared → Prop} {E : Value → Shared → Prop} {l : List Value} {v : Value} 
   {mb mg : Str → Option Value} {sl4 : Array (Option Value)} (hB : h₁.Ns 0 mb) (hb1 : mb "__build_class__" = some (.builtin "__build_class__")) (hb2 : mb "object" = some (.type "object")) (hG : h₁.Ns 3 mg) (hg2 : mg "object" = none) (hO1 : ∃ o, h₁.get? 1 = some o) (hO2 : h₁.get? 2 = some statO) (hO3 : h₁.get? 3 = some (KO w 3)) (hO4 : h₁.get? 4 = some ⟨.type "module", some 0, .plain, sl4⟩) (hO20 : h₁.get? 20 = some (KO w 20)) (hO21 : h₁.get? 21 = some (KO w 21))
   (hO16 : h₁.get? 16 = some ⟨.none, none, (.fields #[]), #[]⟩)
   (hdp : A.depth + 10 < recursionLimit)
   (hret : ∀ a66 a67 a70 a71 a72 a74 a75 a76 a77 a78 a79 a80 a81 a82 a83 a84 a85 a86 a87 a88 a89 a90 a91 a92 a93 a94 a95 a96 a97 a98 a99 a100 a101 a102 a103 a104 a105 a106 a107 a108 a109 a110 a111 a112 a113 a114 a115 a116 a117 a118 a119 a120 a121 a122 a124 a125 a126 u0 u2 u3 u4 u6 u7 u8 u9 u11 u12 u13 u16 u17 u18 u19 u22 u23 u24 u25 u26 u27 u31 u32 u33 u34 u35 u36 u40 u41 u42 u43 u44 u45 u49 u50 u51 u52 u53 u54 u58 u59 u60 u61 u62 u63 u67 u68 u69 u70 u72 u73 u74 u75 h' tk', Md [16] h₁ h' [(a126, ⟨(.type "member_descriptor"), none, (.fields #[(.str (Str.ofString "obj") u73), (.ref a125), (.builtin "proto.slot"), (.builtin "proto.slot#set"), (.int 0 0)]), #[]⟩), (a125, clsO a125 a124 a67 u0 u9), (a124, ⟨(.type "dict"), none, (.dict #[⟨PyData.keyHash w.params (Str.ofString "__module__"), (.str (Str.ofString "__module__") u8), (.str (Str.ofString "cpy313.functools") u13)⟩, ⟨PyData.keyHash w.params (Str.ofString "__firstlineno__"), (.str (Str.ofString "__firstlineno__") u12), (.int 4 u11)⟩, ⟨PyData.keyHash w.params (Str.ofString "__slots__"), (.str (Str.ofString "__slots__") u16), (.ref a74)⟩, ⟨PyData.keyHash w.params (Str.ofString "__init__"), (.str (Str.ofString "__init__") u24), (.ref a81)⟩, ⟨PyData.keyHash w.params (Str.ofString "__lt__"), (.str (Str.ofString "__lt__") u33), (.ref a89)⟩, ⟨PyData.keyHash w.params (Str.ofString "__gt__"), (.str (Str.ofString "__gt__") u42), (.ref a97)⟩, ⟨PyData.keyHash w.params (Str.ofString "__eq__"), (.str (Str.ofString "__eq__") u51), (.ref a105)⟩, ⟨PyData.keyHash w.params (Str.ofString "__le__"), (.str (Str.ofString "__le__") u60), (.ref a113)⟩, ⟨PyData.keyHash w.params (Str.ofString "__ge__"), (.str (Str.ofString "__ge__") u69), (.ref a121)⟩, ⟨PyData.keyHash w.params (Str.ofString "__hash__"), (.str (Str.ofString "__hash__") u70), .none⟩, ⟨PyData.keyHash w.params (Str.ofString "__static_attributes__"), (.str (Str.ofString "__static_attributes__") u72), (.ref a122)⟩, ⟨PyData.keyHash w.params (Str.ofString "obj"), (.str (Str.ofString "obj") u74), (.ref a126)⟩, ⟨PyData.keyHash w.params (Str.ofString "__doc__"), (.str (Str.ofString "__doc__") u75), .none⟩] 3), #[]⟩), (a121, ⟨(.type "function"), none, (.func (fnD 7 "__ge__" [((Str.ofString "mycmp"), a66)] (.ref a120) (.ref a114))), #[]⟩), (a120, ⟨(.type "code"), none, (.fields #[(.str (Str.ofString "__ge__") u61), (.str (Str.ofString "cmp_to_key.<locals>.K.__ge__") u62), (.str (Str.ofString "/claim/cut.py") u63), (.int 23 0), (.int 2 0), (.int 0 0), (.int 0 0), (.int 19 0), (.ref a115), (.bool true), (.int 181 0), (.ref a116), .none, (.ref a117), (.ref a118), (.ref a119), (.int ((u67 : Nat) : Int) 0), (.int 23 0), (.str (Str.ofString "/claim/cut.py") u68)]), #[]⟩), (a113, ⟨(.type "function"), none, (.func (fnD 6 "__le__" [((Str.ofString "mycmp"), a66)] (.ref a112) (.ref a106))), #[]⟩), (a112, ⟨(.type "code"), none, (.fields #[(.str (Str.ofString "__le__") u52), (.str (Str.ofString "cmp_to_key.<locals>.K.__le__") u53), (.str (Str.ofString "/claim/cut.py") u54), (.int 20 0), (.int 2 0), (.int 0 0), (.int 0 0), (.int 19 0), (.ref a107), (.bool true), (.int 181 0), (.ref a108), .none, (.ref a109), (.ref a110), (.ref a111), (.int ((u58 : Nat) : Int) 0), (.int 20 0), (.str (Str.ofString "/claim/cut.py") u59)]), #[]⟩), (a105, ⟨(.type "function"), none, (.func (fnD 5 "__eq__" [((Str.ofString "mycmp"), a66)] (.ref a104) (.ref a98))), #[]⟩), (a104, ⟨(.type "code"), none, (.fields #[(.str (Str.ofString "__eq__") u43), (.str (Str.ofString "cmp_to_key.<locals>.K.__eq__") u44), (.str (Str.ofString "/claim/cut.py") u45), (.int 17 0), (.int 2 0), (.int 0 0), (.int 0 0), (.int 19 0), (.ref a99), (.bool true), (.int 181 0), (.ref a100), .none, (.ref a101), (.ref a102), (.ref a103), (.int ((u49 : Nat) : Int) 0), (.int 17 0), (.str (Str.ofString "/claim/cut.py") u50)]), #[]⟩), (a97, ⟨(.type "function"), none, (.func (fnD 4 "__gt__" [((Str.ofString "mycmp"), a66)] (.ref a96) (.ref a90))), #[]⟩), (a96, ⟨(.type "code"), none, (.fields #[(.str (Str.ofString "__gt__") u34), (.str (Str.ofString "cmp_to_key.<locals>.K.__gt__") u35), (.str (Str.ofString "/claim/cut.py") u36), (.int 14 0), (.int 2 0), (.int 0 0), (.int 0 0), (.int 19 0), (.ref a91), (.bool true), (.int 181 0), (.ref a92), .none, (.ref a93), (.ref a94), (.ref a95), (.int ((u40 : Nat) : Int) 0), (.int 14 0), (.str (Str.ofString "/claim/cut.py") u41)]), #[]⟩), (a89, ⟨(.type "function"), none, (.func (fnD 3 "__lt__" [((Str.ofString "mycmp"), a66)] (.ref a88) (.ref a82))), #[]⟩), (a88, ⟨(.type "code"), none, (.fields #[(.str (Str.ofString "__lt__") u25), (.str (Str.ofString "cmp_to_key.<locals>.K.__lt__") u26), (.str (Str.ofString "/claim/cut.py") u27), (.int 11 0), (.int 2 0), (.int 0 0), (.int 0 0), (.int 19 0), (.ref a83), (.bool true), (.int 181 0), (.ref a84), .none, (.ref a85), (.ref a86), (.ref a87), (.int ((u31 : Nat) : Int) 0), (.int 11 0), (.str (Str.ofString "/claim/cut.py") u32)]), #[]⟩), (a81, ⟨(.type "function"), none, (.func (fnD 2 "__init__" [] (.ref a80) .none)), #[]⟩), (a80, ⟨(.type "code"), none, (.fields #[(.str (Str.ofString "__init__") u17), (.str (Str.ofString "cmp_to_key.<locals>.K.__init__") u18), (.str (Str.ofString "/claim/cut.py") u19), (.int 8 0), (.int 2 0), (.int 0 0), (.int 0 0), (.int 19 0), (.ref a75), (.bool true), (.int 181 0), (.ref a76), .none, (.ref a77), (.ref a78), (.ref a79), (.int ((u22 : Nat) : Int) 0), (.int 8 0), (.str (Str.ofString "/claim/cut.py") u23)]), #[]⟩), (a72, ⟨(.type "code"), none, (.fields #[(.str (Str.ofString "K") u2), (.str (Str.ofString "cmp_to_key.<locals>.K") u3), (.str (Str.ofString "/claim/cut.py") u4), (.int 4 0), (.int 0 0), (.int 0 0), (.int 0 0), (.int 0 0), (.ref a70), (.bool true), (.int 181 0), (.ref a71), .none, .none, .none, .none, (.int ((u6 : Nat) : Int) 0), (.int 4 0), (.str (Str.ofString "/claim/cut.py") u7)]), #[]⟩), (a71, ⟨.none, none, (.fields #[(.int 8 0), (.int 8 0), (.ref a80), (.int 11 0), (.int 8 0), (.ref a88), (.int 14 0), (.int 8 0), (.ref a96), (.int 17 0), (.int 8 0), (.ref a104), (.int 20 0), (.int 8 0), (.ref a112), (.int 23 0), (.int 8 0), (.ref a120)]), #[]⟩), (a66, ⟨.type "cell", none, .cell (some v), #[]⟩), (16, ⟨.none, none, (.fields #[(.int 4 0), (.int 4 0), (.ref a72)]), #[]⟩)] → Q (.ok (.ret (.ref a125))) ⟨h', #[], d, tk', os⟩) :
   wpAny (model PRG w) A (Sem.call (.call (.ref 21) ⟨[v], []⟩) none false l Sem.pure) Q E ⟨h₁, #[], d, tk, os⟩ := by
  have D0 : Md [16] h₁ h₁ [(16, ⟨.none, none, (.fields #[]), #[]⟩)] := Md.start (fun p hp => by cases List.mem_singleton.mp hp; exact ⟨hO16, List.mem_singleton.mpr rfl⟩) (List.nodup_cons.mpr ⟨List.not_mem_nil, List.nodup_nil⟩)
  refine x_call ?_ (by intro h; cases h)
  refine codeAny_call_function (A := A.mark none) (by show A.depth < _; omega) hO21 (by with_unfolding_all rfl) (by with_unfolding_all rfl) (by with_unfolding_all rfl) (by with_unfolding_all rfl) ⟨20, _, _, _, by with_unfolding_all rfl, hO20, by with_unfolding_all rfl, by with_unfolding_all rfl⟩ ?_
  refine e_pure (by with_unfolding_all rfl) ?_
  refine' e_alloc (o := ⟨(.type "frame"), none, (.dict #[] 0), #[]⟩) ?ht D0 rfl (fun a65 h65 Ds1 => ?_); (case ht => with_unfolding_all rfl); clear D0
  refine' e_alloc (o := ⟨(.type "cell"), none, (.cell none), #[]⟩) ?ht Ds1 rfl (fun a66 h66 Ds2 => ?_); (case ht => with_unfolding_all rfl); clear Ds1
  refine' e_load ?ht (Md.at Ds2 0 _ _ rfl) ?_; (case ht => with_unfolding_all rfl)
  refine' e_update (o' := ⟨(.type "cell"), none, (.cell (some v)), #[]⟩) ?ht Ds2 0 rfl ?hu rfl (fun hDs3 Ds3 => ?_); (case ht => with_unfolding_all rfl); (case hu => with_unfolding_all rfl); clear Ds2; simp only [List.set_cons_succ, List.set_cons_zero] at Ds3
  refine e_pure (by with_unfolding_all rfl) ?_
  refine ⟨noLimit_of (Md.old Ds3 hO2 rfl), codeAny_func ?_⟩
  have hB3 := hB.at' fun o e => Md.old Ds3 e rfl
  have hG3 := hG.at' fun o e => Md.old Ds3 e rfl
  refine wpAny_execs_cons ?_
  rw [arm_exec_ClassDef]
  refine wpAny_bind (wpAny_pure ?_)
  refine wpAny_bind (wpAny_standAt ?_)
  refine wpAny_bind ?_
  unfold buildClassGuard
  refine wpAny_bind (wpAny_nsGet hB3 ?_)
  rw [hb1]
  refine wpAny_pure ?_
  refine wpAny_bind (wpAny_holding ?_)
  refine wpAny_bind (evalArgs_one (Name_function_global rfl rfl (loadGlobal_builtin hG3 hg2 hB3 hb2 ⟨rfl, ?_⟩) (by decide)))
  refine wpAny_bind (wpAny_standAt (wpAny_holding ?_))
  refine' f_alloc (o := ⟨(.type "tuple"), none, (.seq #[(.type "object")] 0), #[]⟩) ?ht Ds3 rfl (fun a67 h67 Ds4 => ?_); (case ht => kernel_rfl); clear Ds3
  refine' e_fresh ?ht (fun u0 tk' => ?_); (case ht => with_unfolding_all rfl)
  refine' e_fresh ?ht (fun u1 tk' => ?_); (case ht => with_unfolding_all rfl)
  refine' e_call ?ht ?_; (case ht => with_unfolding_all rfl); refine' s_prep1  ⟨fun a68 h68 tk68 M68 => ?_⟩; (try exact []); have Ds5 := Md.more Ds4 M68; simp only [List.cons_append, List.nil_append] at Ds5; clear Ds4 M68
  refine' e_call ?ht ?_; (case ht => with_unfolding_all rfl); refine' s_prep2 (Md.at Ds5 0 _ _ rfl) ⟨fun a69 h69 tk69 M69 => ?_⟩; (try exact []); have Ds6 := Md.more Ds5 M69; simp only [List.cons_append, List.nil_append] at Ds6; clear Ds5 M69
  have hn := Md.ne_old Ds6 0 _ _ rfl hO1.choose_spec rfl
  refine Calls.wpAny_keep ?_
  refine e_step (a := Value.ref a69) (by with_unfolding_all rfl) ?_
  refine e_step (m := notTheModulesDict _ a69) (a := ()) (by unfold notTheModulesDict; rw [show (a69 == sysModules) = false from hn]; rfl) ?_
  refine Wq.enter Ds6 (fun af tf => ?_)
  refine' v_load 0 rfl ?ht ?_; (case ht => kernel_rfl)
  refine' v_loadO hO20 rfl ?ht ?_; (case ht => kernel_rfl)
  refine' w_load ?ht 5 rfl ?_; (case ht => with_unfolding_all rfl)
  refine' v_fresh (j' := 1) ?ht rfl ?_; (case ht => kernel_rfl)
  refine' v_fresh (j' := 2) ?ht rfl ?_; (case ht => kernel_rfl)
  refine' w_fresh (j' := 3) ?ht rfl ?_; (case ht => with_unfolding_all rfl)
  refine' v_fresh (j' := 4) ?ht rfl ?_; (case ht => kernel_rfl)
  refine' v_alloc (o := ⟨(.type "tuple"), none, (.seq #[(.str (Str.ofString "mycmp") (tf 3))] 0), #[]⟩) (i' := 1) ?ht rfl rfl ?_; (case ht => kernel_rfl)
  refine' w_alloc (o := ⟨.none, none, (.fields #[]), #[]⟩) (i' := 2) ?ht rfl rfl ?_; (case ht => with_unfolding_all rfl)
  refine' v_fresh (j' := 5) ?ht rfl ?_; (case ht => kernel_rfl)
  refine' v_fresh (j' := 6) ?ht rfl ?_; (case ht => kernel_rfl)
  refine' w_alloc (o := ⟨(.type "code"), none, (.fields #[(.str (Str.ofString "K") (tf 0)), (.str (Str.ofString "cmp_to_key.<locals>.K") (tf 1)), (.str (Str.ofString "/claim/cut.py") (tf 2)), (.int 4 0), (.int 0 0), (.int 0 0), (.int 0 0), (.int 0 0), (.ref (af 0)), (.bool true), (.int 181 0), (.ref (af 1)), .none, .none, .none, .none, (.int (((tf 4) : Nat) : Int) 0), (.int 4 0), (.str (Str.ofString "/claim/cut.py") (tf 5))]), #[]⟩) (i' := 3) ?ht rfl rfl ?_; (case ht => with_unfolding_all rfl)
  refine' v_load 8 rfl ?ht ?_; (case ht => kernel_rfl)
  refine' v_update (o' := ⟨.none, none, (.fields #[(.int 4 0), (.int 4 0), (.ref (af 2))]), #[]⟩) 8 rfl ?ht rfl ?hn ?_; (case ht => kernel_rfl); (case hn => dsimp only [List.set_cons_succ, List.set_cons_zero])
  refine' w_load ?ht 8 rfl ?_; (case ht => with_unfolding_all rfl)
  refine' v_loadO hO3 rfl ?ht ?_; (case ht => kernel_rfl)
  refine' v_loadO hO4 rfl ?ht ?_; (case ht => kernel_rfl)
  refine' w_loadO ?ht hO3 rfl ?_; (case ht => with_unfolding_all rfl)
  refine' w_alloc (o := ⟨(.type "frame"), none, .plain, #[(some (.ref (af 2))), (some (.ref 3)), (some (.ref a69)), none, (some (.str (Str.ofString "law_oy0001_01") 211)), none, (some (.ref 0))]⟩) (i' := 4) ?ht rfl rfl ?_; (case ht => with_unfolding_all rfl)
  refine Wq.map (fun h tk D z => Calls.wpAny_keep z) ?_
  refine w_step (a := (af 3)) (by with_unfolding_all rfl) ?_
  refine w_step (a := [(Str.ofString "mycmp", a66)]) (by with_unfolding_all rfl) ?_
  refine Wq.map (fun h tk D z => wpAny_holding z) ?_
  refine Wq.map (fun h tk D z => wpAny_bind (wpAny_enterFrame (noLimit_of (Md.old D hO2 rfl)) (by show A.depth + 1 < _; omega) z)) ?_
  refine' v_load 4 rfl ?ht ?_; (case ht => kernel_rfl)
  refine' v_load 4 rfl ?ht ?_; (case ht => kernel_rfl)
  refine' w_loadO ?ht hO3 rfl ?_; (case ht => with_unfolding_all rfl)
  refine' v_load 4 rfl ?ht ?_; (case ht => kernel_rfl)
  refine' v_fresh (j' := 7) ?ht rfl ?_; (case ht => kernel_rfl)
  refine' w_load ?ht 4 rfl ?_; (case ht => with_unfolding_all rfl)
  refine' v_update (o' := ⟨(.type "dict"), none, (.dict #[⟨PyData.keyHash w.params (Str.ofString "__module__"), (.str (Str.ofString "__module__") (tf 6)), (.str (Str.ofString "law_oy0001_01") 211)⟩] 1), #[]⟩) 4 rfl ?ht rfl ?hn ?_; (case ht => kernel_rfl); (case hn => dsimp only [List.set_cons_succ, List.set_cons_zero])
  refine' v_fresh (j' := 8) ?ht rfl ?_; (case ht => kernel_rfl)
  refine' w_load ?ht 4 rfl ?_; (case ht => with_unfolding_all rfl)
  refine' v_fresh (j' := 9) ?ht rfl ?_; (case ht => kernel_rfl)
  refine' v_load 4 rfl ?ht ?_; (case ht => kernel_rfl)
  refine' w_update (o' := ⟨(.type "dict"), none, (.dict #[⟨PyData.keyHash w.params (Str.ofString "__module__"), (.str (Str.ofString "__module__") (tf 6)), (.str (Str.ofString "law_oy0001_01") 211)⟩, ⟨PyData.keyHash w.params (Str.ofString "__qualname__"), (.str (Str.ofString "__qualname__") (tf 8)), (.str (Str.ofString "cmp_to_key.<locals>.K") (tf 7))⟩] 2), #[]⟩) ?ht 4 rfl ?hu rfl ?hn ?_; (case ht => with_unfolding_all rfl); (case hu => with_unfolding_all rfl); (case hn => dsimp only [List.set_cons_succ, List.set_cons_zero])
  refine' v_fresh (j' := 10) ?ht rfl ?_; (case ht => kernel_rfl)
  refine' v_load 4 rfl ?ht ?_; (case ht => kernel_rfl)
  refine' w_fresh (j' := 11) ?ht rfl ?_; (case ht => with_unfolding_all rfl)
  refine' v_load 4 rfl ?ht ?_; (case ht => kernel_rfl)
  refine' w_update (o' := ⟨(.type "dict"), none, (.dict #[⟨PyData.keyHash w.params (Str.ofString "__module__"), (.str (Str.ofString "__module__") (tf 6)), (.str (Str.ofString "law_oy0001_01") 211)⟩, ⟨PyData.keyHash w.params (Str.ofString "__qualname__"), (.str (Str.ofString "__qualname__") (tf 8)), (.str (Str.ofString "cmp_to_key.<locals>.K") (tf 7))⟩, ⟨PyData.keyHash w.params (Str.ofString "__firstlineno__"), (.str (Str.ofString "__firstlineno__") (tf 10)), (.int 4 (tf 9))⟩] 3), #[]⟩) ?ht 4 rfl ?hu rfl ?hn ?_; (case ht => with_unfolding_all rfl); (case hu => with_unfolding_all rfl); (case hn => dsimp only [List.set_cons_succ, List.set_cons_zero])
  refine' w_call ?ht ?_; (case ht => with_unfolding_all rfl)
  refine Wq.map (fun h tk D z => x_call z (by intro h; cases h)) ?_
  refine Wq.map (fun h tk D z => codeAny_body (by with_unfolding_all rfl) (by with_unfolding_all rfl) z) ?_
  refine' v_fresh (j' := 12) ?ht rfl ?_; (case ht => kernel_rfl)
  refine' v_load 4 rfl ?ht ?_; (case ht => kernel_rfl)
  refine' w_fresh (j' := 13) ?ht rfl ?_; (case ht => with_unfolding_all rfl)
  refine' v_load 4 rfl ?ht ?_; (case ht => kernel_rfl)
  refine' v_update (o' := ⟨(.type "dict"), none, (.dict #[⟨PyData.keyHash w.params (Str.ofString "__module__"), (.str (Str.ofString "__module__") (tf 6)), (.str (Str.ofString "cpy313.functools") (tf 11))⟩, ⟨PyData.keyHash w.params (Str.ofString "__qualname__"), (.str (Str.ofString "__qualname__") (tf 8)), (.str (Str.ofString "cmp_to_key.<locals>.K") (tf 7))⟩, ⟨PyData.keyHash w.params (Str.ofString "__firstlineno__"), (.str (Str.ofString "__firstlineno__") (tf 10)), (.int 4 (tf 9))⟩] 3), #[]⟩) 4 rfl ?ht rfl ?hn ?_; (case ht => kernel_rfl); (case hn => dsimp only [List.set_cons_succ, List.set_cons_zero])
  refine' w_fresh (j' := 14) ?ht rfl ?_; (case ht => with_unfolding_all rfl)
  refine' v_alloc (o := ⟨(.type "list"), none, (.seq #[(.str (Str.ofString "obj") (tf 13))] 0), #[]⟩) (i' := 5) ?ht rfl rfl ?_; (case ht => kernel_rfl)
  refine' v_load 5 rfl ?ht ?_; (case ht => kernel_rfl)
  refine' w_fresh (j' := 15) ?ht rfl ?_; (case ht => with_unfolding_all rfl)
  refine' v_load 5 rfl ?ht ?_; (case ht => kernel_rfl)
  refine' v_update (o' := ⟨(.type "dict"), none, (.dict #[⟨PyData.keyHash w.params (Str.ofString "__module__"), (.str (Str.ofString "__module__") (tf 6)), (.str (Str.ofString "cpy313.functools") (tf 11))⟩, ⟨PyData.keyHash w.params (Str.ofString "__qualname__"), (.str (Str.ofString "__qualname__") (tf 8)), (.str (Str.ofString "cmp_to_key.<locals>.K") (tf 7))⟩, ⟨PyData.keyHash w.params (Str.ofString "__firstlineno__"), (.str (Str.ofString "__firstlineno__") (tf 10)), (.int 4 (tf 9))⟩, ⟨PyData.keyHash w.params (Str.ofString "__slots__"), (.str (Str.ofString "__slots__") (tf 14)), (.ref (af 4))⟩] 4), #[]⟩) 5 rfl ?ht rfl ?hn ?_; (case ht => kernel_rfl); (case hn => dsimp only [List.set_cons_succ, List.set_cons_zero])
  refine' w_load ?ht 2 rfl ?_; (case ht => with_unfolding_all rfl)
  refine' v_load 3 rfl ?ht ?_; (case ht => kernel_rfl)
  refine' v_fresh (j' := 16) ?ht rfl ?_; (case ht => kernel_rfl)
  refine' w_fresh (j' := 17) ?ht rfl ?_; (case ht => with_unfolding_all rfl)
  refine' v_fresh (j' := 18) ?ht rfl ?_; (case ht => kernel_rfl)
  refine' v_alloc (o := ⟨(.type "tuple"), none, (.seq #[] 0), #[]⟩) (i' := 6) ?ht rfl rfl ?_; (case ht => kernel_rfl)
  refine' w_alloc (o := ⟨.none, none, (.fields #[]), #[]⟩) (i' := 7) ?ht rfl rfl ?_; (case ht => with_unfolding_all rfl)
  refine' v_fresh (j' := 19) ?ht rfl ?_; (case ht => kernel_rfl)
  refine' v_fresh (j' := 20) ?ht rfl ?_; (case ht => kernel_rfl)
  refine' w_alloc (o := ⟨(.type "tuple"), none, (.seq #[(.str (Str.ofString "self") (tf 18)), (.str (Str.ofString "obj") (tf 19))] 0), #[]⟩) (i' := 8) ?ht rfl rfl ?_; (case ht => with_unfolding_all rfl)
  refine' v_alloc (o := ⟨(.type "tuple"), none, (.seq #[] 0), #[]⟩) (i' := 9) ?ht rfl rfl ?_; (case ht => kernel_rfl)
  refine' v_alloc (o := ⟨.none, none, (.func (fnT 2 "__init__")), #[]⟩) (i' := 10) ?ht rfl rfl ?_; (case ht => kernel_rfl)
  refine' w_fresh (j' := 21) ?ht rfl ?_; (case ht => with_unfolding_all rfl)
  refine' v_fresh (j' := 22) ?ht rfl ?_; (case ht => kernel_rfl)
  refine' v_alloc (o := ⟨(.type "code"), none, (.fields #[(.str (Str.ofString "__init__") (tf 15)), (.str (Str.ofString "cmp_to_key.<locals>.K.__init__") (tf 16)), (.str (Str.ofString "/claim/cut.py") (tf 17)), (.int 8 0), (.int 2 0), (.int 0 0), (.int 0 0), (.int 19 0), (.ref (af 5)), (.bool true), (.int 181 0), (.ref (af 6)), .none, (.ref (af 7)), (.ref (af 8)), (.ref (af 9)), (.int (((tf 20) : Nat) : Int) 0), (.int 8 0), (.str (Str.ofString "/claim/cut.py") (tf 21))]), #[]⟩) (i' := 11) ?ht rfl rfl ?_; (case ht => kernel_rfl)
  refine' w_load ?ht 9 rfl ?_; (case ht => with_unfolding_all rfl)
  refine' v_update (o' := ⟨.none, none, (.fields #[(.int 8 0), (.int 8 0), (.ref (af 10))]), #[]⟩) 9 rfl ?ht rfl ?hn ?_; (case ht => kernel_rfl); (case hn => dsimp only [List.set_cons_succ, List.set_cons_zero])
  refine' v_load 9 rfl ?ht ?_; (case ht => kernel_rfl)
  refine' w_loadO ?ht hO3 rfl ?_; (case ht => with_unfolding_all rfl)
  refine' v_loadO hO4 rfl ?ht ?_; (case ht => kernel_rfl)
  refine' v_loadO hO3 rfl ?ht ?_; (case ht => kernel_rfl)
  refine' w_alloc (o := ⟨(.type "function"), none, (.func (fnD 2 "__init__" [] (.ref (af 10)) .none)), #[]⟩) (i' := 12) ?ht rfl rfl ?_; (case ht => with_unfolding_all rfl)
  refine' v_load 12 rfl ?ht ?_; (case ht => kernel_rfl)
  refine' v_fresh (j' := 23) ?ht rfl ?_; (case ht => kernel_rfl)
  refine' w_load ?ht 12 rfl ?_; (case ht => with_unfolding_all rfl)
  refine' v_update (o' := ⟨(.type "dict"), none, (.dict #[⟨PyData.keyHash w.params (Str.ofString "__module__"), (.str (Str.ofString "__module__") (tf 6)), (.str (Str.ofString "cpy313.functools") (tf 11))⟩, ⟨PyData.keyHash w.params (Str.ofString "__qualname__"), (.str (Str.ofString "__qualname__") (tf 8)), (.str (Str.ofString "cmp_to_key.<locals>.K") (tf 7))⟩, ⟨PyData.keyHash w.params (Str.ofString "__firstlineno__"), (.str (Str.ofString "__firstlineno__") (tf 10)), (.int 4 (tf 9))⟩, ⟨PyData.keyHash w.params (Str.ofString "__slots__"), (.str (Str.ofString "__slots__") (tf 14)), (.ref (af 4))⟩, ⟨PyData.keyHash w.params (Str.ofString "__init__"), (.str (Str.ofString "__init__") (tf 22)), (.ref (af 11))⟩] 5), #[]⟩) 12 rfl ?ht rfl ?hn ?_; (case ht => kernel_rfl); (case hn => dsimp only [List.set_cons_succ, List.set_cons_zero])
  refine' v_alloc (o := ⟨(.type "tuple"), none, (.seq #[(.ref a66)] 0), #[]⟩) (i' := 13) ?ht rfl rfl ?_; (case ht => kernel_rfl)
  refine' w_load ?ht 10 rfl ?_; (case ht => with_unfolding_all rfl)
  refine' v_load 11 rfl ?ht ?_; (case ht => kernel_rfl)
  refine' v_fresh (j' := 24) ?ht rfl ?_; (case ht => kernel_rfl)
  refine' w_fresh (j' := 25) ?ht rfl ?_; (case ht => with_unfolding_all rfl)
  refine' v_fresh (j' := 26) ?ht rfl ?_; (case ht => kernel_rfl)
  refine' v_fresh (j' := 27) ?ht rfl ?_; (case ht => kernel_rfl)
  refine' w_alloc (o := ⟨(.type "tuple"), none, (.seq #[(.str (Str.ofString "mycmp") (tf 26))] 0), #[]⟩) (i' := 14) ?ht rfl rfl ?_; (case ht => with_unfolding_all rfl)
  refine' v_alloc (o := ⟨.none, none, (.fields #[]), #[]⟩) (i' := 15) ?ht rfl rfl ?_; (case ht => kernel_rfl)
  refine' v_fresh (j' := 28) ?ht rfl ?_; (case ht => kernel_rfl)
  refine' w_fresh (j' := 29) ?ht rfl ?_; (case ht => with_unfolding_all rfl)
  refine' v_alloc (o := ⟨(.type "tuple"), none, (.seq #[(.str (Str.ofString "self") (tf 27)), (.str (Str.ofString "other") (tf 28))] 0), #[]⟩) (i' := 16) ?ht rfl rfl ?_; (case ht => kernel_rfl)
  refine' v_alloc (o := ⟨(.type "tuple"), none, (.seq #[] 0), #[]⟩) (i' := 17) ?ht rfl rfl ?_; (case ht => kernel_rfl)
  refine' w_alloc (o := ⟨.none, none, (.func (fnT 3 "__lt__")), #[]⟩) (i' := 18) ?ht rfl rfl ?_; (case ht => with_unfolding_all rfl)
  refine' v_fresh (j' := 30) ?ht rfl ?_; (case ht => kernel_rfl)
  refine' v_fresh (j' := 31) ?ht rfl ?_; (case ht => kernel_rfl)
  refine' w_alloc (o := ⟨(.type "code"), none, (.fields #[(.str (Str.ofString "__lt__") (tf 23)), (.str (Str.ofString "cmp_to_key.<locals>.K.__lt__") (tf 24)), (.str (Str.ofString "/claim/cut.py") (tf 25)), (.int 11 0), (.int 2 0), (.int 0 0), (.int 0 0), (.int 19 0), (.ref (af 13)), (.bool true), (.int 181 0), (.ref (af 14)), .none, (.ref (af 15)), (.ref (af 16)), (.ref (af 17)), (.int (((tf 29) : Nat) : Int) 0), (.int 11 0), (.str (Str.ofString "/claim/cut.py") (tf 30))]), #[]⟩) (i' := 19) ?ht rfl rfl ?_; (case ht => with_unfolding_all rfl)
  refine' v_load 17 rfl ?ht ?_; (case ht => kernel_rfl)
  refine' v_update (o' := ⟨.none, none, (.fields #[(.int 8 0), (.int 8 0), (.ref (af 10)), (.int 11 0), (.int 8 0), (.ref (af 18))]), #[]⟩) 17 rfl ?ht rfl ?hn ?_; (case ht => kernel_rfl); (case hn => dsimp only [List.set_cons_succ, List.set_cons_zero])
  refine' w_load ?ht 17 rfl ?_; (case ht => with_unfolding_all rfl)
  refine' v_loadO hO3 rfl ?ht ?_; (case ht => kernel_rfl)
  refine' v_loadO hO4 rfl ?ht ?_; (case ht => kernel_rfl)
  refine' w_loadO ?ht hO3 rfl ?_; (case ht => with_unfolding_all rfl)
  refine' v_alloc (o := ⟨(.type "function"), none, (.func (fnD 3 "__lt__" [((Str.ofString "mycmp"), a66)] (.ref (af 18)) (.ref (af 12)))), #[]⟩) (i' := 20) ?ht rfl rfl ?_; (case ht => kernel_rfl)
  refine' v_load 20 rfl ?ht ?_; (case ht => kernel_rfl)
  refine' w_fresh (j' := 32) ?ht rfl ?_; (case ht => with_unfolding_all rfl)
  refine' v_load 20 rfl ?ht ?_; (case ht => kernel_rfl)
  refine' v_update (o' := ⟨(.type "dict"), none, (.dict #[⟨PyData.keyHash w.params (Str.ofString "__module__"), (.str (Str.ofString "__module__") (tf 6)), (.str (Str.ofString "cpy313.functools") (tf 11))⟩, ⟨PyData.keyHash w.params (Str.ofString "__qualname__"), (.str (Str.ofString "__qualname__") (tf 8)), (.str (Str.ofString "cmp_to_key.<locals>.K") (tf 7))⟩, ⟨PyData.keyHash w.params (Str.ofString "__firstlineno__"), (.str (Str.ofString "__firstlineno__") (tf 10)), (.int 4 (tf 9))⟩, ⟨PyData.keyHash w.params (Str.ofString "__slots__"), (.str (Str.ofString "__slots__") (tf 14)), (.ref (af 4))⟩, ⟨PyData.keyHash w.params (Str.ofString "__init__"), (.str (Str.ofString "__init__") (tf 22)), (.ref (af 11))⟩, ⟨PyData.keyHash w.params (Str.ofString "__lt__"), (.str (Str.ofString "__lt__") (tf 31)), (.ref (af 19))⟩] 6), #[]⟩) 20 rfl ?ht rfl ?hn ?_; (case ht => kernel_rfl); (case hn => dsimp only [List.set_cons_succ, List.set_cons_zero])
  refine' w_alloc (o := ⟨(.type "tuple"), none, (.seq #[(.ref a66)] 0), #[]⟩) (i' := 21) ?ht rfl rfl ?_; (case ht => with_unfolding_all rfl)
  refine' v_load 18 rfl ?ht ?_; (case ht => kernel_rfl)
  refine' v_load 19 rfl ?ht ?_; (case ht => kernel_rfl)
  refine' w_fresh (j' := 33) ?ht rfl ?_; (case ht => with_unfolding_all rfl)
  refine' v_fresh (j' := 34) ?ht rfl ?_; (case ht => kernel_rfl)
  refine' v_fresh (j' := 35) ?ht rfl ?_; (case ht => kernel_rfl)
  refine' w_fresh (j' := 36) ?ht rfl ?_; (case ht => with_unfolding_all rfl)
  refine' v_alloc (o := ⟨(.type "tuple"), none, (.seq #[(.str (Str.ofString "mycmp") (tf 35))] 0), #[]⟩) (i' := 22) ?ht rfl rfl ?_; (case ht => kernel_rfl)
  refine' v_alloc (o := ⟨.none, none, (.fields #[]), #[]⟩) (i' := 23) ?ht rfl rfl ?_; (case ht => kernel_rfl)
  refine' w_fresh (j' := 37) ?ht rfl ?_; (case ht => with_unfolding_all rfl)
  refine' v_fresh (j' := 38) ?ht rfl ?_; (case ht => kernel_rfl)
  refine' v_alloc (o := ⟨(.type "tuple"), none, (.seq #[(.str (Str.ofString "self") (tf 36)), (.str (Str.ofString "other") (tf 37))] 0), #[]⟩) (i' := 24) ?ht rfl rfl ?_; (case ht => kernel_rfl)
  refine' w_alloc (o := ⟨(.type "tuple"), none, (.seq #[] 0), #[]⟩) (i' := 25) ?ht rfl rfl ?_; (case ht => with_unfolding_all rfl)
  refine' v_alloc (o := ⟨.none, none, (.func (fnT 4 "__gt__")), #[]⟩) (i' := 26) ?ht rfl rfl ?_; (case ht => kernel_rfl)
  refine' v_fresh (j' := 39) ?ht rfl ?_; (case ht => kernel_rfl)
  refine' w_fresh (j' := 40) ?ht rfl ?_; (case ht => with_unfolding_all rfl)
  refine' v_alloc (o := ⟨(.type "code"), none, (.fields #[(.str (Str.ofString "__gt__") (tf 32)), (.str (Str.ofString "cmp_to_key.<locals>.K.__gt__") (tf 33)), (.str (Str.ofString "/claim/cut.py") (tf 34)), (.int 14 0), (.int 2 0), (.int 0 0), (.int 0 0), (.int 19 0), (.ref (af 21)), (.bool true), (.int 181 0), (.ref (af 22)), .none, (.ref (af 23)), (.ref (af 24)), (.ref (af 25)), (.int (((tf 38) : Nat) : Int) 0), (.int 14 0), (.str (Str.ofString "/claim/cut.py") (tf 39))]), #[]⟩) (i' := 27) ?ht rfl rfl ?_; (case ht => kernel_rfl)
  refine' v_load 25 rfl ?ht ?_; (case ht => kernel_rfl)
  refine' w_update (o' := ⟨.none, none, (.fields #[(.int 8 0), (.int 8 0), (.ref (af 10)), (.int 11 0), (.int 8 0), (.ref (af 18)), (.int 14 0), (.int 8 0), (.ref (af 26))]), #[]⟩) ?ht 25 rfl ?hu rfl ?hn ?_; (case ht => with_unfolding_all rfl); (case hu => with_unfolding_all rfl); (case hn => dsimp only [List.set_cons_succ, List.set_cons_zero])
  refine' v_load 25 rfl ?ht ?_; (case ht => kernel_rfl)
  refine' v_loadO hO3 rfl ?ht ?_; (case ht => kernel_rfl)
  refine' w_loadO ?ht hO4 rfl ?_; (case ht => with_unfolding_all rfl)
  refine' v_loadO hO3 rfl ?ht ?_; (case ht => kernel_rfl)
  refine' v_alloc (o := ⟨(.type "function"), none, (.func (fnD 4 "__gt__" [((Str.ofString "mycmp"), a66)] (.ref (af 26)) (.ref (af 20)))), #[]⟩) (i' := 28) ?ht rfl rfl ?_; (case ht => kernel_rfl)
  refine' w_load ?ht 28 rfl ?_; (case ht => with_unfolding_all rfl)
  refine' v_fresh (j' := 41) ?ht rfl ?_; (case ht => kernel_rfl)
  refine' v_load 28 rfl ?ht ?_; (case ht => kernel_rfl)
  refine' w_update (o' := ⟨(.type "dict"), none, (.dict #[⟨PyData.keyHash w.params (Str.ofString "__module__"), (.str (Str.ofString "__module__") (tf 6)), (.str (Str.ofString "cpy313.functools") (tf 11))⟩, ⟨PyData.keyHash w.params (Str.ofString "__qualname__"), (.str (Str.ofString "__qualname__") (tf 8)), (.str (Str.ofString "cmp_to_key.<locals>.K") (tf 7))⟩, ⟨PyData.keyHash w.params (Str.ofString "__firstlineno__"), (.str (Str.ofString "__firstlineno__") (tf 10)), (.int 4 (tf 9))⟩, ⟨PyData.keyHash w.params (Str.ofString "__slots__"), (.str (Str.ofString "__slots__") (tf 14)), (.ref (af 4))⟩, ⟨PyData.keyHash w.params (Str.ofString "__init__"), (.str (Str.ofString "__init__") (tf 22)), (.ref (af 11))⟩, ⟨PyData.keyHash w.params (Str.ofString "__lt__"), (.str (Str.ofString "__lt__") (tf 31)), (.ref (af 19))⟩, ⟨PyData.keyHash w.params (Str.ofString "__gt__"), (.str (Str.ofString "__gt__") (tf 40)), (.ref (af 27))⟩] 7), #[]⟩) ?ht 28 rfl ?hu rfl ?hn ?_; (case ht => with_unfolding_all rfl); (case hu => with_unfolding_all rfl); (case hn => dsimp only [List.set_cons_succ, List.set_cons_zero])
  refine' v_alloc (o := ⟨(.type "tuple"), none, (.seq #[(.ref a66)] 0), #[]⟩) (i' := 29) ?ht rfl rfl ?_; (case ht => kernel_rfl)
  refine' v_load 26 rfl ?ht ?_; (case ht => kernel_rfl)
  refine' w_load ?ht 27 rfl ?_; (case ht => with_unfolding_all rfl)
  refine' v_fresh (j' := 42) ?ht rfl ?_; (case ht => kernel_rfl)
  refine' v_fresh (j' := 43) ?ht rfl ?_; (case ht => kernel_rfl)
  refine' w_fresh (j' := 44) ?ht rfl ?_; (case ht => with_unfolding_all rfl)
  refine' v_fresh (j' := 45) ?ht rfl ?_; (case ht => kernel_rfl)
  refine' v_alloc (o := ⟨(.type "tuple"), none, (.seq #[(.str (Str.ofString "mycmp") (tf 44))] 0), #[]⟩) (i' := 30) ?ht rfl rfl ?_; (case ht => kernel_rfl)
  refine' w_alloc (o := ⟨.none, none, (.fields #[]), #[]⟩) (i' := 31) ?ht rfl rfl ?_; (case ht => with_unfolding_all rfl)
  refine' v_fresh (j' := 46) ?ht rfl ?_; (case ht => kernel_rfl)
  refine' v_fresh (j' := 47) ?ht rfl ?_; (case ht => kernel_rfl)
  refine' w_alloc (o := ⟨(.type "tuple"), none, (.seq #[(.str (Str.ofString "self") (tf 45)), (.str (Str.ofString "other") (tf 46))] 0), #[]⟩) (i' := 32) ?ht rfl rfl ?_; (case ht => with_unfolding_all rfl)
  refine' v_alloc (o := ⟨(.type "tuple"), none, (.seq #[] 0), #[]⟩) (i' := 33) ?ht rfl rfl ?_; (case ht => kernel_rfl)
  refine' v_alloc (o := ⟨.none, none, (.func (fnT 5 "__eq__")), #[]⟩) (i' := 34) ?ht rfl rfl ?_; (case ht => kernel_rfl)
  refine' w_fresh (j' := 48) ?ht rfl ?_; (case ht => with_unfolding_all rfl)
  refine' v_fresh (j' := 49) ?ht rfl ?_; (case ht => kernel_rfl)
  refine' v_alloc (o := ⟨(.type "code"), none, (.fields #[(.str (Str.ofString "__eq__") (tf 41)), (.str (Str.ofString "cmp_to_key.<locals>.K.__eq__") (tf 42)), (.str (Str.ofString "/claim/cut.py") (tf 43)), (.int 17 0), (.int 2 0), (.int 0 0), (.int 0 0), (.int 19 0), (.ref (af 29)), (.bool true), (.int 181 0), (.ref (af 30)), .none, (.ref (af 31)), (.ref (af 32)), (.ref (af 33)), (.int (((tf 47) : Nat) : Int) 0), (.int 17 0), (.str (Str.ofString "/claim/cut.py") (tf 48))]), #[]⟩) (i' := 35) ?ht rfl rfl ?_; (case ht => kernel_rfl)
  refine' w_load ?ht 33 rfl ?_; (case ht => with_unfolding_all rfl)
  refine' v_update (o' := ⟨.none, none, (.fields #[(.int 8 0), (.int 8 0), (.ref (af 10)), (.int 11 0), (.int 8 0), (.ref (af 18)), (.int 14 0), (.int 8 0), (.ref (af 26)), (.int 17 0), (.int 8 0), (.ref (af 34))]), #[]⟩) 33 rfl ?ht rfl ?hn ?_; (case ht => kernel_rfl); (case hn => dsimp only [List.set_cons_succ, List.set_cons_zero])
  refine' v_load 33 rfl ?ht ?_; (case ht => kernel_rfl)
  refine' w_loadO ?ht hO3 rfl ?_; (case ht => with_unfolding_all rfl)
  refine' v_loadO hO4 rfl ?ht ?_; (case ht => kernel_rfl)
  refine' v_loadO hO3 rfl ?ht ?_; (case ht => kernel_rfl)
  refine' w_alloc (o := ⟨(.type "function"), none, (.func (fnD 5 "__eq__" [((Str.ofString "mycmp"), a66)] (.ref (af 34)) (.ref (af 28)))), #[]⟩) (i' := 36) ?ht rfl rfl ?_; (case ht => with_unfolding_all rfl)
  refine' v_load 36 rfl ?ht ?_; (case ht => kernel_rfl)
  refine' v_fresh (j' := 50) ?ht rfl ?_; (case ht => kernel_rfl)
  refine' w_load ?ht 36 rfl ?_; (case ht => with_unfolding_all rfl)
  refine' v_update (o' := ⟨(.type "dict"), none, (.dict #[⟨PyData.keyHash w.params (Str.ofString "__module__"), (.str (Str.ofString "__module__") (tf 6)), (.str (Str.ofString "cpy313.functools") (tf 11))⟩, ⟨PyData.keyHash w.params (Str.ofString "__qualname__"), (.str (Str.ofString "__qualname__") (tf 8)), (.str (Str.ofString "cmp_to_key.<locals>.K") (tf 7))⟩, ⟨PyData.keyHash w.params (Str.ofString "__firstlineno__"), (.str (Str.ofString "__firstlineno__") (tf 10)), (.int 4 (tf 9))⟩, ⟨PyData.keyHash w.params (Str.ofString "__slots__"), (.str (Str.ofString "__slots__") (tf 14)), (.ref (af 4))⟩, ⟨PyData.keyHash w.params (Str.ofString "__init__"), (.str (Str.ofString "__init__") (tf 22)), (.ref (af 11))⟩, ⟨PyData.keyHash w.params (Str.ofString "__lt__"), (.str (Str.ofString "__lt__") (tf 31)), (.ref (af 19))⟩, ⟨PyData.keyHash w.params (Str.ofString "__gt__"), (.str (Str.ofString "__gt__") (tf 40)), (.ref (af 27))⟩, ⟨PyData.keyHash w.params (Str.ofString "__eq__"), (.str (Str.ofString "__eq__") (tf 49)), (.ref (af 35))⟩] 8), #[]⟩) 36 rfl ?ht rfl ?hn ?_; (case ht => kernel_rfl); (case hn => dsimp only [List.set_cons_succ, List.set_cons_zero])
  refine' v_alloc (o := ⟨(.type "tuple"), none, (.seq #[(.ref a66)] 0), #[]⟩) (i' := 37) ?ht rfl rfl ?_; (case ht => kernel_rfl)
  refine' w_load ?ht 34 rfl ?_; (case ht => with_unfolding_all rfl)
  refine' v_load 35 rfl ?ht ?_; (case ht => kernel_rfl)
  refine' v_fresh (j' := 51) ?ht rfl ?_; (case ht => kernel_rfl)
  refine' w_fresh (j' := 52) ?ht rfl ?_; (case ht => with_unfolding_all rfl)
  refine' v_fresh (j' := 53) ?ht rfl ?_; (case ht => kernel_rfl)
  refine' v_fresh (j' := 54) ?ht rfl ?_; (case ht => kernel_rfl)
  refine' w_alloc (o := ⟨(.type "tuple"), none, (.seq #[(.str (Str.ofString "mycmp") (tf 53))] 0), #[]⟩) (i' := 38) ?ht rfl rfl ?_; (case ht => with_unfolding_all rfl)
  refine' v_alloc (o := ⟨.none, none, (.fields #[]), #[]⟩) (i' := 39) ?ht rfl rfl ?_; (case ht => kernel_rfl)
  refine' v_fresh (j' := 55) ?ht rfl ?_; (case ht => kernel_rfl)
  refine' w_fresh (j' := 56) ?ht rfl ?_; (case ht => with_unfolding_all rfl)
  refine' v_alloc (o := ⟨(.type "tuple"), none, (.seq #[(.str (Str.ofString "self") (tf 54)), (.str (Str.ofString "other") (tf 55))] 0), #[]⟩) (i' := 40) ?ht rfl rfl ?_; (case ht => kernel_rfl)
  refine' v_alloc (o := ⟨(.type "tuple"), none, (.seq #[] 0), #[]⟩) (i' := 41) ?ht rfl rfl ?_; (case ht => kernel_rfl)
  refine' w_alloc (o := ⟨.none, none, (.func (fnT 6 "__le__")), #[]⟩) (i' := 42) ?ht rfl rfl ?_; (case ht => with_unfolding_all rfl)
  refine' v_fresh (j' := 57) ?ht rfl ?_; (case ht => kernel_rfl)
  refine' v_fresh (j' := 58) ?ht rfl ?_; (case ht => kernel_rfl)
  refine' w_alloc (o := ⟨(.type "code"), none, (.fields #[(.str (Str.ofString "__le__") (tf 50)), (.str (Str.ofString "cmp_to_key.<locals>.K.__le__") (tf 51)), (.str (Str.ofString "/claim/cut.py") (tf 52)), (.int 20 0), (.int 2 0), (.int 0 0), (.int 0 0), (.int 19 0), (.ref (af 37)), (.bool true), (.int 181 0), (.ref (af 38)), .none, (.ref (af 39)), (.ref (af 40)), (.ref (af 41)), (.int (((tf 56) : Nat) : Int) 0), (.int 20 0), (.str (Str.ofString "/claim/cut.py") (tf 57))]), #[]⟩) (i' := 43) ?ht rfl rfl ?_; (case ht => with_unfolding_all rfl)
  refine' v_load 41 rfl ?ht ?_; (case ht => kernel_rfl)
  refine' v_update (o' := ⟨.none, none, (.fields #[(.int 8 0), (.int 8 0), (.ref (af 10)), (.int 11 0), (.int 8 0), (.ref (af 18)), (.int 14 0), (.int 8 0), (.ref (af 26)), (.int 17 0), (.int 8 0), (.ref (af 34)), (.int 20 0), (.int 8 0), (.ref (af 42))]), #[]⟩) 41 rfl ?ht rfl ?hn ?_; (case ht => kernel_rfl); (case hn => dsimp only [List.set_cons_succ, List.set_cons_zero])
  refine' w_load ?ht 41 rfl ?_; (case ht => with_unfolding_all rfl)
  refine' v_loadO hO3 rfl ?ht ?_; (case ht => kernel_rfl)
  refine' v_loadO hO4 rfl ?ht ?_; (case ht => kernel_rfl)
  refine' w_loadO ?ht hO3 rfl ?_; (case ht => with_unfolding_all rfl)
  refine' v_alloc (o := ⟨(.type "function"), none, (.func (fnD 6 "__le__" [((Str.ofString "mycmp"), a66)] (.ref (af 42)) (.ref (af 36)))), #[]⟩) (i' := 44) ?ht rfl rfl ?_; (case ht => kernel_rfl)
  refine' v_load 44 rfl ?ht ?_; (case ht => kernel_rfl)
  refine' w_fresh (j' := 59) ?ht rfl ?_; (case ht => with_unfolding_all rfl)
  refine' v_load 44 rfl ?ht ?_; (case ht => kernel_rfl)
  refine' v_update (o' := ⟨(.type "dict"), none, (.dict #[⟨PyData.keyHash w.params (Str.ofString "__module__"), (.str (Str.ofString "__module__") (tf 6)), (.str (Str.ofString "cpy313.functools") (tf 11))⟩, ⟨PyData.keyHash w.params (Str.ofString "__qualname__"), (.str (Str.ofString "__qualname__") (tf 8)), (.str (Str.ofString "cmp_to_key.<locals>.K") (tf 7))⟩, ⟨PyData.keyHash w.params (Str.ofString "__firstlineno__"), (.str (Str.ofString "__firstlineno__") (tf 10)), (.int 4 (tf 9))⟩, ⟨PyData.keyHash w.params (Str.ofString "__slots__"), (.str (Str.ofString "__slots__") (tf 14)), (.ref (af 4))⟩, ⟨PyData.keyHash w.params (Str.ofString "__init__"), (.str (Str.ofString "__init__") (tf 22)), (.ref (af 11))⟩, ⟨PyData.keyHash w.params (Str.ofString "__lt__"), (.str (Str.ofString "__lt__") (tf 31)), (.ref (af 19))⟩, ⟨PyData.keyHash w.params (Str.ofString "__gt__"), (.str (Str.ofString "__gt__") (tf 40)), (.ref (af 27))⟩, ⟨PyData.keyHash w.params (Str.ofString "__eq__"), (.str (Str.ofString "__eq__") (tf 49)), (.ref (af 35))⟩, ⟨PyData.keyHash w.params (Str.ofString "__le__"), (.str (Str.ofString "__le__") (tf 58)), (.ref (af 43))⟩] 9), #[]⟩) 44 rfl ?ht rfl ?hn ?_; (case ht => kernel_rfl); (case hn => dsimp only [List.set_cons_succ, List.set_cons_zero])
  refine' w_alloc (o := ⟨(.type "tuple"), none, (.seq #[(.ref a66)] 0), #[]⟩) (i' := 45) ?ht rfl rfl ?_; (case ht => with_unfolding_all rfl)
  refine' v_load 42 rfl ?ht ?_; (case ht => kernel_rfl)
  refine' v_load 43 rfl ?ht ?_; (case ht => kernel_rfl)
  refine' w_fresh (j' := 60) ?ht rfl ?_; (case ht => with_unfolding_all rfl)
  refine' v_fresh (j' := 61) ?ht rfl ?_; (case ht => kernel_rfl)
  refine' v_fresh (j' := 62) ?ht rfl ?_; (case ht => kernel_rfl)
  refine' w_fresh (j' := 63) ?ht rfl ?_; (case ht => with_unfolding_all rfl)
  refine' v_alloc (o := ⟨(.type "tuple"), none, (.seq #[(.str (Str.ofString "mycmp") (tf 62))] 0), #[]⟩) (i' := 46) ?ht rfl rfl ?_; (case ht => kernel_rfl)
  refine' v_alloc (o := ⟨.none, none, (.fields #[]), #[]⟩) (i' := 47) ?ht rfl rfl ?_; (case ht => kernel_rfl)
  refine' w_fresh (j' := 64) ?ht rfl ?_; (case ht => with_unfolding_all rfl)
  refine' v_fresh (j' := 65) ?ht rfl ?_; (case ht => kernel_rfl)
  refine' v_alloc (o := ⟨(.type "tuple"), none, (.seq #[(.str (Str.ofString "self") (tf 63)), (.str (Str.ofString "other") (tf 64))] 0), #[]⟩) (i' := 48) ?ht rfl rfl ?_; (case ht => kernel_rfl)
  refine' w_alloc (o := ⟨(.type "tuple"), none, (.seq #[] 0), #[]⟩) (i' := 49) ?ht rfl rfl ?_; (case ht => with_unfolding_all rfl)
  refine' v_alloc (o := ⟨.none, none, (.func (fnT 7 "__ge__")), #[]⟩) (i' := 50) ?ht rfl rfl ?_; (case ht => kernel_rfl)
  refine' v_fresh (j' := 66) ?ht rfl ?_; (case ht => kernel_rfl)
  refine' w_fresh (j' := 67) ?ht rfl ?_; (case ht => with_unfolding_all rfl)
  refine' v_alloc (o := ⟨(.type "code"), none, (.fields #[(.str (Str.ofString "__ge__") (tf 59)), (.str (Str.ofString "cmp_to_key.<locals>.K.__ge__") (tf 60)), (.str (Str.ofString "/claim/cut.py") (tf 61)), (.int 23 0), (.int 2 0), (.int 0 0), (.int 0 0), (.int 19 0), (.ref (af 45)), (.bool true), (.int 181 0), (.ref (af 46)), .none, (.ref (af 47)), (.ref (af 48)), (.ref (af 49)), (.int (((tf 65) : Nat) : Int) 0), (.int 23 0), (.str (Str.ofString "/claim/cut.py") (tf 66))]), #[]⟩) (i' := 51) ?ht rfl rfl ?_; (case ht => kernel_rfl)
  refine' v_load 49 rfl ?ht ?_; (case ht => kernel_rfl)
  refine' w_update (o' := ⟨.none, none, (.fields #[(.int 8 0), (.int 8 0), (.ref (af 10)), (.int 11 0), (.int 8 0), (.ref (af 18)), (.int 14 0), (.int 8 0), (.ref (af 26)), (.int 17 0), (.int 8 0), (.ref (af 34)), (.int 20 0), (.int 8 0), (.ref (af 42)), (.int 23 0), (.int 8 0), (.ref (af 50))]), #[]⟩) ?ht 49 rfl ?hu rfl ?hn ?_; (case ht => with_unfolding_all rfl); (case hu => with_unfolding_all rfl); (case hn => dsimp only [List.set_cons_succ, List.set_cons_zero])
  refine' v_load 49 rfl ?ht ?_; (case ht => kernel_rfl)
  refine' v_loadO hO3 rfl ?ht ?_; (case ht => kernel_rfl)
  refine' w_loadO ?ht hO4 rfl ?_; (case ht => with_unfolding_all rfl)
  refine' v_loadO hO3 rfl ?ht ?_; (case ht => kernel_rfl)
  refine' v_alloc (o := ⟨(.type "function"), none, (.func (fnD 7 "__ge__" [((Str.ofString "mycmp"), a66)] (.ref (af 50)) (.ref (af 44)))), #[]⟩) (i' := 52) ?ht rfl rfl ?_; (case ht => kernel_rfl)
  refine' w_load ?ht 52 rfl ?_; (case ht => with_unfolding_all rfl)
  refine' v_fresh (j' := 68) ?ht rfl ?_; (case ht => kernel_rfl)
  refine' v_load 52 rfl ?ht ?_; (case ht => kernel_rfl)
  refine' w_update (o' := ⟨(.type "dict"), none, (.dict #[⟨PyData.keyHash w.params (Str.ofString "__module__"), (.str (Str.ofString "__module__") (tf 6)), (.str (Str.ofString "cpy313.functools") (tf 11))⟩, ⟨PyData.keyHash w.params (Str.ofString "__qualname__"), (.str (Str.ofString "__qualname__") (tf 8)), (.str (Str.ofString "cmp_to_key.<locals>.K") (tf 7))⟩, ⟨PyData.keyHash w.params (Str.ofString "__firstlineno__"), (.str (Str.ofString "__firstlineno__") (tf 10)), (.int 4 (tf 9))⟩, ⟨PyData.keyHash w.params (Str.ofString "__slots__"), (.str (Str.ofString "__slots__") (tf 14)), (.ref (af 4))⟩, ⟨PyData.keyHash w.params (Str.ofString "__init__"), (.str (Str.ofString "__init__") (tf 22)), (.ref (af 11))⟩, ⟨PyData.keyHash w.params (Str.ofString "__lt__"), (.str (Str.ofString "__lt__") (tf 31)), (.ref (af 19))⟩, ⟨PyData.keyHash w.params (Str.ofString "__gt__"), (.str (Str.ofString "__gt__") (tf 40)), (.ref (af 27))⟩, ⟨PyData.keyHash w.params (Str.ofString "__eq__"), (.str (Str.ofString "__eq__") (tf 49)), (.ref (af 35))⟩, ⟨PyData.keyHash w.params (Str.ofString "__le__"), (.str (Str.ofString "__le__") (tf 58)), (.ref (af 43))⟩, ⟨PyData.keyHash w.params (Str.ofString "__ge__"), (.str (Str.ofString "__ge__") (tf 67)), (.ref (af 51))⟩] 10), #[]⟩) ?ht 52 rfl ?hu rfl ?hn ?_; (case ht => with_unfolding_all rfl); (case hu => with_unfolding_all rfl); (case hn => dsimp only [List.set_cons_succ, List.set_cons_zero])
  refine' v_load 52 rfl ?ht ?_; (case ht => kernel_rfl)
  refine' v_fresh (j' := 69) ?ht rfl ?_; (case ht => kernel_rfl)
  refine' w_load ?ht 52 rfl ?_; (case ht => with_unfolding_all rfl)
  refine' w_update (o' := ⟨(.type "dict"), none, (.dict #[⟨PyData.keyHash w.params (Str.ofString "__module__"), (.str (Str.ofString "__module__") (tf 6)), (.str (Str.ofString "cpy313.functools") (tf 11))⟩, ⟨PyData.keyHash w.params (Str.ofString "__qualname__"), (.str (Str.ofString "__qualname__") (tf 8)), (.str (Str.ofString "cmp_to_key.<locals>.K") (tf 7))⟩, ⟨PyData.keyHash w.params (Str.ofString "__firstlineno__"), (.str (Str.ofString "__firstlineno__") (tf 10)), (.int 4 (tf 9))⟩, ⟨PyData.keyHash w.params (Str.ofString "__slots__"), (.str (Str.ofString "__slots__") (tf 14)), (.ref (af 4))⟩, ⟨PyData.keyHash w.params (Str.ofString "__init__"), (.str (Str.ofString "__init__") (tf 22)), (.ref (af 11))⟩, ⟨PyData.keyHash w.params (Str.ofString "__lt__"), (.str (Str.ofString "__lt__") (tf 31)), (.ref (af 19))⟩, ⟨PyData.keyHash w.params (Str.ofString "__gt__"), (.str (Str.ofString "__gt__") (tf 40)), (.ref (af 27))⟩, ⟨PyData.keyHash w.params (Str.ofString "__eq__"), (.str (Str.ofString "__eq__") (tf 49)), (.ref (af 35))⟩, ⟨PyData.keyHash w.params (Str.ofString "__le__"), (.str (Str.ofString "__le__") (tf 58)), (.ref (af 43))⟩, ⟨PyData.keyHash w.params (Str.ofString "__ge__"), (.str (Str.ofString "__ge__") (tf 67)), (.ref (af 51))⟩, ⟨PyData.keyHash w.params (Str.ofString "__hash__"), (.str (Str.ofString "__hash__") (tf 68)), .none⟩] 11), #[]⟩) ?ht 52 rfl ?hu rfl ?hn ?_; (case ht => with_unfolding_all rfl); (case hu => with_unfolding_all rfl); (case hn => dsimp only [List.set_cons_succ, List.set_cons_zero])
  refine w_pure (by with_unfolding_all rfl) ?_
  refine Wq.map (fun h tk D z => wpAny_pure z) ?_
  refine' v_fresh (j' := 70) ?ht rfl ?_; (case ht => kernel_rfl)
  refine' v_alloc (o := ⟨(.type "tuple"), none, (.seq #[(.str (Str.ofString "obj") (tf 69))] 0), #[]⟩) (i' := 53) ?ht rfl rfl ?_; (case ht => kernel_rfl)
  refine' w_load ?ht 53 rfl ?_; (case ht => with_unfolding_all rfl)
  refine' v_fresh (j' := 71) ?ht rfl ?_; (case ht => kernel_rfl)
  refine' v_load 53 rfl ?ht ?_; (case ht => kernel_rfl)
  refine' w_update (o' := ⟨(.type "dict"), none, (.dict #[⟨PyData.keyHash w.params (Str.ofString "__module__"), (.str (Str.ofString "__module__") (tf 6)), (.str (Str.ofString "cpy313.functools") (tf 11))⟩, ⟨PyData.keyHash w.params (Str.ofString "__qualname__"), (.str (Str.ofString "__qualname__") (tf 8)), (.str (Str.ofString "cmp_to_key.<locals>.K") (tf 7))⟩, ⟨PyData.keyHash w.params (Str.ofString "__firstlineno__"), (.str (Str.ofString "__firstlineno__") (tf 10)), (.int 4 (tf 9))⟩, ⟨PyData.keyHash w.params (Str.ofString "__slots__"), (.str (Str.ofString "__slots__") (tf 14)), (.ref (af 4))⟩, ⟨PyData.keyHash w.params (Str.ofString "__init__"), (.str (Str.ofString "__init__") (tf 22)), (.ref (af 11))⟩, ⟨PyData.keyHash w.params (Str.ofString "__lt__"), (.str (Str.ofString "__lt__") (tf 31)), (.ref (af 19))⟩, ⟨PyData.keyHash w.params (Str.ofString "__gt__"), (.str (Str.ofString "__gt__") (tf 40)), (.ref (af 27))⟩, ⟨PyData.keyHash w.params (Str.ofString "__eq__"), (.str (Str.ofString "__eq__") (tf 49)), (.ref (af 35))⟩, ⟨PyData.keyHash w.params (Str.ofString "__le__"), (.str (Str.ofString "__le__") (tf 58)), (.ref (af 43))⟩, ⟨PyData.keyHash w.params (Str.ofString "__ge__"), (.str (Str.ofString "__ge__") (tf 67)), (.ref (af 51))⟩, ⟨PyData.keyHash w.params (Str.ofString "__hash__"), (.str (Str.ofString "__hash__") (tf 68)), .none⟩, ⟨PyData.keyHash w.params (Str.ofString "__static_attributes__"), (.str (Str.ofString "__static_attributes__") (tf 70)), (.ref (af 52))⟩] 12), #[]⟩) ?ht 53 rfl ?hu rfl ?hn ?_; (case ht => with_unfolding_all rfl); (case hu => with_unfolding_all rfl); (case hn => dsimp only [List.set_cons_succ, List.set_cons_zero])
  refine Wq.out (fun hE tkE Ds79 => ?_)
  refine' e_call ?ht ?_; (case ht => with_unfolding_all rfl)
  refine' typeCallT (Md.old Ds79 hO2 rfl) (Md.at Ds79 55 _ _ rfl) (Md.at Ds79 53 _ _ rfl) (Md.at Ds79 48 _ _ rfl) (Md.at Ds79 41 _ _ rfl) (Md.at Ds79 33 _ _ rfl) (Md.at Ds79 25 _ _ rfl) (Md.at Ds79 17 _ _ rfl) (Md.at Ds79 9 _ _ rfl) (Md.at Ds79 1 _ _ rfl) (Md.at Ds79 0 _ _ rfl) hn (fun a124 a125 a126 u73 u74 u75 h125 tk125 DT => ?_); (try exact [])
  have Ds80 := Md.trans Ds79 DT (fun _ hb => nomatch hb) (fun _ _ hb => nomatch hb); simp only [List.cons_append, List.nil_append] at Ds80; clear Ds79 DT
  refine Wq.enter Ds80 (fun ag tg => ?_)
  refine w_pure (a := Value.ref a125) (by with_unfolding_all rfl) ?_
  refine' v_fresh (j' := 1) ?ht rfl ?_; (case ht => kernel_rfl)
  refine' v_load 60 rfl ?ht ?_; (case ht => kernel_rfl)
  refine' w_update (o' := ⟨(.type "frame"), none, (.dict #[⟨PyData.keyHash w.params (Str.ofString "K"), (.str (Str.ofString "K") (tg 0)), (.ref a125)⟩] 1), #[]⟩) ?ht 60 rfl ?hu rfl ?hn ?_; (case ht => with_unfolding_all rfl); (case hu => with_unfolding_all rfl); (case hn => dsimp only [List.set_cons_succ, List.set_cons_zero])
  refine w_pure (a := Flow.next) (by with_unfolding_all rfl) ?_
  refine' w_load ?ht 60 rfl ?_; (case ht => with_unfolding_all rfl)
  refine w_pure (a := Flow.ret (.ref a125)) (by with_unfolding_all rfl) ?_
  refine Wq.out (fun hE tkE Ds81 => ?_)
  refine wpAny_pure ?_
  exact hret a66 a67 (af 0) (af 1) (af 2) (af 4) (af 5) (af 6) (af 7) (af 8) (af 9) (af 10) (af 11) (af 12) (af 13) (af 14) (af 15) (af 16) (af 17) (af 18) (af 19) (af 20) (af 21) (af 22) (af 23) (af 24) (af 25) (af 26) (af 27) (af 28) (af 29) (af 30) (af 31) (af 32) (af 33) (af 34) (af 35) (af 36) (af 37) (af 38) (af 39) (af 40) (af 41) (af 42) (af 43) (af 44) (af 45) (af 46) (af 47) (af 48) (af 49) (af 50) (af 51) (af 52) a124 a125 a126 u0 (tf 0) (tf 1) (tf 2) (tf 4) (tf 5) (tf 6) (tf 7) (tf 9) (tf 10) (tf 11) (tf 14) (tf 15) (tf 16) (tf 17) (tf 20) (tf 21) (tf 22) (tf 23) (tf 24) (tf 25) (tf 29) (tf 30) (tf 31) (tf 32) (tf 33) (tf 34) (tf 38) (tf 39) (tf 40) (tf 41) (tf 42) (tf 43) (tf 47) (tf 48) (tf 49) (tf 50) (tf 51) (tf 52) (tf 56) (tf 57) (tf 58) (tf 59) (tf 60) (tf 61) (tf 65) (tf 66) (tf 67) (tf 68) (tf 70) u73 u74 u75 _ _ (Md.sub Ds81 (.cons_cons _ (.cons_cons _ (.cons_cons _ (.cons _ (.cons_cons _ (.cons_cons _ (.cons _ (.cons _ (.cons _ (.cons _ (.cons _ (.cons _ (.cons_cons _ (.cons_cons _ (.cons _ (.cons _ (.cons _ (.cons _ (.cons _ (.cons _ (.cons_cons _ (.cons_cons _ (.cons _ (.cons _ (.cons _ (.cons _ (.cons _ (.cons _ (.cons_cons _ (.cons_cons _ (.cons _ (.cons _ (.cons _ (.cons _ (.cons _ (.cons _ (.cons_cons _ (.cons_cons _ (.cons _ (.cons _ (.cons _ (.cons _ (.cons _ (.cons _ (.cons_cons _ (.cons_cons _ (.cons _ (.cons _ (.cons _ (.cons _ (.cons _ (.cons _ (.cons _ (.cons_cons _ (.cons_cons _ (.cons _ (.cons _ (.cons _ (.cons _ (.cons_cons _ (.cons _ (.cons_cons _ .slnil)))))))))))))))))))))))))))))))))))))))))))))))))))))))))))))))
end Mine
end

section
-- CK2
open PySem PySem.W PyProof.Rows PySem.Builtin PySem.W.X PySem.Calls PySem.Spec
set_option maxRecDepth 100000
set_option maxHeartbeats 0
namespace Mine
theorem ctk2 {w : World} {A : Around} {h₁ : Heap} {d : Drawn} {tk : Nat} {os : OsState} {Q : Result → Shared → Prop} {E : Value → Shared → Prop} {l : List Value} {v : Value} {a70 a71 a72 a80 a88 a96 a104 a112 a120 : Addr} {u2 u3 u4 u6 u7 : Tok}
   {mb mg : Str → Option Value} {sl4 : Array (Option Value)} (hB : h₁.Ns 0 mb) (hb1 : mb "__build_class__" = some (.builtin "__build_class__")) (hb2 : mb "object" = some (.type "object")) (hG : h₁.Ns 3 mg) (hg2 : mg "object" = none) (hO1 : ∃ o, h₁.get? 1 = some o) (hO2 : h₁.get? 2 = some statO) (hO3 : h₁.get? 3 = some (KO w 3)) (hO4 : h₁.get? 4 = some ⟨.type "module", some 0, .plain, sl4⟩) (hO20 : h₁.get? 20 = some (KO w 20)) (hO21 : h₁.get? 21 = some (KO w 21))
   (hO16 : h₁.get? 16 = some ⟨.none, none, (.fields #[(.int 4 0), (.int 4 0), (.ref a72)]), #[]⟩)
   (hO72 : h₁.get? a72 = some ⟨(.type "code"), none, (.fields #[(.str (Str.ofString "K") u2), (.str (Str.ofString "cmp_to_key.<locals>.K") u3), (.str (Str.ofString "/claim/cut.py") u4), (.int 4 0), (.int 0 0), (.int 0 0), (.int 0 0), (.int 0 0), (.ref a70), (.bool true), (.int 181 0), (.ref a71), .none, .none, .none, .none, (.int ((u6 : Nat) : Int) 0), (.int 4 0), (.str (Str.ofString "/claim/cut.py") u7)]), #[]⟩)
   (hO71 : h₁.get? a71 = some ⟨.none, none, (.fields #[(.int 8 0), (.int 8 0), (.ref a80), (.int 11 0), (.int 8 0), (.ref a88), (.int 14 0), (.int 8 0), (.ref a96), (.int 17 0), (.int 8 0), (.ref a104), (.int 20 0), (.int 8 0), (.ref a112), (.int 23 0), (.int 8 0), (.ref a120)]), #[]⟩)
   (hdp : A.depth + 10 < recursionLimit)
   (hret : ∀ a130 a131 a135 a136 a137 a138 a139 a140 a141 a142 a143 a144 a145 a146 a147 a149 a150 a151 u78 u80 u81 u83 u84 u85 u88 u89 u90 u91 u92 u93 u94 u95 u97 u98 u99 u100 h' tk', Md [] h₁ h' [(a151, ⟨(.type "member_descriptor"), none, (.fields #[(.str (Str.ofString "obj") u98), (.ref a150), (.builtin "proto.slot"), (.builtin "proto.slot#set"), (.int 0 0)]), #[]⟩), (a150, clsO a150 a149 a131 u78 u81), (a149, ⟨(.type "dict"), none, (.dict #[⟨PyData.keyHash w.params (Str.ofString "__module__"), (.str (Str.ofString "__module__") u80), (.str (Str.ofString "cpy313.functools") u85)⟩, ⟨PyData.keyHash w.params (Str.ofString "__firstlineno__"), (.str (Str.ofString "__firstlineno__") u84), (.int 4 u83)⟩, ⟨PyData.keyHash w.params (Str.ofString "__slots__"), (.str (Str.ofString "__slots__") u88), (.ref a135)⟩, ⟨PyData.keyHash w.params (Str.ofString "__init__"), (.str (Str.ofString "__init__") u89), (.ref a136)⟩, ⟨PyData.keyHash w.params (Str.ofString "__lt__"), (.str (Str.ofString "__lt__") u90), (.ref a138)⟩, ⟨PyData.keyHash w.params (Str.ofString "__gt__"), (.str (Str.ofString "__gt__") u91), (.ref a140)⟩, ⟨PyData.keyHash w.params (Str.ofString "__eq__"), (.str (Str.ofString "__eq__") u92), (.ref a142)⟩, ⟨PyData.keyHash w.params (Str.ofString "__le__"), (.str (Str.ofString "__le__") u93), (.ref a144)⟩, ⟨PyData.keyHash w.params (Str.ofString "__ge__"), (.str (Str.ofString "__ge__") u94), (.ref a146)⟩, ⟨PyData.keyHash w.params (Str.ofString "__hash__"), (.str (Str.ofString "__hash__") u95), .none⟩, ⟨PyData.keyHash w.params (Str.ofString "__static_attributes__"), (.str (Str.ofString "__static_attributes__") u97), (.ref a147)⟩, ⟨PyData.keyHash w.params (Str.ofString "obj"), (.str (Str.ofString "obj") u99), (.ref a151)⟩, ⟨PyData.keyHash w.params (Str.ofString "__doc__"), (.str (Str.ofString "__doc__") u100), .none⟩] 3), #[]⟩), (a146, ⟨(.type "function"), none, (.func (fnD 7 "__ge__" [((Str.ofString "mycmp"), a130)] (.ref a120) (.ref a145))), #[]⟩), (a144, ⟨(.type "function"), none, (.func (fnD 6 "__le__" [((Str.ofString "mycmp"), a130)] (.ref a112) (.ref a143))), #[]⟩), (a142, ⟨(.type "function"), none, (.func (fnD 5 "__eq__" [((Str.ofString "mycmp"), a130)] (.ref a104) (.ref a141))), #[]⟩), (a140, ⟨(.type "function"), none, (.func (fnD 4 "__gt__" [((Str.ofString "mycmp"), a130)] (.ref a96) (.ref a139))), #[]⟩), (a138, ⟨(.type "function"), none, (.func (fnD 3 "__lt__" [((Str.ofString "mycmp"), a130)] (.ref a88) (.ref a137))), #[]⟩), (a136, ⟨(.type "function"), none, (.func (fnD 2 "__init__" [] (.ref a80) .none)), #[]⟩), (a130, ⟨.type "cell", none, .cell (some v), #[]⟩)] → Q (.ok (.ret (.ref a150))) ⟨h', #[], d, tk', os⟩) :
   wpAny (model PRG w) A (Sem.call (.call (.ref 21) ⟨[v], []⟩) none false l Sem.pure) Q E ⟨h₁, #[], d, tk, os⟩ := by
  have D0 : Md [] h₁ h₁ [] := Md.start0
  refine x_call ?_ (by intro h; cases h)
  refine codeAny_call_function (A := A.mark none) (by show A.depth < _; omega) hO21 (by with_unfolding_all rfl) (by with_unfolding_all rfl) (by with_unfolding_all rfl) (by with_unfolding_all rfl) ⟨20, _, _, _, by with_unfolding_all rfl, hO20, by with_unfolding_all rfl, by with_unfolding_all rfl⟩ ?_
  refine e_pure (by with_unfolding_all rfl) ?_
  refine' e_alloc (o := ⟨(.type "frame"), none, (.dict #[] 0), #[]⟩) ?ht D0 rfl (fun a129 h129 Ds1 => ?_); (case ht => with_unfolding_all rfl); clear D0
  refine' e_alloc (o := ⟨(.type "cell"), none, (.cell none), #[]⟩) ?ht Ds1 rfl (fun a130 h130 Ds2 => ?_); (case ht => with_unfolding_all rfl); clear Ds1
  refine' e_load ?ht (Md.at Ds2 0 _ _ rfl) ?_; (case ht => with_unfolding_all rfl)
  refine' e_update (o' := ⟨(.type "cell"), none, (.cell (some v)), #[]⟩) ?ht Ds2 0 rfl ?hu rfl (fun hDs3 Ds3 => ?_); (case ht => with_unfolding_all rfl); (case hu => with_unfolding_all rfl); clear Ds2; simp only [List.set_cons_succ, List.set_cons_zero] at Ds3
  refine e_pure (by with_unfolding_all rfl) ?_
  refine ⟨noLimit_of (Md.old Ds3 hO2 rfl), codeAny_func ?_⟩
  have hB3 := hB.at' fun o e => Md.old Ds3 e rfl
  have hG3 := hG.at' fun o e => Md.old Ds3 e rfl
  refine wpAny_execs_cons ?_
  rw [arm_exec_ClassDef]
  refine wpAny_bind (wpAny_pure ?_)
  refine wpAny_bind (wpAny_standAt ?_)
  refine wpAny_bind ?_
  unfold buildClassGuard
  refine wpAny_bind (wpAny_nsGet hB3 ?_)
  rw [hb1]
  refine wpAny_pure ?_
  refine wpAny_bind (wpAny_holding ?_)
  refine wpAny_bind (evalArgs_one (Name_function_global rfl rfl (loadGlobal_builtin hG3 hg2 hB3 hb2 ⟨rfl, ?_⟩) (by decide)))
  refine wpAny_bind (wpAny_standAt (wpAny_holding ?_))
  refine' f_alloc (o := ⟨(.type "tuple"), none, (.seq #[(.type "object")] 0), #[]⟩) ?ht Ds3 rfl (fun a131 h131 Ds4 => ?_); (case ht => kernel_rfl); clear Ds3
  refine' e_fresh ?ht (fun u78 tk' => ?_); (case ht => with_unfolding_all rfl)
  refine' e_fresh ?ht (fun u79 tk' => ?_); (case ht => with_unfolding_all rfl)
  refine' e_call ?ht ?_; (case ht => with_unfolding_all rfl); refine' s_prep1  ⟨fun a132 h132 tk132 M132 => ?_⟩; (try exact []); have Ds5 := Md.more Ds4 M132; simp only [List.cons_append, List.nil_append] at Ds5; clear Ds4 M132
  refine' e_call ?ht ?_; (case ht => with_unfolding_all rfl); refine' s_prep2 (Md.at Ds5 0 _ _ rfl) ⟨fun a133 h133 tk133 M133 => ?_⟩; (try exact []); have Ds6 := Md.more Ds5 M133; simp only [List.cons_append, List.nil_append] at Ds6; clear Ds5 M133
  have hn := Md.ne_old Ds6 0 _ _ rfl hO1.choose_spec rfl
  refine Calls.wpAny_keep ?_
  refine e_step (a := Value.ref a133) (by with_unfolding_all rfl) ?_
  refine e_step (m := notTheModulesDict _ a133) (a := ()) (by unfold notTheModulesDict; rw [show (a133 == sysModules) = false from hn]; rfl) ?_
  refine Wq.enter Ds6 (fun af tf => ?_)
  refine' v_load 0 rfl ?ht ?_; (case ht => kernel_rfl)
  refine' v_loadO hO20 rfl ?ht ?_; (case ht => kernel_rfl)
  refine' w_loadO ?ht hO16 rfl ?_; (case ht => with_unfolding_all rfl)
  refine' v_loadO hO3 rfl ?ht ?_; (case ht => kernel_rfl)
  refine' v_loadO hO4 rfl ?ht ?_; (case ht => kernel_rfl)
  refine' w_loadO ?ht hO3 rfl ?_; (case ht => with_unfolding_all rfl)
  refine' w_alloc (o := ⟨(.type "frame"), none, .plain, #[(some (.ref a72)), (some (.ref 3)), (some (.ref a133)), none, (some (.str (Str.ofString "law_oy0001_01") 211)), none, (some (.ref 0))]⟩) (i' := 1) ?ht rfl rfl ?_; (case ht => with_unfolding_all rfl)
  refine Wq.map (fun h tk D z => Calls.wpAny_keep z) ?_
  refine w_step (a := (af 0)) (by with_unfolding_all rfl) ?_
  refine w_step (a := [(Str.ofString "mycmp", a130)]) (by with_unfolding_all rfl) ?_
  refine Wq.map (fun h tk D z => wpAny_holding z) ?_
  refine Wq.map (fun h tk D z => wpAny_bind (wpAny_enterFrame (noLimit_of (Md.old D hO2 rfl)) (by show A.depth + 1 < _; omega) z)) ?_
  refine' v_load 1 rfl ?ht ?_; (case ht => kernel_rfl)
  refine' v_load 1 rfl ?ht ?_; (case ht => kernel_rfl)
  refine' w_loadO ?ht hO3 rfl ?_; (case ht => with_unfolding_all rfl)
  refine' v_load 1 rfl ?ht ?_; (case ht => kernel_rfl)
  refine' v_fresh (j' := 1) ?ht rfl ?_; (case ht => kernel_rfl)
  refine' w_load ?ht 1 rfl ?_; (case ht => with_unfolding_all rfl)
  refine' v_update (o' := ⟨(.type "dict"), none, (.dict #[⟨PyData.keyHash w.params (Str.ofString "__module__"), (.str (Str.ofString "__module__") (tf 0)), (.str (Str.ofString "law_oy0001_01") 211)⟩] 1), #[]⟩) 1 rfl ?ht rfl ?hn ?_; (case ht => kernel_rfl); (case hn => dsimp only [List.set_cons_succ, List.set_cons_zero])
  refine' v_fresh (j' := 2) ?ht rfl ?_; (case ht => kernel_rfl)
  refine' w_load ?ht 1 rfl ?_; (case ht => with_unfolding_all rfl)
  refine' v_fresh (j' := 3) ?ht rfl ?_; (case ht => kernel_rfl)
  refine' v_load 1 rfl ?ht ?_; (case ht => kernel_rfl)
  refine' w_update (o' := ⟨(.type "dict"), none, (.dict #[⟨PyData.keyHash w.params (Str.ofString "__module__"), (.str (Str.ofString "__module__") (tf 0)), (.str (Str.ofString "law_oy0001_01") 211)⟩, ⟨PyData.keyHash w.params (Str.ofString "__qualname__"), (.str (Str.ofString "__qualname__") (tf 2)), (.str (Str.ofString "cmp_to_key.<locals>.K") (tf 1))⟩] 2), #[]⟩) ?ht 1 rfl ?hu rfl ?hn ?_; (case ht => with_unfolding_all rfl); (case hu => with_unfolding_all rfl); (case hn => dsimp only [List.set_cons_succ, List.set_cons_zero])
  refine' v_fresh (j' := 4) ?ht rfl ?_; (case ht => kernel_rfl)
  refine' v_load 1 rfl ?ht ?_; (case ht => kernel_rfl)
  refine' w_fresh (j' := 5) ?ht rfl ?_; (case ht => with_unfolding_all rfl)
  refine' v_load 1 rfl ?ht ?_; (case ht => kernel_rfl)
  refine' w_update (o' := ⟨(.type "dict"), none, (.dict #[⟨PyData.keyHash w.params (Str.ofString "__module__"), (.str (Str.ofString "__module__") (tf 0)), (.str (Str.ofString "law_oy0001_01") 211)⟩, ⟨PyData.keyHash w.params (Str.ofString "__qualname__"), (.str (Str.ofString "__qualname__") (tf 2)), (.str (Str.ofString "cmp_to_key.<locals>.K") (tf 1))⟩, ⟨PyData.keyHash w.params (Str.ofString "__firstlineno__"), (.str (Str.ofString "__firstlineno__") (tf 4)), (.int 4 (tf 3))⟩] 3), #[]⟩) ?ht 1 rfl ?hu rfl ?hn ?_; (case ht => with_unfolding_all rfl); (case hu => with_unfolding_all rfl); (case hn => dsimp only [List.set_cons_succ, List.set_cons_zero])
  refine' w_call ?ht ?_; (case ht => with_unfolding_all rfl)
  refine Wq.map (fun h tk D z => x_call z (by intro h; cases h)) ?_
  refine Wq.map (fun h tk D z => codeAny_body (by with_unfolding_all rfl) (by with_unfolding_all rfl) z) ?_
  refine' v_fresh (j' := 6) ?ht rfl ?_; (case ht => kernel_rfl)
  refine' v_load 1 rfl ?ht ?_; (case ht => kernel_rfl)
  refine' w_fresh (j' := 7) ?ht rfl ?_; (case ht => with_unfolding_all rfl)
  refine' v_load 1 rfl ?ht ?_; (case ht => kernel_rfl)
  refine' v_update (o' := ⟨(.type "dict"), none, (.dict #[⟨PyData.keyHash w.params (Str.ofString "__module__"), (.str (Str.ofString "__module__") (tf 0)), (.str (Str.ofString "cpy313.functools") (tf 5))⟩, ⟨PyData.keyHash w.params (Str.ofString "__qualname__"), (.str (Str.ofString "__qualname__") (tf 2)), (.str (Str.ofString "cmp_to_key.<locals>.K") (tf 1))⟩, ⟨PyData.keyHash w.params (Str.ofString "__firstlineno__"), (.str (Str.ofString "__firstlineno__") (tf 4)), (.int 4 (tf 3))⟩] 3), #[]⟩) 1 rfl ?ht rfl ?hn ?_; (case ht => kernel_rfl); (case hn => dsimp only [List.set_cons_succ, List.set_cons_zero])
  refine' w_fresh (j' := 8) ?ht rfl ?_; (case ht => with_unfolding_all rfl)
  refine' v_alloc (o := ⟨(.type "list"), none, (.seq #[(.str (Str.ofString "obj") (tf 7))] 0), #[]⟩) (i' := 2) ?ht rfl rfl ?_; (case ht => kernel_rfl)
  refine' v_load 2 rfl ?ht ?_; (case ht => kernel_rfl)
  refine' w_fresh (j' := 9) ?ht rfl ?_; (case ht => with_unfolding_all rfl)
  refine' v_load 2 rfl ?ht ?_; (case ht => kernel_rfl)
  refine' v_update (o' := ⟨(.type "dict"), none, (.dict #[⟨PyData.keyHash w.params (Str.ofString "__module__"), (.str (Str.ofString "__module__") (tf 0)), (.str (Str.ofString "cpy313.functools") (tf 5))⟩, ⟨PyData.keyHash w.params (Str.ofString "__qualname__"), (.str (Str.ofString "__qualname__") (tf 2)), (.str (Str.ofString "cmp_to_key.<locals>.K") (tf 1))⟩, ⟨PyData.keyHash w.params (Str.ofString "__firstlineno__"), (.str (Str.ofString "__firstlineno__") (tf 4)), (.int 4 (tf 3))⟩, ⟨PyData.keyHash w.params (Str.ofString "__slots__"), (.str (Str.ofString "__slots__") (tf 8)), (.ref (af 1))⟩] 4), #[]⟩) 2 rfl ?ht rfl ?hn ?_; (case ht => kernel_rfl); (case hn => dsimp only [List.set_cons_succ, List.set_cons_zero])
  refine' w_loadO ?ht hO72 rfl ?_; (case ht => with_unfolding_all rfl)
  refine' v_loadO hO71 rfl ?ht ?_; (case ht => kernel_rfl)
  refine' v_loadO hO3 rfl ?ht ?_; (case ht => kernel_rfl)
  refine' w_loadO ?ht hO4 rfl ?_; (case ht => with_unfolding_all rfl)
  refine' v_loadO hO3 rfl ?ht ?_; (case ht => kernel_rfl)
  refine' v_alloc (o := ⟨(.type "function"), none, (.func (fnD 2 "__init__" [] (.ref a80) .none)), #[]⟩) (i' := 3) ?ht rfl rfl ?_; (case ht => kernel_rfl)
  refine' w_load ?ht 3 rfl ?_; (case ht => with_unfolding_all rfl)
  refine' v_fresh (j' := 10) ?ht rfl ?_; (case ht => kernel_rfl)
  refine' v_load 3 rfl ?ht ?_; (case ht => kernel_rfl)
  refine' w_update (o' := ⟨(.type "dict"), none, (.dict #[⟨PyData.keyHash w.params (Str.ofString "__module__"), (.str (Str.ofString "__module__") (tf 0)), (.str (Str.ofString "cpy313.functools") (tf 5))⟩, ⟨PyData.keyHash w.params (Str.ofString "__qualname__"), (.str (Str.ofString "__qualname__") (tf 2)), (.str (Str.ofString "cmp_to_key.<locals>.K") (tf 1))⟩, ⟨PyData.keyHash w.params (Str.ofString "__firstlineno__"), (.str (Str.ofString "__firstlineno__") (tf 4)), (.int 4 (tf 3))⟩, ⟨PyData.keyHash w.params (Str.ofString "__slots__"), (.str (Str.ofString "__slots__") (tf 8)), (.ref (af 1))⟩, ⟨PyData.keyHash w.params (Str.ofString "__init__"), (.str (Str.ofString "__init__") (tf 9)), (.ref (af 2))⟩] 5), #[]⟩) ?ht 3 rfl ?hu rfl ?hn ?_; (case ht => with_unfolding_all rfl); (case hu => with_unfolding_all rfl); (case hn => dsimp only [List.set_cons_succ, List.set_cons_zero])
  refine' v_alloc (o := ⟨(.type "tuple"), none, (.seq #[(.ref a130)] 0), #[]⟩) (i' := 4) ?ht rfl rfl ?_; (case ht => kernel_rfl)
  refine' v_loadO hO72 rfl ?ht ?_; (case ht => kernel_rfl)
  refine' w_loadO ?ht hO71 rfl ?_; (case ht => with_unfolding_all rfl)
  refine' v_loadO hO3 rfl ?ht ?_; (case ht => kernel_rfl)
  refine' v_loadO hO4 rfl ?ht ?_; (case ht => kernel_rfl)
  refine' w_loadO ?ht hO3 rfl ?_; (case ht => with_unfolding_all rfl)
  refine' v_alloc (o := ⟨(.type "function"), none, (.func (fnD 3 "__lt__" [((Str.ofString "mycmp"), a130)] (.ref a88) (.ref (af 3)))), #[]⟩) (i' := 5) ?ht rfl rfl ?_; (case ht => kernel_rfl)
  refine' v_load 5 rfl ?ht ?_; (case ht => kernel_rfl)
  refine' w_fresh (j' := 11) ?ht rfl ?_; (case ht => with_unfolding_all rfl)
  refine' v_load 5 rfl ?ht ?_; (case ht => kernel_rfl)
  refine' v_update (o' := ⟨(.type "dict"), none, (.dict #[⟨PyData.keyHash w.params (Str.ofString "__module__"), (.str (Str.ofString "__module__") (tf 0)), (.str (Str.ofString "cpy313.functools") (tf 5))⟩, ⟨PyData.keyHash w.params (Str.ofString "__qualname__"), (.str (Str.ofString "__qualname__") (tf 2)), (.str (Str.ofString "cmp_to_key.<locals>.K") (tf 1))⟩, ⟨PyData.keyHash w.params (Str.ofString "__firstlineno__"), (.str (Str.ofString "__firstlineno__") (tf 4)), (.int 4 (tf 3))⟩, ⟨PyData.keyHash w.params (Str.ofString "__slots__"), (.str (Str.ofString "__slots__") (tf 8)), (.ref (af 1))⟩, ⟨PyData.keyHash w.params (Str.ofString "__init__"), (.str (Str.ofString "__init__") (tf 9)), (.ref (af 2))⟩, ⟨PyData.keyHash w.params (Str.ofString "__lt__"), (.str (Str.ofString "__lt__") (tf 10)), (.ref (af 4))⟩] 6), #[]⟩) 5 rfl ?ht rfl ?hn ?_; (case ht => kernel_rfl); (case hn => dsimp only [List.set_cons_succ, List.set_cons_zero])
  refine' w_alloc (o := ⟨(.type "tuple"), none, (.seq #[(.ref a130)] 0), #[]⟩) (i' := 6) ?ht rfl rfl ?_; (case ht => with_unfolding_all rfl)
  refine' v_loadO hO72 rfl ?ht ?_; (case ht => kernel_rfl)
  refine' v_loadO hO71 rfl ?ht ?_; (case ht => kernel_rfl)
  refine' w_loadO ?ht hO3 rfl ?_; (case ht => with_unfolding_all rfl)
  refine' v_loadO hO4 rfl ?ht ?_; (case ht => kernel_rfl)
  refine' v_loadO hO3 rfl ?ht ?_; (case ht => kernel_rfl)
  refine' w_alloc (o := ⟨(.type "function"), none, (.func (fnD 4 "__gt__" [((Str.ofString "mycmp"), a130)] (.ref a96) (.ref (af 5)))), #[]⟩) (i' := 7) ?ht rfl rfl ?_; (case ht => with_unfolding_all rfl)
  refine' v_load 7 rfl ?ht ?_; (case ht => kernel_rfl)
  refine' v_fresh (j' := 12) ?ht rfl ?_; (case ht => kernel_rfl)
  refine' w_load ?ht 7 rfl ?_; (case ht => with_unfolding_all rfl)
  refine' v_update (o' := ⟨(.type "dict"), none, (.dict #[⟨PyData.keyHash w.params (Str.ofString "__module__"), (.str (Str.ofString "__module__") (tf 0)), (.str (Str.ofString "cpy313.functools") (tf 5))⟩, ⟨PyData.keyHash w.params (Str.ofString "__qualname__"), (.str (Str.ofString "__qualname__") (tf 2)), (.str (Str.ofString "cmp_to_key.<locals>.K") (tf 1))⟩, ⟨PyData.keyHash w.params (Str.ofString "__firstlineno__"), (.str (Str.ofString "__firstlineno__") (tf 4)), (.int 4 (tf 3))⟩, ⟨PyData.keyHash w.params (Str.ofString "__slots__"), (.str (Str.ofString "__slots__") (tf 8)), (.ref (af 1))⟩, ⟨PyData.keyHash w.params (Str.ofString "__init__"), (.str (Str.ofString "__init__") (tf 9)), (.ref (af 2))⟩, ⟨PyData.keyHash w.params (Str.ofString "__lt__"), (.str (Str.ofString "__lt__") (tf 10)), (.ref (af 4))⟩, ⟨PyData.keyHash w.params (Str.ofString "__gt__"), (.str (Str.ofString "__gt__") (tf 11)), (.ref (af 6))⟩] 7), #[]⟩) 7 rfl ?ht rfl ?hn ?_; (case ht => kernel_rfl); (case hn => dsimp only [List.set_cons_succ, List.set_cons_zero])
  refine' v_alloc (o := ⟨(.type "tuple"), none, (.seq #[(.ref a130)] 0), #[]⟩) (i' := 8) ?ht rfl rfl ?_; (case ht => kernel_rfl)
  refine' w_loadO ?ht hO72 rfl ?_; (case ht => with_unfolding_all rfl)
  refine' v_loadO hO71 rfl ?ht ?_; (case ht => kernel_rfl)
  refine' v_loadO hO3 rfl ?ht ?_; (case ht => kernel_rfl)
  refine' w_loadO ?ht hO4 rfl ?_; (case ht => with_unfolding_all rfl)
  refine' v_loadO hO3 rfl ?ht ?_; (case ht => kernel_rfl)
  refine' v_alloc (o := ⟨(.type "function"), none, (.func (fnD 5 "__eq__" [((Str.ofString "mycmp"), a130)] (.ref a104) (.ref (af 7)))), #[]⟩) (i' := 9) ?ht rfl rfl ?_; (case ht => kernel_rfl)
  refine' w_load ?ht 9 rfl ?_; (case ht => with_unfolding_all rfl)
  refine' v_fresh (j' := 13) ?ht rfl ?_; (case ht => kernel_rfl)
  refine' v_load 9 rfl ?ht ?_; (case ht => kernel_rfl)
  refine' w_update (o' := ⟨(.type "dict"), none, (.dict #[⟨PyData.keyHash w.params (Str.ofString "__module__"), (.str (Str.ofString "__module__") (tf 0)), (.str (Str.ofString "cpy313.functools") (tf 5))⟩, ⟨PyData.keyHash w.params (Str.ofString "__qualname__"), (.str (Str.ofString "__qualname__") (tf 2)), (.str (Str.ofString "cmp_to_key.<locals>.K") (tf 1))⟩, ⟨PyData.keyHash w.params (Str.ofString "__firstlineno__"), (.str (Str.ofString "__firstlineno__") (tf 4)), (.int 4 (tf 3))⟩, ⟨PyData.keyHash w.params (Str.ofString "__slots__"), (.str (Str.ofString "__slots__") (tf 8)), (.ref (af 1))⟩, ⟨PyData.keyHash w.params (Str.ofString "__init__"), (.str (Str.ofString "__init__") (tf 9)), (.ref (af 2))⟩, ⟨PyData.keyHash w.params (Str.ofString "__lt__"), (.str (Str.ofString "__lt__") (tf 10)), (.ref (af 4))⟩, ⟨PyData.keyHash w.params (Str.ofString "__gt__"), (.str (Str.ofString "__gt__") (tf 11)), (.ref (af 6))⟩, ⟨PyData.keyHash w.params (Str.ofString "__eq__"), (.str (Str.ofString "__eq__") (tf 12)), (.ref (af 8))⟩] 8), #[]⟩) ?ht 9 rfl ?hu rfl ?hn ?_; (case ht => with_unfolding_all rfl); (case hu => with_unfolding_all rfl); (case hn => dsimp only [List.set_cons_succ, List.set_cons_zero])
  refine' v_alloc (o := ⟨(.type "tuple"), none, (.seq #[(.ref a130)] 0), #[]⟩) (i' := 10) ?ht rfl rfl ?_; (case ht => kernel_rfl)
  refine' v_loadO hO72 rfl ?ht ?_; (case ht => kernel_rfl)
  refine' w_loadO ?ht hO71 rfl ?_; (case ht => with_unfolding_all rfl)
  refine' v_loadO hO3 rfl ?ht ?_; (case ht => kernel_rfl)
  refine' v_loadO hO4 rfl ?ht ?_; (case ht => kernel_rfl)
  refine' w_loadO ?ht hO3 rfl ?_; (case ht => with_unfolding_all rfl)
  refine' v_alloc (o := ⟨(.type "function"), none, (.func (fnD 6 "__le__" [((Str.ofString "mycmp"), a130)] (.ref a112) (.ref (af 9)))), #[]⟩) (i' := 11) ?ht rfl rfl ?_; (case ht => kernel_rfl)
  refine' v_load 11 rfl ?ht ?_; (case ht => kernel_rfl)
  refine' w_fresh (j' := 14) ?ht rfl ?_; (case ht => with_unfolding_all rfl)
  refine' v_load 11 rfl ?ht ?_; (case ht => kernel_rfl)
  refine' v_update (o' := ⟨(.type "dict"), none, (.dict #[⟨PyData.keyHash w.params (Str.ofString "__module__"), (.str (Str.ofString "__module__") (tf 0)), (.str (Str.ofString "cpy313.functools") (tf 5))⟩, ⟨PyData.keyHash w.params (Str.ofString "__qualname__"), (.str (Str.ofString "__qualname__") (tf 2)), (.str (Str.ofString "cmp_to_key.<locals>.K") (tf 1))⟩, ⟨PyData.keyHash w.params (Str.ofString "__firstlineno__"), (.str (Str.ofString "__firstlineno__") (tf 4)), (.int 4 (tf 3))⟩, ⟨PyData.keyHash w.params (Str.ofString "__slots__"), (.str (Str.ofString "__slots__") (tf 8)), (.ref (af 1))⟩, ⟨PyData.keyHash w.params (Str.ofString "__init__"), (.str (Str.ofString "__init__") (tf 9)), (.ref (af 2))⟩, ⟨PyData.keyHash w.params (Str.ofString "__lt__"), (.str (Str.ofString "__lt__") (tf 10)), (.ref (af 4))⟩, ⟨PyData.keyHash w.params (Str.ofString "__gt__"), (.str (Str.ofString "__gt__") (tf 11)), (.ref (af 6))⟩, ⟨PyData.keyHash w.params (Str.ofString "__eq__"), (.str (Str.ofString "__eq__") (tf 12)), (.ref (af 8))⟩, ⟨PyData.keyHash w.params (Str.ofString "__le__"), (.str (Str.ofString "__le__") (tf 13)), (.ref (af 10))⟩] 9), #[]⟩) 11 rfl ?ht rfl ?hn ?_; (case ht => kernel_rfl); (case hn => dsimp only [List.set_cons_succ, List.set_cons_zero])
  refine' w_alloc (o := ⟨(.type "tuple"), none, (.seq #[(.ref a130)] 0), #[]⟩) (i' := 12) ?ht rfl rfl ?_; (case ht => with_unfolding_all rfl)
  refine' v_loadO hO72 rfl ?ht ?_; (case ht => kernel_rfl)
  refine' v_loadO hO71 rfl ?ht ?_; (case ht => kernel_rfl)
  refine' w_loadO ?ht hO3 rfl ?_; (case ht => with_unfolding_all rfl)
  refine' v_loadO hO4 rfl ?ht ?_; (case ht => kernel_rfl)
  refine' v_loadO hO3 rfl ?ht ?_; (case ht => kernel_rfl)
  refine' w_alloc (o := ⟨(.type "function"), none, (.func (fnD 7 "__ge__" [((Str.ofString "mycmp"), a130)] (.ref a120) (.ref (af 11)))), #[]⟩) (i' := 13) ?ht rfl rfl ?_; (case ht => with_unfolding_all rfl)
  refine' v_load 13 rfl ?ht ?_; (case ht => kernel_rfl)
  refine' v_fresh (j' := 15) ?ht rfl ?_; (case ht => kernel_rfl)
  refine' w_load ?ht 13 rfl ?_; (case ht => with_unfolding_all rfl)
  refine' v_update (o' := ⟨(.type "dict"), none, (.dict #[⟨PyData.keyHash w.params (Str.ofString "__module__"), (.str (Str.ofString "__module__") (tf 0)), (.str (Str.ofString "cpy313.functools") (tf 5))⟩, ⟨PyData.keyHash w.params (Str.ofString "__qualname__"), (.str (Str.ofString "__qualname__") (tf 2)), (.str (Str.ofString "cmp_to_key.<locals>.K") (tf 1))⟩, ⟨PyData.keyHash w.params (Str.ofString "__firstlineno__"), (.str (Str.ofString "__firstlineno__") (tf 4)), (.int 4 (tf 3))⟩, ⟨PyData.keyHash w.params (Str.ofString "__slots__"), (.str (Str.ofString "__slots__") (tf 8)), (.ref (af 1))⟩, ⟨PyData.keyHash w.params (Str.ofString "__init__"), (.str (Str.ofString "__init__") (tf 9)), (.ref (af 2))⟩, ⟨PyData.keyHash w.params (Str.ofString "__lt__"), (.str (Str.ofString "__lt__") (tf 10)), (.ref (af 4))⟩, ⟨PyData.keyHash w.params (Str.ofString "__gt__"), (.str (Str.ofString "__gt__") (tf 11)), (.ref (af 6))⟩, ⟨PyData.keyHash w.params (Str.ofString "__eq__"), (.str (Str.ofString "__eq__") (tf 12)), (.ref (af 8))⟩, ⟨PyData.keyHash w.params (Str.ofString "__le__"), (.str (Str.ofString "__le__") (tf 13)), (.ref (af 10))⟩, ⟨PyData.keyHash w.params (Str.ofString "__ge__"), (.str (Str.ofString "__ge__") (tf 14)), (.ref (af 12))⟩] 10), #[]⟩) 13 rfl ?ht rfl ?hn ?_; (case ht => kernel_rfl); (case hn => dsimp only [List.set_cons_succ, List.set_cons_zero])
  refine' v_load 13 rfl ?ht ?_; (case ht => kernel_rfl)
  refine' w_fresh (j' := 16) ?ht rfl ?_; (case ht => with_unfolding_all rfl)
  refine' v_load 13 rfl ?ht ?_; (case ht => kernel_rfl)
  refine' w_update (o' := ⟨(.type "dict"), none, (.dict #[⟨PyData.keyHash w.params (Str.ofString "__module__"), (.str (Str.ofString "__module__") (tf 0)), (.str (Str.ofString "cpy313.functools") (tf 5))⟩, ⟨PyData.keyHash w.params (Str.ofString "__qualname__"), (.str (Str.ofString "__qualname__") (tf 2)), (.str (Str.ofString "cmp_to_key.<locals>.K") (tf 1))⟩, ⟨PyData.keyHash w.params (Str.ofString "__firstlineno__"), (.str (Str.ofString "__firstlineno__") (tf 4)), (.int 4 (tf 3))⟩, ⟨PyData.keyHash w.params (Str.ofString "__slots__"), (.str (Str.ofString "__slots__") (tf 8)), (.ref (af 1))⟩, ⟨PyData.keyHash w.params (Str.ofString "__init__"), (.str (Str.ofString "__init__") (tf 9)), (.ref (af 2))⟩, ⟨PyData.keyHash w.params (Str.ofString "__lt__"), (.str (Str.ofString "__lt__") (tf 10)), (.ref (af 4))⟩, ⟨PyData.keyHash w.params (Str.ofString "__gt__"), (.str (Str.ofString "__gt__") (tf 11)), (.ref (af 6))⟩, ⟨PyData.keyHash w.params (Str.ofString "__eq__"), (.str (Str.ofString "__eq__") (tf 12)), (.ref (af 8))⟩, ⟨PyData.keyHash w.params (Str.ofString "__le__"), (.str (Str.ofString "__le__") (tf 13)), (.ref (af 10))⟩, ⟨PyData.keyHash w.params (Str.ofString "__ge__"), (.str (Str.ofString "__ge__") (tf 14)), (.ref (af 12))⟩, ⟨PyData.keyHash w.params (Str.ofString "__hash__"), (.str (Str.ofString "__hash__") (tf 15)), .none⟩] 11), #[]⟩) ?ht 13 rfl ?hu rfl ?hn ?_; (case ht => with_unfolding_all rfl); (case hu => with_unfolding_all rfl); (case hn => dsimp only [List.set_cons_succ, List.set_cons_zero])
  refine w_pure (by with_unfolding_all rfl) ?_
  refine Wq.map (fun h tk D z => wpAny_pure z) ?_
  refine' v_fresh (j' := 17) ?ht rfl ?_; (case ht => kernel_rfl)
  refine' v_alloc (o := ⟨(.type "tuple"), none, (.seq #[(.str (Str.ofString "obj") (tf 16))] 0), #[]⟩) (i' := 14) ?ht rfl rfl ?_; (case ht => kernel_rfl)
  refine' w_load ?ht 14 rfl ?_; (case ht => with_unfolding_all rfl)
  refine' v_fresh (j' := 18) ?ht rfl ?_; (case ht => kernel_rfl)
  refine' v_load 14 rfl ?ht ?_; (case ht => kernel_rfl)
  refine' w_update (o' := ⟨(.type "dict"), none, (.dict #[⟨PyData.keyHash w.params (Str.ofString "__module__"), (.str (Str.ofString "__module__") (tf 0)), (.str (Str.ofString "cpy313.functools") (tf 5))⟩, ⟨PyData.keyHash w.params (Str.ofString "__qualname__"), (.str (Str.ofString "__qualname__") (tf 2)), (.str (Str.ofString "cmp_to_key.<locals>.K") (tf 1))⟩, ⟨PyData.keyHash w.params (Str.ofString "__firstlineno__"), (.str (Str.ofString "__firstlineno__") (tf 4)), (.int 4 (tf 3))⟩, ⟨PyData.keyHash w.params (Str.ofString "__slots__"), (.str (Str.ofString "__slots__") (tf 8)), (.ref (af 1))⟩, ⟨PyData.keyHash w.params (Str.ofString "__init__"), (.str (Str.ofString "__init__") (tf 9)), (.ref (af 2))⟩, ⟨PyData.keyHash w.params (Str.ofString "__lt__"), (.str (Str.ofString "__lt__") (tf 10)), (.ref (af 4))⟩, ⟨PyData.keyHash w.params (Str.ofString "__gt__"), (.str (Str.ofString "__gt__") (tf 11)), (.ref (af 6))⟩, ⟨PyData.keyHash w.params (Str.ofString "__eq__"), (.str (Str.ofString "__eq__") (tf 12)), (.ref (af 8))⟩, ⟨PyData.keyHash w.params (Str.ofString "__le__"), (.str (Str.ofString "__le__") (tf 13)), (.ref (af 10))⟩, ⟨PyData.keyHash w.params (Str.ofString "__ge__"), (.str (Str.ofString "__ge__") (tf 14)), (.ref (af 12))⟩, ⟨PyData.keyHash w.params (Str.ofString "__hash__"), (.str (Str.ofString "__hash__") (tf 15)), .none⟩, ⟨PyData.keyHash w.params (Str.ofString "__static_attributes__"), (.str (Str.ofString "__static_attributes__") (tf 17)), (.ref (af 13))⟩] 12), #[]⟩) ?ht 14 rfl ?hu rfl ?hn ?_; (case ht => with_unfolding_all rfl); (case hu => with_unfolding_all rfl); (case hn => dsimp only [List.set_cons_succ, List.set_cons_zero])
  refine Wq.out (fun hE tkE Ds33 => ?_)
  refine' e_call ?ht ?_; (case ht => with_unfolding_all rfl)
  refine' typeCallT (Md.old Ds33 hO2 rfl) (Md.at Ds33 16 _ _ rfl) (Md.at Ds33 14 _ _ rfl) (Md.at Ds33 12 _ _ rfl) (Md.at Ds33 11 _ _ rfl) (Md.at Ds33 9 _ _ rfl) (Md.at Ds33 7 _ _ rfl) (Md.at Ds33 5 _ _ rfl) (Md.at Ds33 3 _ _ rfl) (Md.at Ds33 1 _ _ rfl) (Md.at Ds33 0 _ _ rfl) hn (fun a149 a150 a151 u98 u99 u100 h150 tk150 DT => ?_); (try exact [])
  have Ds34 := Md.trans Ds33 DT (fun _ hb => nomatch hb) (fun _ _ hb => nomatch hb); simp only [List.cons_append, List.nil_append] at Ds34; clear Ds33 DT
  refine Wq.enter Ds34 (fun ag tg => ?_)
  refine w_pure (a := Value.ref a150) (by with_unfolding_all rfl) ?_
  refine' v_fresh (j' := 1) ?ht rfl ?_; (case ht => kernel_rfl)
  refine' v_load 21 rfl ?ht ?_; (case ht => kernel_rfl)
  refine' w_update (o' := ⟨(.type "frame"), none, (.dict #[⟨PyData.keyHash w.params (Str.ofString "K"), (.str (Str.ofString "K") (tg 0)), (.ref a150)⟩] 1), #[]⟩) ?ht 21 rfl ?hu rfl ?hn ?_; (case ht => with_unfolding_all rfl); (case hu => with_unfolding_all rfl); (case hn => dsimp only [List.set_cons_succ, List.set_cons_zero])
  refine w_pure (a := Flow.next) (by with_unfolding_all rfl) ?_
  refine' w_load ?ht 21 rfl ?_; (case ht => with_unfolding_all rfl)
  refine w_pure (a := Flow.ret (.ref a150)) (by with_unfolding_all rfl) ?_
  refine Wq.out (fun hE tkE Ds35 => ?_)
  refine wpAny_pure ?_
  exact hret a130 a131 (af 1) (af 2) (af 3) (af 4) (af 5) (af 6) (af 7) (af 8) (af 9) (af 10) (af 11) (af 12) (af 13) a149 a150 a151 u78 (tf 0) (tf 1) (tf 3) (tf 4) (tf 5) (tf 8) (tf 9) (tf 10) (tf 11) (tf 12) (tf 13) (tf 14) (tf 15) (tf 17) u98 u99 u100 _ _ (Md.sub Ds35 (.cons_cons _ (.cons_cons _ (.cons_cons _ (.cons _ (.cons_cons _ (.cons _ (.cons_cons _ (.cons _ (.cons_cons _ (.cons _ (.cons_cons _ (.cons _ (.cons_cons _ (.cons _ (.cons_cons _ (.cons _ (.cons _ (.cons _ (.cons _ (.cons _ (.cons_cons _ (.cons _ .slnil)))))))))))))))))))))))
end Mine
end

section
-- KC
open PySem PySem.W PyProof.Rows PySem.Builtin PySem.W.X
set_option maxRecDepth 100000
set_option maxHeartbeats 0
namespace Mine
abbrev nsO (w : World) (sl f0 f1 f2 f3 f4 f5 st md : Addr) (u80 u83 u84 u85 u88 u89 u90 u91 u92 u93 u94 u95 u97 u99 u100 : Tok) : Obj := ⟨(.type "dict"), none, (.dict #[⟨PyData.keyHash w.params (Str.ofString "__module__"), (.str (Str.ofString "__module__") u80), (.str (Str.ofString "cpy313.functools") u85)⟩, ⟨PyData.keyHash w.params (Str.ofString "__firstlineno__"), (.str (Str.ofString "__firstlineno__") u84), (.int 4 u83)⟩, ⟨PyData.keyHash w.params (Str.ofString "__slots__"), (.str (Str.ofString "__slots__") u88), (.ref sl)⟩, ⟨PyData.keyHash w.params (Str.ofString "__init__"), (.str (Str.ofString "__init__") u89), (.ref f0)⟩, ⟨PyData.keyHash w.params (Str.ofString "__lt__"), (.str (Str.ofString "__lt__") u90), (.ref f1)⟩, ⟨PyData.keyHash w.params (Str.ofString "__gt__"), (.str (Str.ofString "__gt__") u91), (.ref f2)⟩, ⟨PyData.keyHash w.params (Str.ofString "__eq__"), (.str (Str.ofString "__eq__") u92), (.ref f3)⟩, ⟨PyData.keyHash w.params (Str.ofString "__le__"), (.str (Str.ofString "__le__") u93), (.ref f4)⟩, ⟨PyData.keyHash w.params (Str.ofString "__ge__"), (.str (Str.ofString "__ge__") u94), (.ref f5)⟩, ⟨PyData.keyHash w.params (Str.ofString "__hash__"), (.str (Str.ofString "__hash__") u95), .none⟩, ⟨PyData.keyHash w.params (Str.ofString "__static_attributes__"), (.str (Str.ofString "__static_attributes__") u97), (.ref st)⟩, ⟨PyData.keyHash w.params (Str.ofString "obj"), (.str (Str.ofString "obj") u99), (.ref md)⟩, ⟨PyData.keyHash w.params (Str.ofString "__doc__"), (.str (Str.ofString "__doc__") u100), .none⟩] 3), #[]⟩
abbrev mdO (C : Addr) (u : Tok) : Obj := ⟨(.type "member_descriptor"), none, (.fields #[(.str (Str.ofString "obj") u), (.ref C), (.builtin "proto.slot"), (.builtin "proto.slot#set"), (.int 0 0)]), #[]⟩
abbrev cellO (v : Value) : Obj := ⟨.type "cell", none, .cell (some v), #[]⟩
abbrev fnO (i : Nat) (name : String) (clos : List (Str × Addr)) (code : Addr) (ct : Value) : Obj := ⟨(.type "function"), none, (.func (fnD i name clos (.ref code) ct)), #[]⟩
abbrev codeO (name : String) (line : Int) (b0 b1 b2 b3 b4 : Addr) (t0 t1 t2 t3 t4 : Tok) : Obj := ⟨(.type "code"), none, (.fields #[(.str (Str.ofString name) t0), (.str (Str.ofString "cmp_to_key.<locals>.K." ++ Str.ofString name) t1), (.str (Str.ofString "/claim/cut.py") t2), (.int line 0), (.int 2 0), (.int 0 0), (.int 0 0), (.int 19 0), (.ref b0), (.bool true), (.int 181 0), (.ref b1), .none, (.ref b2), (.ref b3), (.ref b4), (.int ((t3 : Nat) : Int) 0), (.int line 0), (.str (Str.ofString "/claim/cut.py") t4)]), #[]⟩
abbrev kcO (b0 kt : Addr) (t0 t1 t2 t3 t4 : Tok) : Obj := ⟨(.type "code"), none, (.fields #[(.str (Str.ofString "K") t0), (.str (Str.ofString "cmp_to_key.<locals>.K") t1), (.str (Str.ofString "/claim/cut.py") t2), (.int 4 0), (.int 0 0), (.int 0 0), (.int 0 0), (.int 0 0), (.ref b0), (.bool true), (.int 181 0), (.ref kt), .none, .none, .none, .none, (.int ((t3 : Nat) : Int) 0), (.int 4 0), (.str (Str.ofString "/claim/cut.py") t4)]), #[]⟩
abbrev ktO (c0 c1 c2 c3 c4 c5 : Addr) : Obj := ⟨.none, none, (.fields #[(.int 8 0), (.int 8 0), (.ref c0), (.int 11 0), (.int 8 0), (.ref c1), (.int 14 0), (.int 8 0), (.ref c2), (.int 17 0), (.int 8 0), (.ref c3), (.int 20 0), (.int 8 0), (.ref c4), (.int 23 0), (.int 8 0), (.ref c5)]), #[]⟩
abbrev tabO (vs : Array Value) : Obj := ⟨.none, none, .fields vs, #[]⟩
/-- the codes of the class and of its methods, made once -/
structure Codes where
  kc : Addr
  kt : Addr
  c0 : Addr
  c1 : Addr
  c2 : Addr
  c3 : Addr
  c4 : Addr
  c5 : Addr
def IsCodeO (h : Heap) (c : Addr) (name : String) (line : Int) : Prop := ∃ (b : Nat → Addr) (t : Nat → Tok), h.get? c = some (codeO name line (b 0) (b 1) (b 2) (b 3) (b 4) (t 0) (t 1) (t 2) (t 3) (t 4))
theorem IsCodeO.mk' {h : Heap} {c : Addr} {name : String} {line : Int} {b0 b1 b2 b3 b4 : Addr} {t0 t1 t2 t3 t4 : Tok} (q : h.get? c = some (codeO name line b0 b1 b2 b3 b4 t0 t1 t2 t3 t4)) : IsCodeO h c name line :=
  ⟨fun i => [b0, b1, b2, b3, b4].getD i 0, fun i => [t0, t1, t2, t3, t4].getD i 0, q⟩
structure KCodes (h : Heap) (k : Codes) : Prop where
  tab : h.get? 16 = some (tabO #[(.int 4 0), (.int 4 0), (.ref k.kc)])
  kc : ∃ b0 t0 t1 t2 t3 t4, h.get? k.kc = some (kcO b0 k.kt t0 t1 t2 t3 t4)
  kt : h.get? k.kt = some (ktO k.c0 k.c1 k.c2 k.c3 k.c4 k.c5)
  m0 : IsCodeO h k.c0 "__init__" 8
  m1 : IsCodeO h k.c1 "__lt__" 11
  m2 : IsCodeO h k.c2 "__gt__" 14
  m3 : IsCodeO h k.c3 "__eq__" 17
  m4 : IsCodeO h k.c4 "__le__" 20
  m5 : IsCodeO h k.c5 "__ge__" 23
/-- a class of cmp_to_key's at C, over the function v -/
def KCls (w : World) (h : Heap) (k : Codes) (C : Addr) (v : Value) : Prop := ∃ (ad : Nat → Addr) (ut : Nat → Tok),
  h.get? C = some (clsO C (ad 0) (ad 1) (ut 0) (ut 1)) ∧
  h.get? (ad 0) = some (nsO w (ad 2) (ad 5) (ad 6) (ad 7) (ad 8) (ad 9) (ad 10) (ad 3) (ad 4) (ut 3) (ut 4) (ut 5) (ut 6) (ut 7) (ut 8) (ut 9) (ut 10) (ut 11) (ut 12) (ut 13) (ut 14) (ut 15) (ut 16) (ut 17)) ∧
  h.get? (ad 4) = some (mdO C (ut 2)) ∧
  h.get? (ad 16) = some (cellO v) ∧
  h.get? (ad 5) = some (fnO 2 "__init__" [] k.c0 .none) ∧
  h.get? (ad 6) = some (fnO 3 "__lt__" [(Str.ofString "mycmp", (ad 16))] k.c1 (.ref (ad 11))) ∧
  h.get? (ad 7) = some (fnO 4 "__gt__" [(Str.ofString "mycmp", (ad 16))] k.c2 (.ref (ad 12))) ∧
  h.get? (ad 8) = some (fnO 5 "__eq__" [(Str.ofString "mycmp", (ad 16))] k.c3 (.ref (ad 13))) ∧
  h.get? (ad 9) = some (fnO 6 "__le__" [(Str.ofString "mycmp", (ad 16))] k.c4 (.ref (ad 14))) ∧
  h.get? (ad 10) = some (fnO 7 "__ge__" [(Str.ofString "mycmp", (ad 16))] k.c5 (.ref (ad 15)))
theorem KCls.mk' {w : World} {h : Heap} {k : Codes} {C : Addr} {v : Value} {NS bT sl st md f0 f1 f2 f3 f4 f5 g1 g2 g3 g4 g5 cell : Addr} {tn tq um u80 u83 u84 u85 u88 u89 u90 u91 u92 u93 u94 u95 u97 u99 u100 : Tok}
   (q0 : h.get? C = some (clsO C NS bT tn tq)) (q1 : h.get? NS = some (nsO w sl f0 f1 f2 f3 f4 f5 st md u80 u83 u84 u85 u88 u89 u90 u91 u92 u93 u94 u95 u97 u99 u100)) (q2 : h.get? md = some (mdO C um)) (q3 : h.get? cell = some (cellO v)) (q4 : h.get? f0 = some (fnO 2 "__init__" [] k.c0 .none)) (q5 : h.get? f1 = some (fnO 3 "__lt__" [(Str.ofString "mycmp", cell)] k.c1 (.ref g1))) (q6 : h.get? f2 = some (fnO 4 "__gt__" [(Str.ofString "mycmp", cell)] k.c2 (.ref g2))) (q7 : h.get? f3 = some (fnO 5 "__eq__" [(Str.ofString "mycmp", cell)] k.c3 (.ref g3))) (q8 : h.get? f4 = some (fnO 6 "__le__" [(Str.ofString "mycmp", cell)] k.c4 (.ref g4))) (q9 : h.get? f5 = some (fnO 7 "__ge__" [(Str.ofString "mycmp", cell)] k.c5 (.ref g5))) : KCls w h k C v :=
  ⟨fun i => [NS, bT, sl, st, md, f0, f1, f2, f3, f4, f5, g1, g2, g3, g4, g5, cell].getD i 0, fun i => [tn, tq, um, u80, u83, u84, u85, u88, u89, u90, u91, u92, u93, u94, u95, u97, u99, u100].getD i 0, q0, q1, q2, q3, q4, q5, q6, q7, q8, q9⟩
end Mine
end

section
-- KN
open PySem PySem.W PyProof.Rows PySem.Builtin PySem.W.X
set_option maxRecDepth 100000
set_option maxHeartbeats 0
namespace Mine
abbrev insO (C dd : Addr) (x : Value) : Obj := ⟨.ref C, some dd, .plain, #[some x]⟩
theorem s_new {w : World} {A : Around} {Q : Result → Shared → Prop} {E : Value → Shared → Prop} {h : Heap} {d : Drawn} {tk : Nat} {os : OsState} {l : List Value} {k : Codes} {C : Addr} {v x : Value} (hc : KCls w h k C v) (hk : KCodes h k) (hO2 : h.get? 2 = some statO) (hdp : A.depth + 10 < recursionLimit)
   (hret : ∀ r dd h' tk', Md [] h h' [(r, insO C dd x)] → Q (.ok (.ret (.ref r))) ⟨h', #[], d, tk', os⟩) :
   wpAny (model PRG w) A (Sem.call (.call (.ref C) ⟨[x], []⟩) none false l Sem.pure) Q E ⟨h, #[], d, tk, os⟩ := by
  obtain ⟨kc, kt, c0, c1, c2, c3, c4, c5⟩ := k
  obtain ⟨ad, ut, hC, hNS, hmd, hcell, hf0, hf1, -⟩ := hc
  obtain ⟨cb, ct, hc0⟩ := hk.m0
  refine Wq.enter (Md.start0 (ex := []) (h := h)) (fun af tf => ?_)
  refine Wq.map (fun h tk D z => x_call (x_code z) (by intro h; cases h)) ?_
  refine' v_loadO hC rfl ?ht ?_; (case ht => kernel_rfl)
  refine' w_loadO ?ht hC rfl ?_; (case ht => with_unfolding_all rfl)
  refine w_pure (a := .again (.call (.builtin "type.__call__") ⟨[.ref C, x], []⟩)) (by with_unfolding_all rfl) ?_
  refine Wq.map (fun h tk D z => ⟨by kernel_rfl, codeAny_call_builtin_at (b := PySem.Builtin.«type.__call__») (by kernel_rfl) (entryFor_of_tree (by kernel_rfl)) z⟩) ?_
  refine' w_loadO ?ht hC rfl ?_; (case ht => with_unfolding_all rfl)
  refine w_pure (a := ()) (by with_unfolding_all rfl) ?_
  refine' v_loadO hC rfl ?ht ?_; (case ht => kernel_rfl)
  refine' v_loadO hC rfl ?ht ?_; (case ht => kernel_rfl)
  refine' w_loadO ?ht hC rfl ?_; (case ht => with_unfolding_all rfl)
  refine' w_call ?ht ?_; (case ht => with_unfolding_all rfl)
  refine Wq.map (fun h tk D z => x_call (codeAny_call_builtin_at (b := PySem.Builtin.«object.__new__») (by kernel_rfl) (entryFor_of_tree (by kernel_rfl)) z) (by intro h; cases h)) ?_
  refine' v_loadO hC rfl ?ht ?_; (case ht => kernel_rfl)
  refine' v_loadO hC rfl ?ht ?_; (case ht => kernel_rfl)
  refine' w_loadO ?ht hC rfl ?_; (case ht => with_unfolding_all rfl)
  refine' v_loadO hC rfl ?ht ?_; (case ht => kernel_rfl)
  refine' v_loadO hC rfl ?ht ?_; (case ht => kernel_rfl)
  refine' w_loadO ?ht hC rfl ?_; (case ht => with_unfolding_all rfl)
  refine' w_loadO ?ht hC rfl ?_; (case ht => with_unfolding_all rfl)
  refine w_pure (a := ()) (by with_unfolding_all rfl) ?_
  refine' v_loadO hC rfl ?ht ?_; (case ht => kernel_rfl)
  refine' v_loadO hC rfl ?ht ?_; (case ht => kernel_rfl)
  refine' w_loadO ?ht hC rfl ?_; (case ht => with_unfolding_all rfl)
  refine' v_loadO hC rfl ?ht ?_; (case ht => kernel_rfl)
  refine' v_loadO hC rfl ?ht ?_; (case ht => kernel_rfl)
  refine' w_loadO ?ht hC rfl ?_; (case ht => with_unfolding_all rfl)
  refine' v_loadO hC rfl ?ht ?_; (case ht => kernel_rfl)
  refine' v_loadO hC rfl ?ht ?_; (case ht => kernel_rfl)
  refine' w_loadO ?ht hC rfl ?_; (case ht => with_unfolding_all rfl)
  refine' v_loadO hC rfl ?ht ?_; (case ht => kernel_rfl)
  refine' v_loadO hNS rfl ?ht ?_; (case ht => kernel_rfl)
  refine' w_loadO ?ht hC rfl ?_; (case ht => with_unfolding_all rfl)
  refine' v_alloc (o := ⟨.type "dict", none, .dict #[] 0, #[]⟩) (i' := 1) ?ht rfl rfl ?_; (case ht => kernel_rfl)
  refine' v_alloc (o := ⟨.ref C, some (af 0), .plain, #[]⟩) (i' := 2) ?ht rfl rfl ?_; (case ht => kernel_rfl)
  refine' w_loadO ?ht hC rfl ?_; (case ht => with_unfolding_all rfl)
  refine w_pure (a := .done (.ret (.ref (af 1)))) (by with_unfolding_all rfl) ?_
  refine Wq.map (fun h tk D z => wpAny_pure z) ?_
  refine' v_load 0 rfl ?ht ?_; (case ht => kernel_rfl)
  refine' w_loadO ?ht hC rfl ?_; (case ht => with_unfolding_all rfl)
  refine w_step (a := true) (Eq.trans (b := Sem.pure (List.contains [Value.ref C, Value.type "object"] (Value.ref C))) (by with_unfolding_all rfl) (congrArg Sem.pure (by simp))) ?_
  refine' v_load 0 rfl ?ht ?_; (case ht => kernel_rfl)
  refine' v_loadO hC rfl ?ht ?_; (case ht => kernel_rfl)
  refine' w_loadO ?ht hC rfl ?_; (case ht => with_unfolding_all rfl)
  refine' v_loadO hNS rfl ?ht ?_; (case ht => kernel_rfl)
  refine' w_loadO ?ht hf0 rfl ?_; (case ht => with_unfolding_all rfl)
  refine' w_call ?ht ?_; (case ht => with_unfolding_all rfl)
  refine Wq.map (fun h tk D z => x_call (codeAny_call_function (Nat.lt_of_le_of_lt (m := A.depth + 1) (by first | exact Nat.le_refl _ | exact Nat.le_succ _) (by omega)) (Md.old D hf0 rfl) (by with_unfolding_all rfl) (by with_unfolding_all rfl) (by with_unfolding_all rfl) (by with_unfolding_all rfl) ⟨c0, _, _, _, by with_unfolding_all rfl, Md.old D hc0 rfl, by with_unfolding_all rfl, by with_unfolding_all rfl⟩ z) (by intro h; cases h)) ?_
  refine w_pure (by with_unfolding_all rfl) ?_
  refine' v_alloc (o := ⟨.type "frame", none, .dict #[] 0, #[]⟩) (i' := 3) ?ht rfl rfl ?_; (case ht => kernel_rfl)
  refine' v_fresh (j' := 1) ?ht rfl ?_; (case ht => kernel_rfl)
  refine' w_load ?ht 0 rfl ?_; (case ht => with_unfolding_all rfl)
  refine' v_update (o' := ⟨.type "frame", none, .dict #[⟨PyData.keyHash w.params (Str.ofString "self"), (.str (Str.ofString "self") (tf 0)), (.ref (af 1))⟩] 1, #[]⟩) 0 rfl ?ht rfl ?hn ?_; (case ht => kernel_rfl); (case hn => dsimp only [List.set_cons_succ, List.set_cons_zero])
  refine' v_fresh (j' := 2) ?ht rfl ?_; (case ht => kernel_rfl)
  refine' w_load ?ht 0 rfl ?_; (case ht => with_unfolding_all rfl)
  refine' w_update (o' := ⟨.type "frame", none, .dict #[⟨PyData.keyHash w.params (Str.ofString "self"), (.str (Str.ofString "self") (tf 0)), (.ref (af 1))⟩, ⟨PyData.keyHash w.params (Str.ofString "obj"), (.str (Str.ofString "obj") (tf 1)), x⟩] 2, #[]⟩) ?ht 0 rfl ?hu rfl ?hn ?_; (case ht => with_unfolding_all rfl); (case hu => with_unfolding_all rfl); (case hn => dsimp only [List.set_cons_succ, List.set_cons_zero])
  refine w_pure (by with_unfolding_all rfl) ?_
  refine Wq.map (fun h tk D z => ⟨noLimit_of (Md.old D hO2 rfl), codeAny_func z⟩) ?_
  refine Wq.map (fun h tk D z => wpAny_execs_cons (plainObj_wpAny_Assign_Attribute z)) ?_
  refine' w_load ?ht 0 rfl ?_; (case ht => with_unfolding_all rfl)
  refine w_pure (a := x) (by with_unfolding_all rfl) ?_
  refine' w_load ?ht 0 rfl ?_; (case ht => with_unfolding_all rfl)
  refine w_pure (a := .ref (af 1)) (by with_unfolding_all rfl) ?_
  refine' v_fresh (j' := 3) ?ht rfl ?_; (case ht => kernel_rfl)
  refine' v_load 1 rfl ?ht ?_; (case ht => kernel_rfl)
  refine' w_loadO ?ht hC rfl ?_; (case ht => with_unfolding_all rfl)
  refine' v_loadO hC rfl ?ht ?_; (case ht => kernel_rfl)
  refine' w_loadO ?ht hNS rfl ?_; (case ht => with_unfolding_all rfl)
  refine' w_call ?ht ?_; (case ht => with_unfolding_all rfl)
  refine Wq.map (fun h tk D z => x_call (codeAny_call_builtin_at (b := PySem.Builtin.«object.__setattr__») (by kernel_rfl) (entryFor_of_tree (by kernel_rfl)) z) (by intro h; cases h)) ?_
  refine' v_load 1 rfl ?ht ?_; (case ht => kernel_rfl)
  refine' w_loadO ?ht hC rfl ?_; (case ht => with_unfolding_all rfl)
  refine w_pure (a := ()) (by with_unfolding_all rfl) ?_
  refine' v_load 1 rfl ?ht ?_; (case ht => kernel_rfl)
  refine' v_loadO hC rfl ?ht ?_; (case ht => kernel_rfl)
  refine' w_load ?ht 1 rfl ?_; (case ht => with_unfolding_all rfl)
  refine' v_loadO hC rfl ?ht ?_; (case ht => kernel_rfl)
  refine' v_loadO hC rfl ?ht ?_; (case ht => kernel_rfl)
  refine' w_loadO ?ht hNS rfl ?_; (case ht => with_unfolding_all rfl)
  refine' v_loadO hmd rfl ?ht ?_; (case ht => kernel_rfl)
  refine' w_loadO ?ht hmd rfl ?_; (case ht => with_unfolding_all rfl)
  refine' w_call ?ht ?_; (case ht => with_unfolding_all rfl)
  refine Wq.map (fun h tk D z => x_call (codeAny_call_builtin_at (b := PySem.Builtin.«member_descriptor.__set__») (by kernel_rfl) (entryFor_of_tree (by kernel_rfl)) z) (by intro h; cases h)) ?_
  refine' w_loadO ?ht hmd rfl ?_; (case ht => with_unfolding_all rfl)
  refine w_pure (a := ()) (by with_unfolding_all rfl) ?_
  refine' v_loadO hmd rfl ?ht ?_; (case ht => kernel_rfl)
  refine' v_loadO hmd rfl ?ht ?_; (case ht => kernel_rfl)
  refine' w_load ?ht 1 rfl ?_; (case ht => with_unfolding_all rfl)
  refine' w_loadO ?ht hC rfl ?_; (case ht => with_unfolding_all rfl)
  refine Wq.map (fun h tk D z => wpAny_bind z) ?_
  refine w_step (a := true) (Eq.trans (b := Sem.pure (List.contains [Value.ref C, Value.type "object"] (Value.ref C))) (by with_unfolding_all rfl) (congrArg Sem.pure (by simp))) ?_
  refine w_pure (by with_unfolding_all rfl) ?_
  refine' v_loadO hmd rfl ?ht ?_; (case ht => kernel_rfl)
  refine' w_loadO ?ht hmd rfl ?_; (case ht => with_unfolding_all rfl)
  refine w_pure (a := .again (.builtin "proto.slot#set" ⟨[.ref (af 1), x, .ref (ad 4)], []⟩)) (by with_unfolding_all rfl) ?_
  refine Wq.map (fun h tk D z => ⟨by kernel_rfl, codeAny_builtin (b := PySem.Builtin.«proto.slot#set») (entryFor_of_tree (by kernel_rfl)) z⟩) ?_
  refine' v_loadO hmd rfl ?ht ?_; (case ht => kernel_rfl)
  refine' v_loadO hmd rfl ?ht ?_; (case ht => kernel_rfl)
  refine' w_load ?ht 1 rfl ?_; (case ht => with_unfolding_all rfl)
  refine' v_loadO hC rfl ?ht ?_; (case ht => kernel_rfl)
  refine' w_update (o' := insO C (af 0) x) ?ht 1 rfl ?hu rfl ?hn ?_; (case ht => with_unfolding_all rfl); (case hu => with_unfolding_all rfl); (case hn => dsimp only [List.set_cons_succ, List.set_cons_zero])
  refine w_pure (by with_unfolding_all rfl) ?_
  refine w_pure (by with_unfolding_all rfl) ?_
  refine w_pure (by with_unfolding_all rfl) ?_
  refine w_pure (by with_unfolding_all rfl) ?_
  refine w_pure (by with_unfolding_all rfl) ?_
  refine w_pure (by with_unfolding_all rfl) ?_
  refine w_pure (by with_unfolding_all rfl) ?_
  refine w_pure (by with_unfolding_all rfl) ?_
  refine w_pure (by with_unfolding_all rfl) ?_
  exact Wq.out (fun hE tkE D => hret _ _ _ _ (Md.sub D (.cons _ (.cons_cons _ (.cons _ .slnil)))))
end Mine
end

section
-- KG
open PySem PySem.W PyProof.Rows PySem.Builtin PySem.W.X
set_option maxRecDepth 100000
set_option maxHeartbeats 0
namespace Mine
theorem s_getobj {w : World} {A : Around} {Q : Result → Shared → Prop} {E : Value → Shared → Prop} {h : Heap} {d : Drawn} {tk : Nat} {os : OsState} {l : List Value} {k : Codes} {C i dd : Addr} {v x : Value} {u : Tok} (hc : KCls w h k C v) (hi : h.get? i = some (insO C dd x))
   (hret : ∀ tk', Q (.ok (.ret x)) ⟨h, #[], d, tk', os⟩) :
   wpAny (model PRG w) A (Sem.call (.builtin "proto.getattr_hooked" ⟨[.ref i, .str (Str.ofString "obj") u], []⟩) none false l Sem.pure) Q E ⟨h, #[], d, tk, os⟩ := by
  obtain ⟨ad, ut, hC, hNS, hmd, -⟩ := hc
  refine x_call (codeAny_builtin (b := PySem.Builtin.«proto.getattr_hooked») (entryFor_of_tree (by kernel_rfl)) ?_) (by intro h; cases h)
  refine' f_load ?ht hi ?_; (case ht => kernel_rfl)
  refine' f_load ?ht hC ?_; (case ht => kernel_rfl)
  refine' f_load ?ht hC ?_; (case ht => kernel_rfl)
  refine' e_load ?ht hNS ?_; (case ht => with_unfolding_all rfl)
  refine' f_load ?ht hmd ?_; (case ht => kernel_rfl)
  refine' f_load ?ht hmd ?_; (case ht => kernel_rfl)
  refine' f_load ?ht hC ?_; (case ht => kernel_rfl)
  refine' e_load ?ht hC ?_; (case ht => with_unfolding_all rfl)
  refine' e_load ?ht hNS ?_; (case ht => with_unfolding_all rfl)
  refine' e_call ?ht ?_; (case ht => with_unfolding_all rfl)
  refine x_call (codeAny_call_builtin_at (b := PySem.Builtin.«member_descriptor.__get__») (by kernel_rfl) (entryFor_of_tree (by kernel_rfl)) ?_) (by intro h; cases h)
  refine' e_load ?ht hmd ?_; (case ht => with_unfolding_all rfl)
  refine e_pure (a := ()) (by with_unfolding_all rfl) ?_
  refine' f_load ?ht hmd ?_; (case ht => kernel_rfl)
  refine' f_load ?ht hmd ?_; (case ht => kernel_rfl)
  refine' f_load ?ht hi ?_; (case ht => kernel_rfl)
  refine' e_load ?ht hC ?_; (case ht => with_unfolding_all rfl)
  refine wpAny_bind ?_
  refine e_step (a := true) (Eq.trans (b := Sem.pure (List.contains [Value.ref C, Value.type "object"] (Value.ref C))) (by with_unfolding_all rfl) (congrArg Sem.pure (by simp))) ?_
  refine e_pure (by with_unfolding_all rfl) ?_
  refine' f_load ?ht hmd ?_; (case ht => kernel_rfl)
  refine' e_load ?ht hmd ?_; (case ht => with_unfolding_all rfl)
  refine e_pure (a := .again (.builtin "proto.slot" ⟨[.ref i, .ref (ad 4)], []⟩)) (by with_unfolding_all rfl) ?_
  refine ⟨by kernel_rfl, codeAny_builtin (b := PySem.Builtin.«proto.slot») (entryFor_of_tree (by kernel_rfl)) ?_⟩
  refine' f_load ?ht hmd ?_; (case ht => kernel_rfl)
  refine' f_load ?ht hmd ?_; (case ht => kernel_rfl)
  refine' f_load ?ht hi ?_; (case ht => kernel_rfl)
  refine' e_load ?ht hC ?_; (case ht => with_unfolding_all rfl)
  refine' e_load ?ht hi ?_; (case ht => with_unfolding_all rfl)
  refine e_pure (by with_unfolding_all rfl) ?_
  refine e_pure (by with_unfolding_all rfl) ?_
  refine e_pure (by with_unfolding_all rfl) ?_
  refine e_pure (by with_unfolding_all rfl) ?_
  exact hret _
end Mine
end

section
-- B1
open PySem PySem.W PyProof.Rows PySem.Spec PySem.Calls
set_option maxRecDepth 100000
set_option maxHeartbeats 8000000
namespace Mine
theorem KCls.keeps {w : World} {h h' : Heap} {k : Codes} {C : Addr} {v : Value} (hc : KCls w h k C v) (hk : Kept h h') : KCls w h' k C v := by
  obtain ⟨ad, ut, hC, hNS, hmd, hcell, hf0, hf1, hf2, hf3, hf4, hf5⟩ := hc
  exact ⟨ad, ut, hk _ _ hC, hk _ _ hNS, hk _ _ hmd, hk _ _ hcell, hk _ _ hf0, hk _ _ hf1, hk _ _ hf2, hk _ _ hf3, hk _ _ hf4, hk _ _ hf5⟩
/-- the context of the given program, without generators -/
structure Cy (c : Cx) : Prop where
  prog : c.prog = PRG
  gens : c.g = #[]
theorem K_get {c : Cx} (hy : Cy c) {h : Heap} {k : Codes} {C i dd : Addr} {v x : Value} (hc : KCls c.w h k C v) (hi : h.get? i = some (insO C dd x)) (hx : handedOut x = pure x) : Pu c (getAttr (.ref i) (Str.ofString "obj") true) h (isV x) := by
  obtain ⟨prog, w, A, g, d, os, X⟩ := c
  obtain ⟨rfl, rfl⟩ := hy
  refine Pu.mk fun h1 tk Q E l hq => ?_
  have hc1 := hc.keeps l.top
  have hi1 := l.top _ _ hi
  obtain ⟨ad, ut, hC, hNS, -⟩ := id hc1
  show wpAny (model PRG w) A _ Q E ⟨h1, #[], d, tk, os⟩
  refine' e_fresh ?ht (fun v1 tk' => ?_); (case ht => with_unfolding_all rfl)
  refine' e_load ?ht hi1 ?_; (case ht => with_unfolding_all rfl)
  refine' e_load ?ht hC ?_; (case ht => with_unfolding_all rfl)
  refine' e_load ?ht hC ?_; (case ht => with_unfolding_all rfl)
  refine' e_load ?ht hNS ?_; (case ht => with_unfolding_all rfl)
  refine' e_call ?ht ?_; (case ht => with_unfolding_all rfl)
  refine' s_getobj hc1 hi1 (fun tk4 => ?_); (try exact [])
  refine Calls.wpAny_keep ?_
  show wpAny _ A (handedOut x) Q E _
  rw [hx]
  refine wpAny_pure ?_
  exact hq x h1 tk4 (Kept.refl _) rfl
end Mine
end

section
-- B2
open PySem PySem.W PyProof.Rows PySem.Spec PySem.Calls
set_option maxRecDepth 100000
set_option maxHeartbeats 8000000
namespace Mine
theorem Cy.at {c : Cx} (hy : Cy c) (A : Around) (X : List Addr) : Cy { c with A := A, X := X } := ⟨hy.prog, hy.gens⟩
theorem K_lt {c : Cx} (hy : Cy c) (hR : Room c.A 4) {h : Heap} {k : Codes} {C i j di dj f f1 cell g1 : Addr} {x y : Value} {fo : Obj} {fd : FuncData} {z : Int} (hc : KCls c.w h k C (.ref f)) (hk : IsCodeO h k.c1 "__lt__" 11) (hlim : h.NoLimit)
    (hf1 : h.get? f1 = some (fnO 3 "__lt__" [(Str.ofString "mycmp", cell)] k.c1 (.ref g1))) (hcell : h.get? cell = some (cellO (.ref f)))
    (hi : h.get? i = some (insO C di x)) (hj : h.get? j = some (insO C dj y)) (hx : handedOut x = pure x) (hx' : handedOut y = pure y)
    (hf : h.get? f = some fo) (hfd : fo.data = .func fd) (hcmp : ∀ A g, Room A 3 → Kept h g → Pu { c with A := A } (call (.ref f) [x, y]) g (isI z)) : Pu c (call (.ref f1) [.ref i, .ref j]) h (isB (decide (z < 0))) := by
  have hcell' : h.IsCell cell (some (.ref f)) := ⟨_, hcell, rfl⟩
  obtain ⟨cb, ct, hcode⟩ := hk
  refine Pu.enterR (binds := [(Str.ofString "self", .ref i), (Str.ofString "other", .ref j)]) hf1 (by with_unfolding_all rfl) ⟨k.c1, _, _, _, by with_unfolding_all rfl, hcode, by with_unfolding_all rfl, by with_unfolding_all rfl⟩ hlim (hR.le (by decide)) (fun s _ => BindsTo.of_eq (by with_unfolding_all rfl)) ?_ ?_ (fun g L kg hns => ?_) (by with_unfolding_all rfl) (by with_unfolding_all rfl) (by with_unfolding_all rfl)
  · intro q hq
    rcases List.mem_cons.mp hq with rfl | hq
    · with_unfolding_all rfl
    · obtain rfl := List.mem_singleton.mp hq
      with_unfolding_all rfl
  · with_unfolding_all decide
  · skip
    refine Ev.lt (y := 0) (Ev.callF (Ps := [isV x, isV y]) (Ev.free (P := isV (.ref f)) ((hcell' : h.IsCell cell (some (.ref f))).keeps kg) (fun _ _ => rfl) (by with_unfolding_all rfl) (by with_unfolding_all rfl) (by with_unfolding_all rfl)) (kg _ _ hf) hfd ?_ ?_ ) .cint (by with_unfolding_all rfl)
    · refine EA.cons (P := isV x) (Ev.attrN (P1 := isV (.ref i)) (Ev.loc hns (by with_unfolding_all rfl) (fun _ _ => rfl) (by with_unfolding_all rfl) (by with_unfolding_all rfl)) fun v h' k' e => ?_) (EA.cons (P := isV y) (Ev.attrN (P1 := isV (.ref j)) (Ev.loc hns (by with_unfolding_all rfl) (fun _ _ => rfl) (by with_unfolding_all rfl) (by with_unfolding_all rfl)) fun v h' k' e => ?_) EA.nil)
      · cases e
        exact K_get (hy.at _ _) (hc.keeps (kg.trans k')) ((kg.trans k') _ _ hi) hx
      · cases e
        exact K_get (hy.at _ _) (hc.keeps (kg.trans k')) ((kg.trans k') _ _ hj) hx'
    · intro vs h' k' a
      obtain ⟨u, v, rfl, rfl, rfl⟩ := a.two
      exact hcmp _ _ (hR.deeper _) (kg.trans k')
end Mine
end

section
-- B3
open PySem PySem.W PyProof.Rows PySem.Spec PySem.Calls
set_option maxRecDepth 100000
set_option maxHeartbeats 8000000
namespace Mine
theorem K_cmp {c : Cx} (hy : Cy c) (hR : Room c.A 5) {h : Heap} {k : Codes} {C i j di dj f : Addr} {x y : Value} {fo : Obj} {fd : FuncData} {z : Int} (hc : KCls c.w h k C (.ref f)) (hk : KCodes h k) (hlim : h.NoLimit)
    (hi : h.get? i = some (insO C di x)) (hj : h.get? j = some (insO C dj y)) (hx : handedOut x = pure x) (hx' : handedOut y = pure y)
    (hf : h.get? f = some fo) (hfd : fo.data = .func fd) (hcmp : ∀ A g, Room A 3 → Kept h g → Pu { c with A := A } (call (.ref f) [x, y]) g (isI z)) : Pu c (keyLt' oneType' (.ref i) (.ref j)) h (fun b _ => b = decide (z < 0)) := by
  obtain ⟨ad, ut, hC, hNS, hmd, hcell, hf0, hf1, -⟩ := id hc
  have lt := K_lt hy (hR.le (by decide)) hc hk.m1 hlim hf1 hcell hi hj hx hx' hf hfd hcmp
  refine Pu.mk fun h1 tk Q E l hq => ?_
  rw [keyLt'_oneType, oneLt'_eq, if_pos rfl]
  refine wpAny_bind (wpAny_cRoomFor (by have := hR.units; omega) ?_)
  have X : h1.OwnSpecial i C (ad 6) "object" (Str.ofString "__lt__") := by
    refine ⟨_, _, _, _, (ad 0), _, [.type "object"], _, _, _, _, _, _, _, _, _, _, _, _, _, some (.builtin "object.__lt__"), l.top _ _ hi, rfl, l.top _ _ hC, ⟨_, _, _, l.top _ _ hNS, rfl, ?_, fun _ => rfl⟩, ?_, l.top _ _ hf1, rfl, (by kernel_rfl), ?_⟩
    · intro e he
      simp only [List.mem_toArray, List.mem_cons, List.not_mem_nil, or_false] at he
      rcases he with rfl | rfl | rfl | rfl | rfl | rfl | rfl | rfl | rfl | rfl | rfl | rfl | rfl <;> exact ⟨_, _, rfl⟩
    · with_unfolding_all rfl
    · rw [typeLookup_type, builtinLookup_eq_fast]; kernel_rfl
  refine wpAny_bind (wpAny_callSpecialIfBound?_own X (lt h1 tk _ _ l fun v h2 tk2 k2 p2 => ?_))
  cases p2
  exact wpAny_truthy_bool (hq _ h2 tk2 k2 rfl)
end Mine
end

section
-- B4
open PySem PySem.W PyProof.Rows PySem.Spec PySem.Calls PySem.W.X
set_option maxRecDepth 100000
set_option maxHeartbeats 8000000
namespace Mine
/-- an instance of the class C, over a value of which R x holds -/
def isK {α : Type} (C : Addr) (R : α → VP) (x : α) : VP := fun v h => ∃ i dd u, v = .ref i ∧ h.get? i = some (insO C dd u) ∧ R x u h
instance {α : Type} {C : Addr} {R : α → VP} [∀ x, Mo (R x)] {x : α} : Mo (isK C R x) := ⟨fun ⟨i, dd, u, e, ho, r⟩ s => ⟨i, dd, u, e, s _ _ ho rfl, Mo.mo r s⟩⟩
theorem KCodes.keeps {h h' : Heap} {k : Codes} (hc : KCodes h k) (hk : Kept h h') : KCodes h' k := by
  obtain ⟨t, ⟨b0, t0, t1, t2, t3, t4, e⟩, kt, m0, m1, m2, m3, m4, m5⟩ := hc
  have hm : ∀ {a n l}, IsCodeO h a n l → IsCodeO h' a n l := fun ⟨cb, ct, e⟩ => ⟨cb, ct, hk _ _ e⟩
  exact ⟨hk _ _ t, ⟨b0, t0, t1, t2, t3, t4, hk _ _ e⟩, hk _ _ kt, hm m0, hm m1, hm m2, hm m3, hm m4, hm m5⟩
theorem K_new {α : Type} {R : α → VP} [∀ x, Mo (R x)] {c : Cx} (hy : Cy c) (hh : c.A.handled = none) (hd : c.A.depth ≤ 500) (hu : c.A.units ≤ 2000) {h : Heap} {k : Codes} {C : Addr} {v u : Value} {x : α} (hc : KCls c.w h k C v) (hk : KCodes h k) (hO2 : h.get? 2 = some statO) (hx : R x u h) :
    Pu c (call (.ref C) [u]) h (isK C R x) := by
  obtain ⟨prog, w, A, g, d, os, X⟩ := c
  obtain ⟨rfl, rfl⟩ := hy
  refine Pu.mk fun h1 tk Q E l hq => ?_
  show wpAny (model PRG w) A _ Q E ⟨h1, #[], d, tk, os⟩
  refine' e_call ?ht ?_; (case ht => with_unfolding_all rfl)
  refine s_new (hc.keeps l.top) (hk.keeps l.top) (l.top _ _ hO2) (by have hd : A.depth ≤ 500 := hd; have : recursionLimit = 1000 := rfl; omega) (fun r dd h' tk' D => ?_)
  have kk : Kept h1 h' := fun b o e => D.keep b o e List.not_mem_nil
  refine e_pure (by with_unfolding_all rfl) ?_
  refine hq _ h' tk' kk ⟨r, dd, u, rfl, lg_get (D.at 0 _ _ rfl) (l.new ?_), Mo.mo hx (l.keep.trans kk.lg).stay⟩
  rcases (D.own _ (List.mem_of_getElem? (i := 0) rfl)).2 with q | q
  · exact q
  · cases q
end Mine
end

section
-- B5
open PySem PySem.W PyProof.Rows PySem.Spec PySem.Calls PySem.W.X
set_option maxRecDepth 100000
set_option maxHeartbeats 8000000
namespace Mine
/-- the code table of cmp_to_key: empty, or filled by its first call -/
def KTab (h : Heap) : Prop := h.get? 16 = some (tabO #[]) ∨ ∃ k, KCodes h k
/-- what the making of the class reads -/
structure KBase (w : World) (h : Heap) : Prop where
  b : ∃ mb mg : Str → Option Value, h.Ns 0 mb ∧ mb "__build_class__" = some (.builtin "__build_class__") ∧ mb "object" = some (.type "object") ∧ h.Ns 3 mg ∧ mg "object" = none
  o1 : ∃ o, h.get? 1 = some o
  o2 : h.get? 2 = some statO
  o3 : h.get? 3 = some (KO w 3)
  o4 : ∃ sl : Array (Option Value), h.get? 4 = some ⟨.type "module", some 0, .plain, sl⟩
  o20 : h.get? 20 = some (KO w 20)
  o21 : h.get? 21 = some (KO w 21)
theorem KBase.of {w : World} {h h' : Heap} (x : KBase w h) (k : ∀ a o, a ≤ 21 → a ≠ 16 → h.get? a = some o → h'.get? a = some o) : KBase w h' := by
  obtain ⟨mb, mg, q1, q2, q3, q4, q5⟩ := x.b
  obtain ⟨o, q6⟩ := x.o1
  obtain ⟨sl, q7⟩ := x.o4
  exact ⟨⟨mb, mg, q1.at' fun o e => k _ o (by decide) (by decide) e, q2, q3, q4.at' fun o e => k _ o (by decide) (by decide) e, q5⟩, ⟨o, k _ _ (by decide) (by decide) q6⟩, k _ _ (by decide) (by decide) x.o2, k _ _ (by decide) (by decide) x.o3, ⟨sl, k _ _ (by decide) (by decide) q7⟩, k _ _ (by decide) (by decide) x.o20, k _ _ (by decide) (by decide) x.o21⟩
theorem K_make {c : Cx} (hy : Cy c) (hR : Room c.A 10) {h1 : Heap} {tk : Nat} {v : Value} {Q : Value → Shared → Prop} {E : Value → Shared → Prop} (hb : KBase c.w h1) (ht : KTab h1)
    (hq : ∀ C k h2 tk2, KB (· = 16) h1 h2 → KCls c.w h2 k C v → KCodes h2 k → Q (.ref C) (c.sh h2 tk2)) : wpAny c.M c.A (call (.ref 21) [v]) Q E (c.sh h1 tk) := by
  obtain ⟨prog, w, A, g, d, os, X⟩ := c
  obtain ⟨rfl, rfl⟩ := hy
  have hdp : A.depth + 10 < recursionLimit := hR.depth
  show wpAny (model PRG w) A _ Q E ⟨h1, #[], d, tk, os⟩
  refine' e_call ?ht ?_; (case ht => with_unfolding_all rfl)
  obtain ⟨mb, mg, q1, q2, q3, q4, q5⟩ := hb.b
  obtain ⟨sl, q7⟩ := hb.o4
  rcases ht with ht | ⟨⟨kc, kt, c0, c1, c2, c3, c4, c5⟩, hk⟩
  · refine ctk1 q1 q2 q3 q4 q5 hb.o1 hb.o2 hb.o3 q7 hb.o20 hb.o21 ht hdp ?_
    intros
    rename_i D
    refine e_pure (by with_unfolding_all rfl) ?_
    refine hq _ ⟨_, _, _, _, _, _, _, _⟩ _ _ (fun b o e q => D.keep b o e (by simpa using q)) (KCls.mk' (D.at 1 _ _ rfl) (D.at 2 _ _ rfl) (D.at 0 _ _ rfl) (D.at 17 _ _ rfl) (D.at 13 _ _ rfl) (D.at 11 _ _ rfl) (D.at 9 _ _ rfl) (D.at 7 _ _ rfl) (D.at 5 _ _ rfl) (D.at 3 _ _ rfl))
      ⟨D.at 18 _ _ rfl, ⟨_, _, _, _, _, _, D.at 15 _ _ rfl⟩, D.at 16 _ _ rfl, (IsCodeO.mk' (D.at 14 _ _ rfl)), (IsCodeO.mk' (D.at 12 _ _ rfl)), (IsCodeO.mk' (D.at 10 _ _ rfl)), (IsCodeO.mk' (D.at 8 _ _ rfl)), (IsCodeO.mk' (D.at 6 _ _ rfl)), (IsCodeO.mk' (D.at 4 _ _ rfl))⟩
  · obtain ⟨ht16, ⟨b0, t0, t1, t2, t3, t4, hkc⟩, hkt, m0, m1, m2, m3, m4, m5⟩ := id hk
    refine ctk2 q1 q2 q3 q4 q5 hb.o1 hb.o2 hb.o3 q7 hb.o20 hb.o21 ht16 hkc hkt hdp ?_
    intros
    rename_i D
    have kk : Kept h1 _ := fun b o e => D.keep b o e List.not_mem_nil
    refine e_pure (by with_unfolding_all rfl) ?_
    exact hq _ ⟨kc, kt, c0, c1, c2, c3, c4, c5⟩ _ _ kk.kb (KCls.mk' (D.at 1 _ _ rfl) (D.at 2 _ _ rfl) (D.at 0 _ _ rfl) (D.at 9 _ _ rfl) (D.at 8 _ _ rfl) (D.at 7 _ _ rfl) (D.at 6 _ _ rfl) (D.at 5 _ _ rfl) (D.at 4 _ _ rfl) (D.at 3 _ _ rfl)) (hk.keeps kk)
end Mine
end

section
-- PL16
open PySem PySem.W PyProof.Rows PySem.Spec PySem.Calls
set_option maxRecDepth 100000
namespace Mine
section
variable {c : Cx} {h0 h h' : Heap} {V : Vs} {N : Heap → Prop} {P P1 : VP} {env : Env} {rest : List Stmt}
/-- a frame stands while tables change -/
theorem Fm.wide (F : Fm h0 env h V) {W : Addr → Prop} (k : KB W h h') (hW0 : ∀ a, W a → h0.get? a = none) (hWw : ∀ a, W a → ¬ Wr env a) : Fm h0 env h' V :=
  ⟨F.kind, let ⟨m, f, e⟩ := F.loc; ⟨m, f.at' fun o eo => k _ o eo (fun w => hWw _ w (.inl rfl)), e⟩, fun b o e => k b o (F.kept b o e) (fun w => by rw [hW0 _ w] at e; cases e), F.newL,
    fun n a e => let ⟨o, eo, hd⟩ := F.cell n a e; ⟨o, k a o eo (fun w => hWw _ w (.inr ⟨n, e⟩)), hd⟩, F.apart, F.newC, F.ne, F.kinds, F.mem⟩
theorem Fx.wide (F : Fx c h0 env h V) {W : Addr → Prop} (k : KB W h h') (hW0 : ∀ a, W a → h0.get? a = none) (hWw : ∀ a, W a → ¬ Wr env a) (hWX : ∀ a ∈ c.X, ¬ W a) : Fx c h0 env h' V :=
  ⟨F.toFm.wide k hW0 hWw, fun x hx => let ⟨w, o, e⟩ := F.hid x hx; ⟨w, o, k x o e (hWX x hx)⟩⟩
theorem kb_stay {W : Addr → Prop} (k : KB W h h') (hWo : ∀ a, W a → ∃ o, h.get? a = some o ∧ plainD o.data = false) : Stay (lg c h) (lg c h') :=
  Stay.lg fun b o e q => k b o e fun w => by
    obtain ⟨o', e', hp⟩ := hWo b w
    rw [e] at e'; cases e'; rw [hp] at q; cases q
/-- x = e, where the making of e changes tables -/
theorem Ex.assignW {x : Str} {e : Expr} {p1 p2 : Pos} (F : Fx c h0 env h V) {W : Addr → Prop} {J : Heap → Prop} (hW0 : ∀ a, W a → h0.get? a = none) (hWw : ∀ a, W a → ¬ Wr env a) (hWX : ∀ a ∈ c.X, ¬ W a) (hWo : ∀ a, W a → ∃ o, h.get? a = some o ∧ plainD o.data = false) [Mo P1]
    (he : ∀ tk (Q : Value → Shared → Prop) (E : Value → Shared → Prop), (∀ v h1 tk1, KB W h h1 → J h1 → P1 v (lg c h1) → Q v (c.sh h1 tk1)) → wpAny c.M c.A (eval e env) Q E (c.sh h tk))
    (hr : ∀ v h1 h', Fx c h0 env h' (upd V x v) → KB W h h1 → J h1 → KB (Wr env) h1 h' → Stay (lg c h) (lg c h') → P1 v (lg c h') → Ex c env h0 rest h' N P)
    (hk : env.kindOf x = some .local ∨ (env.kindOf x = some .cell ∧ (env.cells.lookup x).isSome = true) := by exact own_of (by rfl)) (hs : swapsWith e (some (.Name x p1)) p2.line env = pure false := by rfl) : Ex c env h0 (.Assign [.Name x p1] e p2 :: rest) h N P :=
  Ex.cons fun tk Q E hn _ => wpAny_Assign_Name (he tk _ E fun v h1 tk1 k j p => by
    have F1 := F.wide k hW0 hWw hWX
    exact F1.toFm.store (s := c.sh h1 tk1) hk fun h2 tk2 F2 kb => hn h2 tk2 (hr v h1 h2 (F1.next F2 kb) k j kb ((kb_stay k hWo).trans (F1.stay kb)) (Mo.mo p (F1.stay kb)))) hs
theorem Pu.here {α : Type} {P : α → Heap → Prop} {t : Sem α} (x : Pu c t (lg c h) P) (hX : ∀ x ∈ c.X, ∃ o, h.get? x = some o) {tk : Nat} {Q : α → Shared → Prop} {E : Value → Shared → Prop} (hq : ∀ v h2 tk2, Kept h h2 → P v (lg c h2) → Q v (c.sh h2 tk2)) : wpAny c.M c.A t Q E (c.sh h tk) :=
  x h tk Q E ⟨Kept.refl _, hX⟩ hq
/-- sorted(a, key=kv), where the making of kv changes tables -/
theorem sorted_key {fe a kv : Expr} {kp pos : Pos} {PA : VP} {tk : Nat} {Q : Value → Shared → Prop} {E : Value → Shared → Prop} {W : Addr → Prop} {J : Heap → Prop} (hX : ∀ x ∈ c.X, ∃ o, h.get? x = some o) (hWX : ∀ a ∈ c.X, ¬ W a)
    (hf : Ev c env fe (lg c h) (isV (.builtin "sorted"))) (ha : Ev c env a (lg c h) PA)
    (hl : ∀ u h2 tk2 (Q : Value → Shared → Prop), Kept h h2 → PA u (lg c h2) → (∀ C h3 tk3, KB W h2 h3 → J h3 → Pu c (call (.builtin "sorted") [u] [(Str.ofString "key", C)]) (lg c h3) P → Q C (c.sh h3 tk3)) → wpAny c.M c.A (eval kv env) Q E (c.sh h2 tk2))
    (hJ : ∀ h1 h2, J h1 → Kept h1 h2 → J h2)
    (hq : ∀ v h4 tk4, KB W h h4 → J h4 → P v (lg c h4) → Q v (c.sh h4 tk4))
    (hs : starEach [a] env = [(false, eval a env)] := by rfl)
    (hall : (backToKw pos (keywordEach [⟨some (Str.ofString "key"), kv, kp⟩] env)).all (·.1.isSome) = true := by rfl)
    (hkw : (backToKw pos (keywordEach [⟨some (Str.ofString "key"), kv, kp⟩] env)).any (·.1.isNone) = false := by rfl)
    (he : eval (.Call fe [a] [⟨some (Str.ofString "key"), kv, kp⟩] pos) env = (do callWith pos (← eval fe env) [] (backTo pos (starEach [a] env)) (backToKw pos (keywordEach [⟨some (Str.ofString "key"), kv, kp⟩] env))) := by rfl) :
    wpAny c.M c.A (eval (.Call fe [a] [⟨some (Str.ofString "key"), kv, kp⟩] pos) env) Q E (c.sh h tk) := by
  rw [he]
  refine wpAny_bind (hf.here hX fun v h1 tk1 k1 e => ?_)
  cases e
  have X1 : ∀ {h1 : Heap}, Kept h h1 → ∀ x ∈ c.X, ∃ o, h1.get? x = some o := fun k x hx => let ⟨o, e⟩ := hX x hx; ⟨o, k _ _ e⟩
  refine callWith_kw ?_ (by rw [hs]; rfl) (by rw [hs]; rfl) hall hkw
  refine args_cons ((ha.later k1.lg).here (X1 k1) fun u h2 tk2 k2 pu => args_nil ?_) hs
  refine kws_cons (hl u h2 tk2 _ (k1.trans k2) pu fun C h3 tk3 k3 j3 p3 => kws_nil ?_)
  have k13 : KB W h h3 := (k1.trans k2).kb.trans k3
  show wpAny c.M c.A (call (.builtin "sorted") [u] [(Str.ofString "key", C)]) Q E (c.sh h3 tk3)
  exact p3.here (fun x hx => let ⟨o, e⟩ := hX x hx; ⟨o, k13 _ _ e (hWX x hx)⟩) fun v h4 tk4 k4 p4 => hq v h4 tk4 (k13.trans k4.kb) (hJ _ _ j3 k4) p4
/-- m(f), where the making of f, and the call, change tables -/
theorem call_any {m f : Expr} {mpos : Pos} {mf : Addr} {mo : Obj} {fd : FuncData} {tk : Nat} {Q : Value → Shared → Prop} {E : Value → Shared → Prop} (hX : ∀ x ∈ c.X, ∃ o, h.get? x = some o)
    (hm : Ev c env m (lg c h) (isV (.ref mf))) (hd : mo.data = .func fd)
    (hl : ∀ h1 tk1, Kept h h1 → wpAny c.M c.A (eval f env) (fun fv s2 => s2.heap.get? mf = some mo ∧ wpAny c.M c.A (call (.ref mf) [fv]) Q E s2) E (c.sh h1 tk1))
    (hs : starEach [f] env = [(false, eval f env)] := by rfl)
    (he2 : eval (.Call m [f] [] mpos) env = (do callWith mpos (← eval m env) [] (backTo mpos (starEach [f] env)) (backToKw mpos (keywordEach [] env))) := by rfl) :
    wpAny c.M c.A (eval (.Call m [f] [] mpos) env) Q E (c.sh h tk) := by
  refine Call_ (hm.here hX fun v h1 tk1 k1 e => ?_) he2
  cases e
  refine callWith_def hd ?_ hs
  exact args_cons (wpAny_mono (hl h1 tk1 k1) (fun fv s2 x => args_nil x) fun _ _ y => y) hs
end
end Mine
end

section
-- A7
open PySem PySem.W PyProof.Rows PySem.Spec PySem.Calls
set_option maxRecDepth 100000
set_option maxHeartbeats 8000000
namespace Mine
abbrev lamQ : Str := Str.ofString "law.<locals>." ++ Str.ofString "<lambda>"
/-- the code tables: empty or filled -/
structure TbJ (p : Pos) (h : Heap) : Prop where
  k : KTab h
  l : LTab lamQ p 61 h
def lawLt (js : List Job) (i j : Nat) : Bool := match js[i]?, js[j]? with
  | some x, some y => decide (ruleZ x y < 0)
  | _, _ => false
theorem KTab.keeps {h h' : Heap} (x : KTab h) (k : Kept h h') : KTab h' := x.elim (fun e => .inl (k _ _ e)) fun ⟨c, e⟩ => .inr ⟨c, e.keeps k⟩
theorem TbJ.keeps {p : Pos} {h h' : Heap} (x : TbJ p h) (k : Kept h h') : TbJ p h' := ⟨x.k.keeps k, x.l.keeps k⟩
theorem KBase.kb {w : World} {h h' : Heap} (x : KBase w h) (k : KB (fun b => b = 16 ∨ b = 61) h h') : KBase w h' :=
  x.of fun a o h1 h2 e => k a o e fun z => z.elim h2 fun (q : a = 61) => absurd h1 (by rw [q]; decide)
theorem Pg.kb {K : Frag} {mg mb : Str → Option Value} {h h' : Heap} (g : Pg K [16, 61] mg mb h) (k : KB (fun b => b = 16 ∨ b = 61) h h') : Pg K [16, 61] mg mb h' := by
  have hg0 : ∀ b, b ≠ 16 → b ≠ 61 → ∀ o, h.get? b = some o → h'.get? b = some o := fun b q1 q2 o e => k b o e (by rintro (rfl | rfl) <;> simp_all)
  refine ⟨fun a o e q => hg0 a ?_ ?_ _ (g.X a o e q), g.nb, g.g.at' (hg0 _ (by decide) (by decide)), g.b.at' (hg0 _ (by decide) (by decide)), ?_, g.bt⟩
  · rintro rfl; simp at q
  · rintro rfl; simp at q
  · obtain ⟨m, hm, e⟩ := g.lim
    exact ⟨m, hm.at' (hg0 _ (by decide) (by decide)), e⟩
theorem kb_get {T : Addr} {h h' : Heap} {ot : Obj} (ht : h.get? T = some ot) (k : KB (· = T) h h') {a : Addr} {o : Obj} (e : h.get? a = some o) (q : o ≠ ot) : h'.get? a = some o := k _ _ e (by rintro rfl; rw [ht] at e; cases e; exact q rfl)
theorem KTab.kb {h h' : Heap} {T : Addr} {ps : Array Value} (x : KTab h) (ht : h.get? T = some (tabObj ps)) (hT : T ≠ 16) (hps : ps.size ≤ 3) (k : KB (· = T) h h') : KTab h' := by
  rcases x with e | ⟨kk, t, ⟨b0, t0, t1, t2, t3, t4, e⟩, kt, m0, m1, m2, m3, m4, m5⟩
  · exact .inl (k _ _ e (Ne.symm hT))
  · have hm : ∀ {a n l}, IsCodeO h a n l → IsCodeO h' a n l := fun ⟨cb, ct, e⟩ => ⟨cb, ct, kb_get ht k e (fun q => by cases congrArg Obj.cls q)⟩
    refine .inr ⟨kk, k _ _ t (Ne.symm hT), ⟨b0, t0, t1, t2, t3, t4, kb_get ht k e (fun q => by cases congrArg Obj.cls q)⟩, kb_get ht k kt (fun q => ?_), hm m0, hm m1, hm m2, hm m3, hm m4, hm m5⟩
    have q' := congrArg Obj.data q
    injection q' with q'
    rw [← q'] at hps
    exact absurd hps (by show ¬ (18 ≤ 3); decide)
theorem LTab.kb {h h' : Heap} {q : Str} {p : Pos} (x : LTab q p 61 h) (ht : KTab h) (k : KB (· = 16) h h') : LTab q p 61 h' := by
  rcases x with e | ⟨c', e, r⟩
  · exact .inl (k _ _ e (by decide))
  · obtain ⟨oc', eo, q⟩ := r.2
    have n16 : c' ≠ 16 := by
      rintro rfl
      rcases ht with z | ⟨kk, z⟩
      · rw [z] at eo; cases eo; cases q
      · rw [z.tab] at eo; cases eo; cases q
    refine .inr ⟨c', k _ _ e (by decide), ?_, oc', k _ _ eo n16, q⟩
    obtain ⟨c₂, oc, vs, t, e2, hoc, hd, hv⟩ := r.1
    cases e2
    exact ⟨_, oc, vs, t, rfl, k _ _ hoc n16, hd, hv⟩
/-- the tables stand while iterators and names change -/
theorem TbJ.strg {p : Pos} {h h' : Heap} (x : TbJ p h) (k : Strg h h') : TbJ p h' := by
  refine ⟨?_, ?_⟩
  · rcases x.k with e | ⟨kk, t, ⟨b0, t0, t1, t2, t3, t4, e⟩, kt, m0, m1, m2, m3, m4, m5⟩
    · exact .inl (k _ _ e rfl)
    · have hm : ∀ {a n l}, IsCodeO h a n l → IsCodeO h' a n l := fun ⟨cb, ct, e⟩ => ⟨cb, ct, k _ _ e (by rfl)⟩
      exact .inr ⟨kk, k _ _ t rfl, ⟨b0, t0, t1, t2, t3, t4, k _ _ e (by rfl)⟩, k _ _ kt rfl, hm m0, hm m1, hm m2, hm m3, hm m4, hm m5⟩
  · rcases x.l with e | ⟨c', e, ⟨c₂, oc, vs, t, e2, hoc, hd, hv⟩, oc', eo, q⟩
    · exact .inl (k _ _ e rfl)
    · cases e2
      rw [hoc] at eo; cases eo
      have ho := k _ _ hoc (by unfold strongO; rw [hd, q]; rfl)
      exact .inr ⟨_, k _ _ e rfl, ⟨_, oc, vs, t, rfl, ho, hd, hv⟩, oc, ho, q⟩
theorem lg_nil {c : Cx} (hX : c.X = []) (h : Heap) : lg c h = h := by unfold lg; rw [hX]; rfl
theorem rangeL_get {n i : Nat} {x : Int} (h : (rangeL 0 1 n)[i]? = some x) : i < n ∧ x = (i : Int) := by
  unfold rangeL at h
  rw [List.getElem?_map, Option.map_eq_some_iff] at h
  obtain ⟨k, hk, rfl⟩ := h
  have hi : i < n := by have := (List.getElem?_eq_some_iff.mp hk).1; simpa using this
  rw [List.getElem?_range hi] at hk
  cases hk
  exact ⟨hi, by omega⟩
/-- sorted(range(n), key=K) -/
theorem c_sorted {c : Cx} (hy : Cy c) (hR : Room c.A 8) (hd : c.A.depth ≤ 500) (hu : c.A.units ≤ 1998) {h : Heap} {mg mb : Str → Option Value} (G : Pg (hdx.heap_39 c.w.params) [16, 61] mg mb h) {k : Codes} {C f a : Addr} {pi pj p1 p2 p3 p4 p5 p6 p7 p8 : Pos} {qual : Str} {pm jv u : Value} {js : List Job} {n : Nat}
    (hc : KCls c.w h k C (.ref f)) (hk : KCodes h k) (hO2 : h.get? 2 = some statO) (hf : IsLam qual (lamP pi pj) (lamB p1 p2 p3 p4 p5 p6 p7 p8) lamS [(Str.ofString "jobs", a)] pm h f) (ha : h.IsCell a (some jv)) (hj : isL isJ js jv h)
    (hn : n ≤ 5) (hnj : n ≤ js.length) (hp : ∀ i ∈ sortPerm n (lawLt js), i < n) (hr : isR 0 n 1 n u h) : Pu c (call (.builtin "sorted") [u] [(Str.ofString "key", .ref C)]) h (isL isI (permL (sortPerm n (lawLt js)) (rangeL 0 1 n))) := by
  have hh := hR.handled
  have hl : (rangeL 0 1 n).length = n := rangeL_len
  have has : 2 ≤ (rangeL 0 1 n).length → asksT (rangeL 0 1 n).length (kas_sort (rangeL 0 1 n).length) = true := by
    rw [hl]; intro h2
    have : n = 2 ∨ n = 3 ∨ n = 4 ∨ n = 5 := by omega
    rcases this with rfl | rfl | rfl | rfl
    · exact asks5.1
    · exact asks5.2.1
    · exact asks5.2.2.1
    · exact asks5.2.2.2
  have main := b_sortedK (c := c) (h := h) (R := isI) (KK := isK C isI) (xs := rangeL 0 1 n) (T := .ref C) (q := C) (v := u) (lt := lawLt js) hh (hr.coll (by omega)) (by rw [hl]; omega) has (by rw [hl]; exact hp)
    (fun x u g ⟨i, dd, u', e, ho, _⟩ => ⟨i, _, e, ho, rfl⟩) (by rfl) (by simp) (fun X i x v g hx kg r => ?_) (fun X i j x y u v g hx hy' kg ku kv => ?_)
  · rwa [hl] at main
  · exact K_new (c := { c with A := c.A.in1.in1, X := X }) (hy.at _ _) hh hd (by show c.A.units + 1 + 1 ≤ 2000; omega) (hc.keeps kg) (hk.keeps kg) (kg _ _ hO2) r
  · obtain ⟨iu, du, u', rfl, eu, ru⟩ := ku
    obtain ⟨iv, dv, v', rfl, ev, rv⟩ := kv
    obtain ⟨hi, rfl⟩ := rangeL_get hx
    obtain ⟨hj', rfl⟩ := rangeL_get hy'
    have hxi : js[i]? = some js[i] := List.getElem?_eq_getElem (by omega)
    have hxj : js[j]? = some js[j] := List.getElem?_eq_getElem (by omega)
    obtain ⟨cl', ctv, ef, _⟩ := id hf
    have kc := K_cmp (c := { c with A := c.A.in1.in1, X := X }) (z := ruleZ js[i] js[j]) (hy.at _ _) (Room.in1 (n := 5) (Room.in1 (n := 6) (hR.le (by decide)))) (hc.keeps kg) (hk.keeps kg) (G.at kg).lim eu ev
      (by obtain ⟨t, rfl⟩ := ru; rfl) (by obtain ⟨t, rfl⟩ := rv; rfl) (kg _ _ ef) rfl fun A g' hA kg' => c_lam (c := { c with A := A, X := X }) hA (G.at (kg.trans kg')) (hf.keeps (kg.trans kg')) (ha.keeps (kg.trans kg')) (Mo.mo hj (kg.trans kg').stay) hxi hxj (by omega) (by omega) (Mo.mo ru kg'.stay) (Mo.mo rv kg'.stay)
    refine kc.mono fun b g' _ e => ?_
    rw [e]
    unfold lawLt
    rw [hxi, hxj]
end Mine
end

section
-- A8
open PySem PySem.W PyProof.Rows PySem.Spec PySem.Calls
set_option maxRecDepth 100000
set_option maxHeartbeats 8000000
namespace Mine
/-- what law's frame needs of the heap for the order -/
structure LBase (w : World) (mg mb : Str → Option Value) (h : Heap) : Prop where
  G : Pg (hdx.heap_39 w.params) [16, 61] mg mb h
  K : KBase w h
  C : CodeHd h 63 61
  B : h.BuiltinsAt mg 61
theorem LBase.kb {w : World} {mg mb : Str → Option Value} {h h' : Heap} (x : LBase w mg mb h) (k : KB (fun b => b = 16 ∨ b = 61) h h') (h16 : ∃ o, h.get? 16 = some o ∧ o.cls = .none) : LBase w mg mb h' := by
  refine ⟨x.G.kb k, x.K.kb k, ?_, ?_⟩
  · obtain ⟨o, vs, file, tf, flags, tg, inF, text, tt, e, r⟩ := x.C
    exact ⟨o, vs, file, tf, flags, tg, inF, text, tt, k _ _ e (by decide), r⟩
  · obtain ⟨bm, o, e1, e2, e3, e4, e5, e6, e7⟩ := x.B
    refine ⟨bm, o, e1, e2, e3, e4, k _ _ e5 ?_, e6, e7⟩
    rintro (rfl | rfl)
    · obtain ⟨o', z, zc⟩ := h16
      rw [z] at e5; cases e5; rw [zc] at e6; cases e6
    · exact e4 rfl
theorem KTab.at16 {h : Heap} (x : KTab h) : ∃ o, h.get? 16 = some o ∧ o.cls = .none := x.elim (fun e => ⟨_, e, rfl⟩) fun ⟨_, e⟩ => ⟨_, e.tab, rfl⟩
theorem LTab.at61 {q : Str} {p : Pos} {T : Addr} {h : Heap} (x : LTab q p T h) : ∃ ps, h.get? T = some (tabObj ps) ∧ ps.size ≤ 3 := x.elim (fun e => ⟨_, e, Nat.zero_le _⟩) fun ⟨_, e, _⟩ => ⟨_, e, Nat.le_refl _⟩
theorem e_order {c : Cx} (hy : Cy c) (hX : c.X = []) (hR : Room c.A 10) (hd : c.A.depth ≤ 500) (hu : c.A.units ≤ 1998) {env : Env} {h : Heap} {tk : Nat} {mg mb : Str → Option Value} (L : LBase c.w mg mb h) {lp : Pos} (ht : TbJ lp h)
    {fe ra m : Expr} {kp pos mpos : Pos} {a : Addr} {pi pj p1 p2 p3 p4 p5 p6 p7 p8 : Pos} {jv : Value} {js : List Job} {n : Nat} {Q : Value → Shared → Prop} {E : Value → Shared → Prop}
    (hge : env.globals = mainGlobals) (hcode : env.code = .ref 63) (hqual : env.qual = Str.ofString "law.<locals>.") (hcl : closureFor lamS env = pure [(Str.ofString "jobs", a)]) (ha : h.IsCell a (some jv)) (hj : isL isJ js jv h)
    (hn : n ≤ 5) (hnj : n ≤ js.length) (hp : ∀ i ∈ sortPerm n (lawLt js), i < n)
    (hf : Ev c env fe h (isV (.builtin "sorted"))) (hr : Ev c env ra h (isR 0 n 1 n)) (hm : Ev c env m h (isV (.ref 21)))
    (hq : ∀ v h4 tk4, KB (fun b => b = 16 ∨ b = 61) h h4 → TbJ lp h4 → isL isI (permL (sortPerm n (lawLt js)) (rangeL 0 1 n)) v h4 → Q v (c.sh h4 tk4))
    (hdef : defaultsOf (lamP pi pj) env = ([], []) := by rfl)
    (hs : starEach [ra] env = [(false, eval ra env)] := by rfl) (hs2 : starEach [.Lambda (lamP pi pj) (lamB p1 p2 p3 p4 p5 p6 p7 p8) lamS lp] env = [(false, eval (.Lambda (lamP pi pj) (lamB p1 p2 p3 p4 p5 p6 p7 p8) lamS lp) env)] := by rfl)
    (he : eval (.Call fe [ra] [⟨some (Str.ofString "key"), .Call m [.Lambda (lamP pi pj) (lamB p1 p2 p3 p4 p5 p6 p7 p8) lamS lp] [] mpos, kp⟩] pos) env = (do callWith pos (← eval fe env) [] (backTo pos (starEach [ra] env)) (backToKw pos (keywordEach [⟨some (Str.ofString "key"), .Call m [.Lambda (lamP pi pj) (lamB p1 p2 p3 p4 p5 p6 p7 p8) lamS lp] [] mpos, kp⟩] env))) := by rfl)
    (he2 : eval (.Call m [.Lambda (lamP pi pj) (lamB p1 p2 p3 p4 p5 p6 p7 p8) lamS lp] [] mpos) env = (do callWith mpos (← eval m env) [] (backTo mpos (starEach [.Lambda (lamP pi pj) (lamB p1 p2 p3 p4 p5 p6 p7 p8) lamS lp] env)) (backToKw mpos (keywordEach [] env))) := by rfl) :
    wpAny c.M c.A (eval (.Call fe [ra] [⟨some (Str.ofString "key"), .Call m [.Lambda (lamP pi pj) (lamB p1 p2 p3 p4 p5 p6 p7 p8) lamS lp] [] mpos, kp⟩] pos) env) Q E (c.sh h tk) := by
  have noX : ∀ {P : Addr → Prop}, ∀ x ∈ c.X, P x := fun x hx => by rw [hX] at hx; cases hx
  have hlg : ∀ g, lg c g = g := lg_nil hX
  refine sorted_key (W := fun b => b = 16 ∨ b = 61) (J := TbJ lp) (PA := isR 0 n 1 n) noX noX (by rw [hlg]; exact hf) (by rw [hlg]; exact hr) (fun u h2 tk2 Q2 k2 pu hQ2 => ?_) (fun h1 h2 j k => j.keeps k) (fun v h4 tk4 k4 j4 p4 => hq v h4 tk4 k4 j4 (by rwa [hlg] at p4)) hs (by rfl) (by rfl) he
  rw [hlg] at pu
  refine call_any noX (mf := 21) (by rw [hlg]; exact hm.later k2) (mo := KO c.w 21) (by with_unfolding_all rfl) (fun h3 tk3 k3 => ?_) hs2 he2
  have k03 : Kept h h3 := k2.trans k3
  have L3 := L.kb k03.kb ht.k.at16
  have t3 := ht.keeps k03
  obtain ⟨ps, e61, hps⟩ := t3.l.at61
  refine lam_any hcl hge L3.G.g hcode L3.C (by rw [hqual]; exact t3.l) L3.B (fun f h5 tk5 k5 l5 f5 => ?_) hdef
  rw [hqual] at l5 f5
  have L5 := L3.kb (k5.mono fun _ => .inr) t3.k.at16
  have kt5 : KTab h5 := t3.k.kb e61 (by decide) hps k5
  refine ⟨L5.K.o21, K_make hy hR L5.K kt5 fun C k h6 tk6 k6 hC hk => ?_⟩
  have L6 := L5.kb (k6.mono fun _ => .inl) kt5.at16
  have k36 : KB (fun b => b = 16 ∨ b = 61) h3 h6 := (k5.mono fun _ => .inr).trans (k6.mono fun _ => .inl)
  have l6 : LTab lamQ lp 61 h6 := l5.kb kt5 k6
  refine hQ2 (.ref C) h6 tk6 (k3.kb.trans k36) ⟨.inr ⟨k, hk⟩, l6⟩ ?_
  rw [hlg]
  have no : ∀ b o, h3.get? b = some o → o.cls ≠ .none → h6.get? b = some o := fun b o e q => k36 b o e (by
    rintro (rfl | rfl)
    · obtain ⟨o', z, zc⟩ := t3.k.at16
      rw [z] at e; cases e; exact q zc
    · rw [e61] at e; cases e; exact q rfl)
  have pu3 : isR 0 n 1 n u h3 := by
    obtain ⟨r, t, u', w, e, hr', x⟩ := pu
    exact ⟨r, t, u', w, e, k3 _ _ hr', x⟩
  have pu6 : isR 0 n 1 n u h6 := by
    obtain ⟨r, t, u', w, e, hr', x⟩ := pu3
    exact ⟨r, t, u', w, e, no _ _ hr' (by simp), x⟩
  have ha6 : h6.IsCell a (some jv) := by
    obtain ⟨o, e, hd⟩ := ha.keeps k03
    refine ⟨o, k36 _ _ e ?_, hd⟩
    rintro (rfl | rfl)
    · rcases t3.k with z | ⟨kk, z⟩
      · rw [z] at e; cases e; cases hd
      · rw [z.tab] at e; cases e; cases hd
    · rw [e61] at e; cases e; cases hd
  have hj6 : isL isJ js jv h6 := Mo.mo (Mo.mo hj k03.stay) fun b o e q => k36 b o e (by
    rintro (rfl | rfl)
    · rcases t3.k with z | ⟨kk, z⟩
      · rw [z] at e; cases e; cases q
      · rw [z.tab] at e; cases e; cases q
    · rw [e61] at e; cases e; cases q)
  have f6 : IsLam lamQ (lamP pi pj) (lamB p1 p2 p3 p4 p5 p6 p7 p8) lamS [(Str.ofString "jobs", a)] ((mg (Str.ofString "__name__")).getD .none) h6 f := by
    obtain ⟨c', ctv, e, r⟩ := f5
    have ne : ∀ b o, h5.get? b = some o → o ≠ tabO #[] → (∀ k : Codes, o ≠ tabO #[.int 4 0, .int 4 0, .ref k.kc]) → h6.get? b = some o := fun b o e q1 q2 => k6 b o e (by
      rintro rfl
      rcases kt5 with z | ⟨kk, z⟩
      · rw [z] at e; cases e; exact q1 rfl
      · rw [z.tab] at e; cases e; exact q2 kk rfl)
    refine ⟨c', ctv, ne _ _ e (fun q => by cases congrArg Obj.cls q) (fun k q => by cases congrArg Obj.cls q), ?_⟩
    obtain ⟨c₂, oc, vs, t, e2, hoc, hd, hv⟩ := r
    refine ⟨c₂, oc, vs, t, e2, ne _ _ hoc (fun q => ?_) (fun k q => ?_), hd, hv⟩
    · subst q; cases hd; cases hv
    · subst q; cases hd; cases hv
  exact c_sorted hy (hR.le (by decide)) hd hu L6.G hC hk L6.K.o2 f6 ha6 hj6 hn hnj hp pu6
end Mine
end

section
-- A2
open PySem PySem.W PyProof.Rows PySem.Spec PySem.Calls
set_option maxRecDepth 100000
set_option maxHeartbeats 8000000
namespace Mine
theorem foldl_take {α β : Type} (f : β → α → β) (b : β) {xs : List α} {i : Nat} {y : α} (h : xs[i]? = some y) : (xs.take (i + 1)).foldl f b = f ((xs.take i).foldl f b) y := by
  rw [List.take_add_one, h, List.foldl_append]; rfl
theorem c_length {c : Cx} {h : Heap} {mg mb : Str → Option Value} {u : Value} {js : List Job} (hR : Room c.A 2) (hsz : js.length ≤ sizeLine)
    (G : Pg (hdx.heap_39 c.w.params) [16, 61] mg mb h) (hu : isL isJ js u h) : Pu c (call (.ref 54) [u]) h (isI (lenB js)) := by
  refine Pu.enter (binds := [(Str.ofString "order", u)]) (G.X _ _ (by k_is) rfl) rfl (G.code rfl (by rfl)) G.lim (hR.le (by decide)) (fun s _ => BindsTo.of_eq rfl) (by rfl) (by rfl) (by decide +kernel) fun h1 h2 L kb F => ?_
  have hh := hR.handled
  refine Ex.assign3 (a := 0) (b := 0) (d := 0) F (by exact hh) (Ev.tuple (R := isI) (EL.cons .cint (EL.cons .cint (EL.cons .cint EL.nil)))) fun va vb vd h3 F3 _ _ pa pb pd => ?_
  have order := F3.var (x := Str.ofString "order") rfl (Mo.mo hu (kb.trans F3.kept.lg).stay)
  refine Ex.for_ (R := isJ) (xs := js.reverse) (by exact hh) F3 ?_ (Wr _) (fun _ x => x) (fun _ w => F3.toFm.wrObj w)
    (fun i V h => ∃ vf vs vt, V (Str.ofString "first") = some vf ∧ V (Str.ofString "second") = some vs ∧ V (Str.ofString "third") = some vt ∧ isI ((js.reverse.take i).foldl (fun e j => backStep j e) (0, 0, 0)).1 vf h ∧ isI ((js.reverse.take i).foldl (fun e j => backStep j e) (0, 0, 0)).2.1 vs h ∧ isI ((js.reverse.take i).foldl (fun e j => backStep j e) (0, 0, 0)).2.2 vt h)
    (fun h' k => ⟨va, vb, vd, rfl, rfl, rfl, pa, pb, pd⟩) (fun i V h h' x _ => x) ?_ ?_
  · exact Ev.itL (Pu.toL (Ev.sliceS (order _) .none .none (Ev.neg (x := 1) .cint) (by decide) hsz) (pick_rev _))
  · rintro i y v V1 g hy ⟨vf, vs, vt, e1, e2, e3, q1, q2, q3⟩ hr F5 kb5 st5
    have job := F5.var (x := Str.ofString "job") upd_eq hr
    refine Ex.aug F5 ((upd_ne (by decide)).trans e3) q3 (Ev.itemT (job _) .cint (by decide) (by decide) rfl) fun w3 g6 F6 kb6 s6 r3 => ?_
    have g6' := G.at (kb.trans F6.kept.lg)
    have job := F6.var (x := Str.ofString "job") ((upd_ne (by decide)).trans upd_eq) (Mo.mo hr s6)
    have third := F6.var (x := Str.ofString "third") upd_eq r3
    have second := F6.var (P := isI _) (x := Str.ofString "second") ((upd_ne (by decide)).trans ((upd_ne (by decide)).trans e2)) q2
    refine Ex.assign F6 (Ev.add (Ev.max2 hh (g6'.bi (by k_is) (by boot_by_name)) (second _) (third _)) (Ev.itemT (job _) .cint (by decide) (by decide) rfl)) fun w2 g7 F7 kb7 s7 r2 => ?_
    have g7' := G.at (kb.trans F7.kept.lg)
    have job := F7.var (x := Str.ofString "job") ((upd_ne (by decide)).trans ((upd_ne (by decide)).trans upd_eq)) (Mo.mo hr (s6.trans s7))
    have second := F7.var (x := Str.ofString "second") upd_eq r2
    have first := F7.var (P := isI _) (x := Str.ofString "first") ((upd_ne (by decide)).trans ((upd_ne (by decide)).trans ((upd_ne (by decide)).trans e1))) q1
    refine Ex.assign F7 (Ev.add (Ev.max2 hh (g7'.bi (by k_is) (by boot_by_name)) (first _) (second _)) (Ev.itemT (job _) .cint (by decide) (by decide) rfl)) fun w1 g8 F8 kb8 s8 r1 => ?_
    refine Ex.nil ⟨_, F8, ⟨w1, w2, w3, upd_eq, (upd_ne (by decide)).trans upd_eq, (upd_ne (by decide)).trans ((upd_ne (by decide)).trans upd_eq), ?_, ?_, ?_⟩, (kb6.trans kb7).trans kb8⟩
    · rw [foldl_take _ _ hy]; exact r1
    · rw [foldl_take _ _ hy]; exact r2
    · rw [foldl_take _ _ hy]; exact r3
  · rintro V1 g ⟨vf, vs, vt, e1, e2, e3, q1, q2, q3⟩ F5 kb5 st5
    rw [List.take_length, List.foldl_reverse] at q1
    have first := F5.var (P := isI (lenB js)) e1 q1
    exact Ex.ret F5 (first _)
end Mine
end

section
-- J3
namespace Mine
def fac : Nat → Nat
  | 0 => 1
  | n + 1 => fac n * (n + 1)
theorem len_of_ordersOf {α : Type} {l π : List α} (h : π ∈ ordersOf l) : π.length = l.length := ((mem_ordersOf l π).mp h).length_eq
theorem length_flatMap_const {α β : Type} (f : α → List β) (k : Nat) : ∀ l : List α, (∀ x ∈ l, (f x).length = k) → (l.flatMap f).length = l.length * k
  | [], _ => by simp
  | x :: l, h => by
    rw [List.flatMap_cons, List.length_append, h x (by simp), length_flatMap_const f k l fun y hy => h y (by simp [hy]), List.length_cons, Nat.succ_mul, Nat.add_comm]
theorem insAll_length {α : Type} (x : α) (l : List α) : (insAll x l).length = l.length + 1 := by simp [insAll]
theorem ordersOf_length {α : Type} : ∀ l : List α, (ordersOf l).length = fac l.length := by
  refine snocInd rfl fun l x ih => ?_
  rw [ordersOf_snoc, length_flatMap_const _ (l.length + 1) _ fun o ho => by rw [insAll_length, len_of_ordersOf ho], ih, List.length_append]
  rfl
theorem fac_le : ∀ n, n ≤ 5 → fac n ≤ 120 := by decide
theorem ordersOf_take_succ {α : Type} {js : List α} {i : Nat} {x : α} (h : js[i]? = some x) : ordersOf (js.take (i + 1)) = (ordersOf (js.take i)).flatMap fun o => (List.range (i + 1)).map fun p => o.take p ++ [x] ++ o.drop p := by
  rw [List.take_add_one, h]
  show ordersOf (js.take i ++ [x]) = _
  rw [ordersOf_snoc]
  have hi : i < js.length := (List.getElem?_eq_some_iff.mp h).1
  have : ∀ L : List (List α), (∀ o ∈ L, o.length = i) → L.flatMap (insAll x) = L.flatMap fun o => (List.range (i + 1)).map fun p => o.take p ++ [x] ++ o.drop p := by
    intro L
    induction L with
    | nil => intro _; rfl
    | cons o L ih =>
      intro hL
      rw [List.flatMap_cons, List.flatMap_cons, ih fun z hz => hL z (by simp [hz])]
      congr 1
      unfold insAll
      rw [hL o (by simp)]
  exact this _ fun o ho => by rw [len_of_ordersOf ho, List.length_take]; omega
end Mine
end

section
-- A3
open PySem PySem.W PyProof.Rows PySem.Spec PySem.Calls
set_option maxRecDepth 100000
set_option maxHeartbeats 8000000
namespace Mine
theorem c_orders {c : Cx} {h : Heap} {mg mb : Str → Option Value} {u : Value} {js : List Job} (hR : Room c.A 2) (hsz : js.length ≤ 5)
    (G : Pg (hdx.heap_39 c.w.params) [16, 61] mg mb h) (hu : isL isJ js u h) : Pu c (call (.ref 47) [u]) h (isL (isL isJ) (ordersOf js)) := by
  refine Pu.enter (binds := [(Str.ofString "jobs", u)]) (G.X _ _ (by k_is) rfl) rfl (G.code rfl (by rfl)) G.lim (hR.le (by decide)) (fun s _ => BindsTo.of_eq rfl) (by rfl) (by rfl) (by decide +kernel) fun h1 h2 L kb F => ?_
  have hh := hR.handled
  refine Ex.assign (P1 := isL (isL isJ) (ordersOf (js.take 0))) F (Ev.list (R := isL isJ) (EL.cons (Ev.list (R := isJ) EL.nil) EL.nil)) fun v1 h3 F3 _ _ p1 => ?_
  have g3 := G.at (kb.trans F3.kept.lg)
  have jobs := F3.var (P := isL isJ js) (x := Str.ofString "jobs") rfl (Mo.mo hu (kb.trans F3.kept.lg).stay)
  have big : js.length ≤ sizeLine := Nat.le_trans hsz (by decide)
  refine Ex.for_ (R := isI) (xs := rangeL 0 1 js.length) (by exact hh) F3 (Ev.itR (Ev.range (g3.bi (by k_is) (by boot_by_name)) (Ev.callB (g3.bi (by k_is) (by boot_by_name)) (EA.cons (jobs _) EA.nil) fun vs h' _ q => b_len big q) (Nat.le_trans hsz (by decide)))) (Wr _) (fun _ x => x) (fun _ w => F3.toFm.wrObj w)
    (fun i V h => ∃ vo, V (Str.ofString "orders") = some vo ∧ V (Str.ofString "jobs") = some u ∧ isL (isL isJ) (ordersOf (js.take i)) vo (lg c h))
    (fun h' k => ⟨v1, rfl, rfl, Mo.mo p1 k.lg.stay⟩) (fun i V h h' x s => let ⟨vo, e, e', q⟩ := x; ⟨vo, e, e', Mo.mo q s.lg.stay⟩) ?_ ?_
  · rintro i y v V1 g hy ⟨vo, e1, e2, q1⟩ hr F5 kb5 st5
    obtain ⟨hi, rfl⟩ := rangeL_at hy
    have hy2 : (0 : Int) + (i : Int) * 1 = (i : Int) := by omega
    rw [hy2] at hr
    obtain ⟨j, hj⟩ : ∃ j, js[i]? = some j := ⟨js[i], List.getElem?_eq_getElem hi⟩
    have orders := F5.var (P := isL (isL isJ) (ordersOf (js.take i))) (x := Str.ofString "orders") ((upd_ne (by decide)).trans e1) q1
    have g5 := G.at (kb.trans F5.kept.lg)
    have hu5 := Mo.mo hu (kb.trans F5.kept.lg).stay
    have hlen : ∀ o ∈ ordersOf (js.take i), o.length = i := fun o ho => by rw [len_of_ordersOf ho, List.length_take]; omega
    have hflat : ((ordersOf (js.take i)).flatMap fun o => (rangeL 0 1 (i + 1)).map fun p => o.take p.toNat ++ [j] ++ o.drop p.toNat) = ordersOf (js.take (i + 1)) := by
      rw [ordersOf_take_succ hj, rangeL_one]
      congr 1
      funext o
      rw [List.map_map]
      apply List.map_congr_left
      intro p _
      simp
    refine Ex.assignComp2 (R := isL isJ) (T := isI) (S := isL isJ) (xs := ordersOf (js.take i)) F5 (by exact hh) (orders _).itL (fun _ => rangeL 0 1 (i + 1)) (fun o p => o.take p.toNat ++ [j] ++ o.drop p.toNat)
      (fun o w C D m h1 ho ho' k hn hm => ?_) (fun o p w z C D m h1 ho hp ho' hp' k hn hm hm' => ?_) ?_ rfl fun v6 h6 F6 kb6 s6 p6 => ?_
    · exact Ev.itR (Ev.range ((g5.at k).bi (by k_is) (by boot_by_name)) (Pu.toI (Ev.add (F5.varC upd_eq hr k rfl rfl) .cint) (by omega)) (by omega))
    · have hol := hlen o ho
      obtain ⟨q, hq, hpq⟩ := rangeL_mem hp
      have hpn : p = ((p.toNat : Nat) : Int) := by omega
      have big2 : o.length ≤ sizeLine := by rw [hol]; exact Nat.le_trans (Nat.le_of_lt hi) big
      refine Ev.addL (Ev.addL (Pu.toL (Ev.slice (Ev.own hn hm ho') .none (.some (Ev.own hn hm' hp')) big2) (by rw [hpn]; exact pick_take _ _)) (Ev.list (R := isJ) (EL.cons (Ev.item (F5.varC (P := isL isJ js) ((upd_ne (by decide)).trans e2) hu5 k rfl rfl) (F5.varC (P := isI (i : Int)) upd_eq hr k rfl rfl) (by omega) (by omega) (by rw [Int.toNat_natCast]; exact hj)) EL.nil)) ?_)
        (Pu.toL (Ev.slice (Ev.own hn hm ho') (.some (Ev.own hn hm' hp')) .none big2) (by rw [hpn]; exact pick_drop _ _)) ?_
      · rw [List.length_take]; have : i ≤ 5 := by omega
        unfold sizeLine; simp; omega
      · rw [List.length_append, List.length_take, List.length_drop]; unfold sizeLine; simp; omega
    · rw [hflat, ordersOf_length]
      exact Nat.le_trans (fac_le _ (by rw [List.length_take]; omega)) (by decide)
    · refine Ex.nil ⟨_, F6, ⟨v6, upd_eq, (upd_ne (by decide)).trans ((upd_ne (by decide)).trans e2), ?_⟩, kb6⟩
      rw [hflat] at p6; exact p6
  · rintro V1 g ⟨vo, e1, e2, q1⟩ F5 kb5 st5
    rw [rangeL_len, List.take_length] at q1
    have orders := F5.var (P := isL (isL isJ) (ordersOf js)) e1 q1
    exact Ex.ret F5 (orders _)
end Mine
end

section
-- A4
open PySem PySem.W PyProof.Rows PySem.Spec PySem.Calls
set_option maxRecDepth 100000
set_option maxHeartbeats 8000000
namespace Mine
def base1 : List Int := [3, 20, 6, 5, 49, 2, 1, 0, 2, 7, 33, 2]
def sumK (ns : List Int) (k : Nat) : Int := (pick ns (some (k : Int)) none (some 12)).sum + base1.getD k 0
def kindN (ns : List Int) : Int := ns.sum.fmod 3
def moreN (ns : List Int) : Int × Int := if kindN ns = 0 then (0, 0) else if kindN ns = 1 then (50, 0) else (0, 50)
def jobK (ns : List Int) (i : Nat) : Job := ⟨(sumK ns (3 * i)).fmod 1009 + (moreN ns).1, if kindN ns > 0 then (sumK ns (3 * i + 1)).fmod 50 else 0, (sumK ns (3 * i + 2)).fmod 1009 + (moreN ns).2⟩
def jobsOf (ns : List Int) : List Job := (List.range 4).map (jobK ns)
abbrev isP2 (e : Int × Int) : VP := isT isI [e.1, e.2]
theorem kindN_lt (ns : List Int) : 0 ≤ kindN ns ∧ kindN ns < 3 := by
  unfold kindN
  exact ⟨Int.fmod_nonneg_of_pos _ (by decide), Int.fmod_lt_of_pos _ (by decide)⟩
def sumsL (ns : List Int) : List Int := (rangeL 0 1 12).map fun k => sumK ns k.toNat
theorem sumsL_at (ns : List Int) (j : Nat) (hj : j < 12) (k : Int) (hk : k = (j : Int)) : (sumsL ns)[k.toNat]? = some (sumK ns j) := by
  subst hk
  unfold sumsL
  rw [rangeL_one, Int.toNat_natCast, List.getElem?_map, List.getElem?_map, List.getElem?_range hj]
  simp
theorem c_jobs {c : Cx} {h : Heap} {mg mb : Str → Option Value} {u : Value} {ns : List Int} (hR : Room c.A 2) (hsz : ns.length ≤ sizeLine)
    (G : Pg (hdx.heap_39 c.w.params) [16, 61] mg mb h) (hu : isL isI ns u h) : Pu c (call (.ref 59) [u]) h (isL isJ (jobsOf ns)) := by
  refine Pu.enter (binds := [(Str.ofString "numbers", u)]) (G.X _ _ (by k_is) rfl) rfl (G.code rfl (by rfl)) G.lim (hR.le (by decide)) (fun s _ => BindsTo.of_eq rfl) (by rfl) (by rfl) (by decide +kernel) fun h1 h2 L kb F => ?_
  have hh := hR.handled
  refine Ex.assign (P1 := isL isI base1) F (Ev.list (R := isI) (xs := base1) (EL.cons .cint (EL.cons .cint (EL.cons .cint (EL.cons .cint (EL.cons .cint (EL.cons .cint (EL.cons .cint (EL.cons .cint (EL.cons .cint (EL.cons .cint (EL.cons .cint (EL.cons .cint EL.nil))))))))))))) (fun v1 h3 F3 _ _ p1 => ?_) (hs := by with_unfolding_all rfl)
  have g3 := G.at (kb.trans F3.kept.lg)
  have u3 := Mo.mo hu (kb.trans F3.kept.lg).stay
  refine Ex.assignComp0 (R := isI) (S := isI) (xs := rangeL 0 1 12) F3 (by exact hh) (Ev.itR (Ev.range (n := 12) (g3.bi (by k_is) (by boot_by_name)) .cint (by decide))) (fun k => sumK ns k.toNat) (fun y w C D m g hy hw k hn hm => ?_) (by rw [rangeL_len]; decide) rfl fun v2 h4 F4 _ s4 p2 => ?_
  · obtain ⟨q, hq, rfl⟩ := rangeL_mem hy
    have hy2 : (0 : Int) + (q : Int) * 1 = (q : Int) := by omega
    rw [hy2] at hw ⊢
    rw [Int.toNat_natCast]
    refine Ev.add (Ev.callB ((g3.at k).bi (by k_is) (by boot_by_name)) (EA.cons (Ev.sliceS (F3.varC (P := isL isI ns) rfl u3 k rfl rfl) (.some (Ev.own hn hm hw)) .none .cint (by decide) hsz) EA.nil) fun vs h' _ r => b_sum (by exact hh) r) (Ev.item (F3.varC (P := isL isI base1) rfl p1 k rfl rfl) (Ev.own hn hm hw) (by omega) (by omega) ?_)
    rw [Int.toNat_natCast]
    have : q < base1.length := hq
    rw [List.getD_eq_getElem?_getD, List.getElem?_eq_getElem this]; rfl
  have g4 := G.at (kb.trans F4.kept.lg)
  have u4 := Mo.mo hu (kb.trans F4.kept.lg).stay
  have numbers := F4.var (P := isL isI ns) (x := Str.ofString "numbers") rfl u4
  refine Ex.assign (P1 := isI (kindN ns)) F4 (Ev.mod (Ev.callB (g4.bi (by k_is) (by boot_by_name)) (EA.cons (numbers _) EA.nil) fun vs h' _ r => b_sum (by exact hh) r) .cint (by decide)) fun v3 h5 F5 _ s5 p3 => ?_
  have kind := F5.var (P := isI (kindN ns)) (x := Str.ofString "kind") rfl p3
  obtain ⟨kd0, kd3⟩ := kindN_lt ns
  refine Ex.assign (P1 := isP2 (moreN ns)) F5 (Ev.item (R := isP2) (xs := [(0, 0), (50, 0), (0, 50)]) (Ev.list (R := isP2) (EL.cons (Ev.tuple (R := isI) (EL.cons .cint (EL.cons .cint EL.nil))) (EL.cons (Ev.tuple (R := isI) (EL.cons .cint (EL.cons .cint EL.nil))) (EL.cons (Ev.tuple (R := isI) (EL.cons .cint (EL.cons .cint EL.nil))) EL.nil)))) (kind _) kd0 (by omega) ?_) fun v4 h6 F6 _ s6 p4 => ?_
  · unfold moreN
    rcases (show kindN ns = 0 ∨ kindN ns = 1 ∨ kindN ns = 2 by omega) with q | q | q <;> rw [q] <;> rfl
  refine Ex.assign (P1 := andC (isL isJ []) (isNew (lg _ h6))) F6 (Ev.listN (R := isJ) EL.nil) fun v5 h7 F7 kb7 s7 p5 => ?_
  obtain ⟨⟨D, vs, n, rfl, hD, ar⟩, hnew⟩ := p5
  have hD0 := new_below F6.kept hnew hD
  obtain rfl : vs = [] := List.length_eq_zero_iff.mp ar.len
  have FD := F7.hide (lg_sub _ _ hD) rfl
  have kbD := kept_hide kb hD0
  have sums7 := Mo.mo (Mo.mo p2 (s5.trans s6)) (stay_hide s7 hnew)
  have more7 := Mo.mo p4 (stay_hide s7 hnew)
  have gD := G.at (kbD.trans FD.kept.lg)
  refine Ex.of (Sx.unhide (D := D) (Sx.for_ (R := isI) (xs := rangeL 0 3 4) (by exact hh) FD (Ev.itR (Ev.callT (gD.bi (by k_is) (by boot_by_name)) (EA.cons .cint (EA.cons .cint (EA.cons .cint EA.nil))) fun vs h' _ r => b_range3 (by decide) (PyProof.noPylong_of_log2 (by decide +kernel)) (by decide) (by decide) r))
    (fun a => Wr _ a ∨ a = D) (fun _ => .inl) (fun a w => ?_)
    (fun i V g => V (Str.ofString "jobs") = some (.ref D) ∧ V (Str.ofString "sums") = some v2 ∧ V (Str.ofString "kind") = some v3 ∧ V (Str.ofString "more") = some v4 ∧ isL isI (sumsL ns) v2 (lg (c.hide D) g) ∧ isP2 (moreN ns) v4 (lg (c.hide D) g) ∧
      ∃ vs n, g.get? D = some { cls := .type "list", data := .seq vs.toArray n } ∧ Are isJ ((List.range i).map (jobK ns)) vs (lg (c.hide D) g)) ?_ ?_ ?_ ?_))
  · rcases w with w | rfl
    · obtain ⟨o, e, q⟩ := FD.toFm.wrObj w; exact ⟨o, e, .inl q⟩
    · exact ⟨_, lg_sub _ _ hD, .inr List.mem_cons_self⟩
  · exact fun g k => ⟨rfl, rfl, rfl, rfl, Mo.mo sums7 k.lg.stay, Mo.mo more7 k.lg.stay, [], n, k _ _ (lg_sub _ _ hD), Are.nil⟩
  · rintro i V g g' ⟨e1, e2, e3, e4, q1, q2, vs, m, hd, ar⟩ s
    exact ⟨e1, e2, e3, e4, Mo.mo q1 s.lg.stay, Mo.mo q2 s.lg.stay, vs, m, s _ _ hd rfl, ar.stay s.lg.stay⟩
  · rintro i y w V1 g hy ⟨e1, e2, e3, e4, q1, q2, vs, m, hd, ar⟩ hr F8 kb8 st8
    obtain ⟨hi, rfl⟩ := rangeL_at hy
    have sums := F8.var (P := isL isI (sumsL ns)) (x := Str.ofString "sums") ((upd_ne (by decide)).trans e2) q1
    have kind := F8.var (P := isI (kindN ns)) (x := Str.ofString "kind") ((upd_ne (by decide)).trans e3) p3
    have k := F8.var (P := isI (0 + (i : Int) * 3)) (x := Str.ofString "k") upd_eq hr
    refine Ex.assign (P1 := isI (jobK ns i).b) F8 (Pu.toI (Ev.ifI (Tst.gt (kind _) .cint) (fun _ => Ev.mod (Ev.item (sums _) (Ev.add (k _) .cint) (by omega) (by omega) (sumsL_at ns (3 * i + 1) (by omega) _ (by omega))) .cint (by decide)) fun _ => .cint) (by simp [jobK])) fun v9 g9 F9 kb9 s9 p9 => ?_
    have sums := F9.var (P := isL isI (sumsL ns)) (x := Str.ofString "sums") ((upd_ne (by decide)).trans ((upd_ne (by decide)).trans e2)) (Mo.mo q1 s9)
    have more := F9.var (P := isP2 (moreN ns)) (x := Str.ofString "more") ((upd_ne (by decide)).trans ((upd_ne (by decide)).trans e4)) (Mo.mo q2 s9)
    have k := F9.var (P := isI (0 + (i : Int) * 3)) (x := Str.ofString "k") ((upd_ne (by decide)).trans upd_eq) (Mo.mo hr s9)
    have middle := F9.var (P := isI (jobK ns i).b) (x := Str.ofString "middle") upd_eq p9
    have hd9 : g9.get? D = some { cls := .type "list", data := .seq vs.toArray m } := kb9 _ _ hd (F8.hid D List.mem_cons_self).1
    refine Ex.of (Sx.append (P1 := isJ (jobK ns i)) F9 hD0 ((upd_ne (by decide)).trans ((upd_ne (by decide)).trans e1)) hd9
      (Ev.tuple (R := isI) (EL.cons (Ev.add (Ev.mod (Ev.item (sums _) (k _) (by omega) (by omega) (sumsL_at ns (3 * i) (by omega) _ (by omega))) .cint (by decide)) (Ev.itemT (more _) .cint (by decide) (by decide) rfl)) (EL.cons (middle _)
        (EL.cons (Ev.add (Ev.mod (Ev.item (sums _) (Ev.add (k _) .cint) (by omega) (by omega) (sumsL_at ns (3 * i + 2) (by omega) _ (by omega))) .cint (by decide)) (Ev.itemT (more _) .cint (by decide) (by decide) rfl)) EL.nil))))
      ?_ fun v10 g10 F10 hd10 ko10 p10 => Ex.nil ⟨_, F10, ⟨(upd_ne (by decide)).trans ((upd_ne (by decide)).trans e1), (upd_ne (by decide)).trans ((upd_ne (by decide)).trans e2), (upd_ne (by decide)).trans ((upd_ne (by decide)).trans e3), (upd_ne (by decide)).trans ((upd_ne (by decide)).trans e4), ?_, ?_, vs ++ [v10], m + 1, ?_, ?_⟩, ?_⟩)
    · rw [List.size_toArray, ar.len, List.length_map, List.length_range]; unfold sizeLine; omega
    · exact Mo.mo q1 (s9.trans (kept_but ko10).stay)
    · exact Mo.mo q2 (s9.trans (kept_but ko10).stay)
    · rw [hd10, List.push_toArray]
    · rw [List.range_succ, List.map_append]
      exact (ar.stay (s9.trans (kept_but ko10).stay)).snoc p10
    · exact fun b o e w => ko10 b o (kb9 b o e fun z => w (.inl z)) fun z => w (.inr z)
  · rintro V1 g ⟨e1, e2, e3, e4, q1, q2, vs, m, hd, ar⟩ F8 kb8 st8
    have F8' := F8.unhide
    have hDX : D ∉ c.X := lg_not hD
    have jobs := F8'.var (P := isL isJ (jobsOf ns)) (x := Str.ofString "jobs") e1 ⟨D, vs, m, rfl, lg_get hd hDX, ar.stay lg_hide_sub.stay⟩
    exact Ex.ret F8' (jobs _)
end Mine
end

section
-- A5
open PySem PySem.W PyProof.Rows PySem.Spec PySem.Calls
set_option maxRecDepth 100000
set_option maxHeartbeats 8000000
namespace Mine
theorem foldl_take' {α β : Type} (f : β → α → β) (b : β) {xs : List α} {i : Nat} {y : α} (h : xs[i]? = some y) : (xs.take (i + 1)).foldl f b = f ((xs.take i).foldl f b) y := by
  rw [List.take_add_one, h, List.foldl_append]; rfl
theorem c_reduce {c : Cx} {h : Heap} {mg mb : Str → Option Value} {α β : Type} {R : α → VP} [∀ x, Mo (R x)] {S : β → VP} [∀ x, Mo (S x)] {f : Addr} {fo : Obj} {fd : FuncData} {u v : Value} {xs : List α} {b0 : β} (g : β → α → β) (hR : Room c.A 4)
    (G : Pg (hdx.heap_39 c.w.params) [16, 61] mg mb h) (hfo : h.get? f = some fo) (hfd : fo.data = .func fd)
    (hcall : ∀ (A : Around) h' u v b a, Room A 3 → Kept h h' → S b u h' → R a v h' → Pu { c with A := A } (call (.ref f) [u, v]) h' (S (g b a)))
    (hu : isL R xs u h) (hv : S b0 v h) (hv2 : ∃ t o, v = .ref t ∧ h.get? t = some o ∧ ∃ its n, o.data = .seq its n) : Pu c (call (.ref 30) [.ref f, u, v]) h (S (xs.foldl g b0)) := by
  refine Pu.enter (binds := [(Str.ofString "function", .ref f), (Str.ofString "sequence", u), (Str.ofString "initial", v)]) (G.X _ _ (by k_is) rfl) rfl (G.code rfl (by rfl)) G.lim (hR.le (by decide)) (fun s ks => BindsTo.of_defaults rfl (ks _ _ (G.X _ _ (by k_is) rfl)) rfl rfl rfl) (by rfl) (by rfl) (by decide +kernel) fun h1 h2 L kb F => ?_
  have hh := hR.handled
  have g2 := G.at (kb.trans F.kept.lg)
  have sequence := F.var (P := isL R xs) (x := Str.ofString "sequence") rfl (Mo.mo hu (kb.trans F.kept.lg).stay)
  refine Ex.assign' (P1 := fun v hp => isIter R xs 0 v hp ∧ isNew (lg c h2) v) F (Ev.callB (g2.bi (by k_is) (by boot_by_name)) (EA.cons (sequence _) EA.nil) fun vs h' k q => (b_iter q).mono fun _ _ _ z => ⟨z.1, z.2.low k⟩) fun w ha h3 k3 pp Fa kb3 F3 => ?_
  obtain ⟨it0, new0⟩ := pp
  have it3 := it0.kb Fa kb3
  obtain ⟨I, l, ws, oI, n, rfl, eI, rI⟩ := id it3
  have hI0 : h1.get? I = none := new_below F.kept new0 eI
  have g3 := G.at (kb.trans F3.kept.lg)
  have initial := F3.var (P := isV v) (x := Str.ofString "initial") rfl rfl
  obtain ⟨t, ot, rfl, et, its, m, hdt⟩ := hv2
  have e22 := g3.X _ _ (show (hdx.heap_39 c.w.params).lookup 22 = some _ by k_is) rfl
  refine Ex.ite F3 (Tst.isOther (initial _) (g3.gl (by k_is)) ((kb.trans F3.kept.lg) _ _ et) e22 (fun q => ?_) (by decide)) (fun q => nomatch q) (fun _ h4 k4 => ?_)
  · have := (kb.trans F3.kept.lg) _ _ et
    rw [q, e22] at this
    cases this; cases hdt
  have F4 := F3.at k4
  have initial := F4.var (P := S b0) (x := Str.ofString "initial") rfl (Mo.mo hv (kb.trans F4.kept.lg).stay)
  refine Ex.assign F4 (initial _) fun w5 h5 F5 kb5 s5 p5 => Ex.nil ?_
  have it5 := (it3.kb F3 k4.kb).kb F4 kb5
  have itv := F5.var (P := isV (.ref I)) (x := Str.ofString "it") rfl rfl
  refine Ex.of (Sx.forI (R := R) (xs := xs) (by exact hh) F5 (Nat.zero_le _) it5 hI0 (itv _)
    (fun i V h => V (Str.ofString "function") = some (.ref f) ∧ ∃ w, V (Str.ofString "value") = some w ∧ S ((xs.take i).foldl g b0) w (lg c h))
    (fun h' k => ⟨rfl, w5, rfl, Mo.mo p5 k.lg.stay⟩) (fun i V a b x s => let ⟨e, w, e', q⟩ := x; ⟨e, w, e', Mo.mo q s.lg.stay⟩) ?_ ?_)
  · rintro i y w V1 a hy ⟨e1, w', e2, q⟩ hr F6
    have function := F6.var (P := isV (.ref f)) (x := Str.ofString "function") ((upd_ne (by decide)).trans e1) rfl
    have value := F6.var (P := S ((xs.take i).foldl g b0)) (x := Str.ofString "value") ((upd_ne (by decide)).trans e2) q
    have element := F6.var (P := R y) (x := Str.ofString "element") upd_eq hr
    refine Ex.assign (P1 := S (g ((xs.take i).foldl g b0) y)) F6 (Ev.callF (function _) ((kb.trans F6.kept.lg) _ _ hfo) hfd (EA.cons (value _) (EA.cons (element _) EA.nil)) fun vs h' k z => ?_) fun w7 h7 F7 kb7 s7 p7 => Ex.nil ⟨_, F7, ⟨(upd_ne (by decide)).trans ((upd_ne (by decide)).trans e1), w7, upd_eq, ?_⟩, kb7⟩
    · obtain ⟨z1, z2, rfl, s1, s2⟩ := z.two
      exact hcall _ _ _ _ _ _ (hR.deeper _) ((kb.trans F6.kept.lg).trans k) s1 s2
    · rw [foldl_take' _ _ hy]; exact p7
  · rintro V1 a ⟨e1, w', e2, q⟩ F6
    rw [List.take_length] at q
    have value := F6.var (P := S (xs.foldl g b0)) (x := Str.ofString "value") e2 q
    exact Ex.ret F6 (value _)
end Mine
end

section
-- J4
open PySem PySem.W PyProof.Rows
set_option maxRecDepth 100000
namespace Mine
theorem runT_congr {α : Type} {lt lt' : Nat → Nat → Bool} {n : Nat} (hl : ∀ i j, i < n → j < n → lt i j = lt' i j) : ∀ t : KasT α, asksT n t = true → runT lt t = runT lt' t
  | .ret _, _ => rfl
  | .ask i j k, ha => by
    simp only [asksT, Bool.and_eq_true] at ha
    have e := hl i j (Nat.le_of_ble_eq_true ha.1) (Nat.le_of_ble_eq_true ha.2.1)
    show runT lt (k (lt i j)) = runT lt' (k (lt' i j))
    rw [← e]
    refine runT_congr hl _ ?_
    cases lt i j
    · exact ha.2.2.2
    · exact ha.2.2.1
theorem mem_digits {n : Nat} : ∀ (m : Nat) (l : List Nat), l.length = m → (∀ d ∈ l, d < n) → l ∈ digits n m
  | 0, l, hl, _ => by rw [List.eq_nil_of_length_eq_zero hl]; simp [digits]
  | m + 1, [], hl, _ => by simp at hl
  | m + 1, d :: l, hl, hd => by
    unfold digits
    rw [List.mem_flatMap]
    exact ⟨l, mem_digits m l (by simpa using hl) (fun x hx => hd x (by simp [hx])), List.mem_map.mpr ⟨d, List.mem_range.mpr (hd d (by simp)), rfl⟩⟩
/-- the rank: how many are before i -/
def rank (n : Nat) (lt : Nat → Nat → Bool) (i : Nat) : Nat := (List.range n).countP fun k => lt k i
structure Weak (n : Nat) (lt : Nat → Nat → Bool) : Prop where
  asym : ∀ i j, i < n → j < n → lt i j = true → lt j i = false
  neg : ∀ i j k, i < n → j < n → k < n → lt i j = true → lt i k = true ∨ lt k j = true
theorem countP_lt {p q : Nat → Bool} : ∀ (l : List Nat), (∀ x ∈ l, p x = true → q x = true) → (∃ x ∈ l, q x = true ∧ p x = false) → l.countP p < l.countP q
  | [], _, h => by obtain ⟨x, hx, _⟩ := h; simp at hx
  | a :: l, hpq, h => by
    have hle : l.countP p ≤ l.countP q := List.countP_mono_left fun x hx hp => hpq x (by simp [hx]) hp
    rw [List.countP_cons, List.countP_cons]
    obtain ⟨x, hx, hq, hp⟩ := h
    rcases List.mem_cons.mp hx with rfl | hx
    · simp [hq, hp]; omega
    · have := countP_lt l (fun y hy => hpq y (by simp [hy])) ⟨x, hx, hq, hp⟩
      have : (if p a = true then 1 else 0) ≤ (if q a = true then 1 else 0 : Nat) := by
        by_cases h1 : p a = true
        · rw [if_pos h1, if_pos (hpq a (by simp) h1)]; exact Nat.le_refl _
        · rw [if_neg h1]; exact Nat.zero_le _
      omega
theorem rank_lt {n : Nat} {lt : Nat → Nat → Bool} (h : Weak n lt) {i j : Nat} (hi : i < n) (hj : j < n) : lt i j = decide (rank n lt i < rank n lt j) := by
  unfold rank
  have irr : lt i i = false := by
    cases q : lt i i with
    | false => rfl
    | true => have := h.asym i i hi hi q; rw [q] at this; cases this
  cases e : lt i j with
  | true =>
    symm
    rw [decide_eq_true_iff]
    refine countP_lt _ (fun k hk hki => ?_) ⟨i, List.mem_range.mpr hi, e, irr⟩
    rcases h.neg k i j (List.mem_range.mp hk) hi hj hki with q | q
    · exact q
    · rw [h.asym i j hi hj e] at q; cases q
  | false =>
    symm
    rw [decide_eq_false_iff_not]
    refine Nat.not_lt.mpr (List.countP_mono_left fun k hk hkj => ?_)
    rcases h.neg k j i (List.mem_range.mp hk) hj hi hkj with q | q
    · exact q
    · rw [e] at q; cases q
theorem rank_small {n : Nat} {lt : Nat → Nat → Bool} (h : Weak n lt) {i : Nat} (hi : i < n) : rank n lt i < n := by
  have irr : lt i i = false := by
    cases q : lt i i with
    | false => rfl
    | true => have := h.asym i i hi hi q; rw [q] at this; cases this
  have := countP_lt (p := fun k => lt k i) (q := fun _ => true) (List.range n) (fun _ _ _ => rfl) ⟨i, List.mem_range.mpr hi, rfl, irr⟩
  simpa [rank] using this
theorem rises_pairwise {r : Nat → Nat} : ∀ {l : List Nat}, risesB r l = true → l.Pairwise fun x y => r x < r y ∨ (r x = r y ∧ x < y)
  | [], _ => List.Pairwise.nil
  | x :: l, h => by
    simp only [risesB, Bool.and_eq_true, List.all_eq_true, Bool.or_eq_true] at h
    refine List.pairwise_cons.mpr ⟨fun y hy => ?_, rises_pairwise h.2⟩
    rcases h.1 y hy with q | ⟨q1, q2⟩
    · exact .inl (Nat.le_of_ble_eq_true q)
    · exact .inr ⟨Nat.eq_of_beq_eq_true q1, Nat.le_of_ble_eq_true q2⟩
theorem okSort_all {n : Nat} (h2 : 2 ≤ n) (hn : n ≤ 5) {l : List Nat} (hl : l.length = n) (hd : ∀ d ∈ l, d < n) (hc : canonB l l = true) : okSort n l = true ∧ asksT n (kas_sort n) = true := by
  have hm := mem_sift (p := fun l => canonB l l) hc (mem_digits n l hl hd)
  have : n = 2 ∨ n = 3 ∨ n = 4 ∨ n = 5 := by omega
  rcases this with rfl | rfl | rfl | rfl
  · exact ⟨okT_ok _ _ sort2 hm, asks5.1⟩
  · exact ⟨okT_ok _ _ sort3 hm, asks5.2.1⟩
  · exact ⟨okT_ok _ _ sort4 hm, asks5.2.2.1⟩
  · exact ⟨okT_ok _ _ sort5 hm, asks5.2.2.2⟩
/-- what a sort of n <= 5 does under a weak order -/
theorem sortPerm_ok {n : Nat} {lt : Nat → Nat → Bool} (hn : n ≤ 5) (h : Weak n lt) : (sortPerm n lt).Perm (List.range n) ∧ (sortPerm n lt).Pairwise fun x y => lt x y = true ∨ (lt y x = false ∧ x < y) := by
  by_cases h2 : n < 2
  · unfold sortPerm
    rw [if_pos h2]
    refine ⟨List.Perm.refl _, ?_⟩
    have : n = 0 ∨ n = 1 := by omega
    rcases this with rfl | rfl
    · exact List.Pairwise.nil
    · simp [List.range_succ]
  · have hg : ∀ i, i < n → ((List.range n).map (rank n lt)).getD i 0 = rank n lt i := fun i hi => by simp [List.getD, hi]
    have ok := okSort_all (n := n) (l := (List.range n).map (rank n lt)) (by omega) hn (by simp) (fun d hd => by
      obtain ⟨i, hi, rfl⟩ := List.mem_map.mp hd
      exact rank_small h (List.mem_range.mp hi))
      (canon_mem fun x hx => by
        obtain ⟨i, hi, rfl⟩ := List.mem_map.mp hx
        rw [cnt_map]
        refine List.countP_congr fun k hk => ?_
        rw [rank_lt h (List.mem_range.mp hk) (List.mem_range.mp hi), decide_eq_true_iff]
        exact ⟨fun q => Nat.le_of_ble_eq_true q, fun q => Nat.ble_eq_true_of_le q⟩)
    have e : sortPerm n lt = (runT (fun i j => Nat.blt (((List.range n).map (rank n lt)).getD i 0) (((List.range n).map (rank n lt)).getD j 0)) (kas_sort n)).toList := by
      unfold sortPerm
      rw [if_neg h2, runT_congr (fun i j hi hj => ?_) _ ok.2]
      rw [hg i hi, hg j hj, rank_lt h hi hj]
      by_cases q : rank n lt i < rank n lt j
      · rw [decide_eq_true q]; exact (Nat.ble_eq_true_of_le q).symm
      · rw [decide_eq_false q]
        cases z : Nat.blt (rank n lt i) (rank n lt j) with
        | false => rfl
        | true => exact absurd (Nat.le_of_ble_eq_true z) q
    have o := ok.1
    unfold okSort at o
    simp only [Bool.and_eq_true] at o
    rw [← e] at o
    have hp := List.isPerm_iff.mp o.2
    refine ⟨hp, ?_⟩
    have hr := rises_pairwise o.1
    refine List.Pairwise.imp_of_mem (fun {x y} hx hy q => ?_) hr
    have hx' := List.mem_range.mp (hp.mem_iff.mp hx)
    have hy' := List.mem_range.mp (hp.mem_iff.mp hy)
    rw [hg x hx', hg y hy'] at q
    rcases q with q | ⟨q1, q2⟩
    · left; rw [rank_lt h hx' hy']; exact decide_eq_true q
    · right; refine ⟨?_, q2⟩; rw [rank_lt h hy' hx', q1]; simp
end Mine
end

section
-- J5
open PySem PySem.W PyProof.Rows
set_option maxRecDepth 100000
namespace Mine
theorem ruleZ_eq (x y : Job) : ruleZ x y = x.rule y := by
  unfold ruleZ kindZ Job.rule Job.p Job.q
  by_cases h1 : x.a + x.b < x.b + x.c <;> by_cases h2 : y.a + y.b < y.b + y.c <;> simp [h1, h2]
theorem rule_asym {x y : Job} (h : ruleZ x y < 0) : ¬ ruleZ y x < 0 := by
  unfold ruleZ kindZ at *
  by_cases h1 : x.a + x.b < x.b + x.c <;> by_cases h2 : y.a + y.b < y.b + y.c <;> simp [h1, h2] at h ⊢ <;> omega
theorem rule_neg {x y z : Job} (h : ruleZ x y < 0) : ruleZ x z < 0 ∨ ruleZ z y < 0 := by
  unfold ruleZ kindZ at *
  by_cases h1 : x.a + x.b < x.b + x.c <;> by_cases h2 : y.a + y.b < y.b + y.c <;> by_cases h3 : z.a + z.b < z.b + z.c <;> simp [h1, h2, h3] at h ⊢ <;> omega
theorem lawLt_at {js : List Job} {i j : Nat} (hi : i < js.length) (hj : j < js.length) : lawLt js i j = decide (ruleZ js[i] js[j] < 0) := by
  unfold lawLt
  rw [List.getElem?_eq_getElem hi, List.getElem?_eq_getElem hj]
theorem law_weak {js : List Job} {n : Nat} (hn : n ≤ js.length) : Weak n (lawLt js) := by
  refine ⟨fun i j hi hj h => ?_, fun i j k hi hj hk h => ?_⟩
  · rw [lawLt_at (by omega) (by omega)] at h ⊢
    exact decide_eq_false (rule_asym (of_decide_eq_true h))
  · rw [lawLt_at (by omega) (by omega)] at h ⊢
    rw [lawLt_at (by omega) (by omega)]
    rcases rule_neg (z := js[k]) (of_decide_eq_true h) with q | q
    · exact .inl (decide_eq_true q)
    · exact .inr (decide_eq_true q)
theorem permL_perm {α : Type} {p q : List Nat} (xs : List α) (h : p.Perm q) : (permL p xs).Perm (permL q xs) := h.filterMap _
theorem filterMap_eq {α β : Type} {f g : α → Option β} : ∀ {l : List α}, (∀ x ∈ l, f x = g x) → l.filterMap f = l.filterMap g
  | [], _ => rfl
  | x :: l, h => by rw [List.filterMap_cons, List.filterMap_cons, h x (by simp), filterMap_eq fun y hy => h y (by simp [hy])]
theorem permL_take {α : Type} (xs : List α) {n : Nat} (hn : n ≤ xs.length) : permL (List.range n) xs = xs.take n := by
  have := permL_range (xs.take n)
  rw [List.length_take, Nat.min_eq_left hn] at this
  rw [← this]
  unfold permL
  refine filterMap_eq fun i hi => ?_
  rw [List.getElem?_take, if_pos (List.mem_range.mp hi)]
theorem permL_pairwise {α : Type} {R : α → α → Prop} {S : Nat → Nat → Prop} {xs : List α} {p : List Nat} (hp : p.Pairwise S) (h : ∀ i j x y, i ∈ p → j ∈ p → S i j → xs[i]? = some x → xs[j]? = some y → R x y) : (permL p xs).Pairwise R := by
  unfold permL
  rw [List.pairwise_filterMap]
  exact List.Pairwise.imp_of_mem (fun {a b} ha hb s x hx y hy => h a b x y ha hb s hx hy) hp
theorem law_best {js : List Job} {n : Nat} (hn : n ≤ 5) (hnj : n ≤ js.length) (nn : NonNeg js) (dd : Dom js) : mk (permL (sortPerm n (lawLt js)) js) = minL ((ordersOf (js.take n)).map lenB) := by
  obtain ⟨hp, hr⟩ := sortPerm_ok hn (law_weak (n := n) hnj)
  have hmem : ∀ i ∈ sortPerm n (lawLt js), i < js.length := fun i hi => Nat.lt_of_lt_of_le (List.mem_range.mp (hp.mem_iff.mp hi)) hnj
  have hσ : (permL (sortPerm n (lawLt js)) js).Perm (js.take n) := by rw [← permL_take js hnj]; exact permL_perm js hp
  have hsub : ∀ {l : List Job}, l.Perm (js.take n) → ∀ x ∈ l, x ∈ js := fun h x hx => List.mem_of_mem_take (h.mem_iff.mp hx)
  have nnl : ∀ {l : List Job}, l.Perm (js.take n) → NonNeg l := fun h x hx => nn x (hsub h x hx)
  have pw : (permL (sortPerm n (lawLt js)) js).Pairwise fun x y => 0 ≤ y.rule x := by
    refine permL_pairwise hr fun i j x y hi hj s hx hy => ?_
    have hi' := hmem i hi
    have hj' := hmem j hj
    rw [List.getElem?_eq_getElem hi'] at hx
    rw [List.getElem?_eq_getElem hj'] at hy
    cases hx; cases hy
    rw [← ruleZ_eq]
    rw [lawLt_at hi' hj', lawLt_at hj' hi'] at s
    rcases s with s | ⟨s, _⟩
    · exact Int.not_lt.mp (rule_asym (of_decide_eq_true s))
    · exact Int.not_lt.mp (of_decide_eq_false s)
  have best : ∀ π ∈ ordersOf (js.take n), mk (permL (sortPerm n (lawLt js)) js) ≤ lenB π := fun π hπ => by
    have h1 := (mem_ordersOf _ π).mp hπ
    rw [← mk_eq_lenB π (nnl h1)]
    exact johnson (hσ.trans h1.symm) pw (nnl hσ) (dd.sub (hsub hσ))
  have self : mk (permL (sortPerm n (lawLt js)) js) ∈ (ordersOf (js.take n)).map lenB := by
    rw [mk_eq_lenB _ (nnl hσ)]
    exact List.mem_map.mpr ⟨_, (mem_ordersOf _ _).mpr hσ, rfl⟩
  have hle : ∀ y ∈ (ordersOf (js.take n)).map lenB, mk (permL (sortPerm n (lawLt js)) js) ≤ y := fun y hy => by
    obtain ⟨π, hπ, rfl⟩ := List.mem_map.mp hy
    exact best π hπ
  generalize (ordersOf (js.take n)).map lenB = L at self hle
  cases L with
  | nil => simp at self
  | cons x r =>
    obtain ⟨m1, m2⟩ := foldl_min r x
    exact Int.le_antisymm (hle _ m1) (m2 _ self)
theorem law_stab {js : List Job} {n i j : Nat} (hn : n ≤ 5) (hnj : n ≤ js.length) (hij : i < j) (hj : j < n) (h0 : ruleZ (js[i]'(by omega)) (js[j]'(by omega)) = 0) : ¬ (sortPerm n (lawLt js)).idxOf j < (sortPerm n (lawLt js)).idxOf i := by
  obtain ⟨hp, hr⟩ := sortPerm_ok hn (law_weak (n := n) hnj)
  intro hlt
  have hi' : i ∈ sortPerm n (lawLt js) := hp.mem_iff.mpr (List.mem_range.mpr (by omega))
  have hj' : j ∈ sortPerm n (lawLt js) := hp.mem_iff.mpr (List.mem_range.mpr hj)
  have li := List.idxOf_lt_length_iff.mpr hi'
  have lj := List.idxOf_lt_length_iff.mpr hj'
  have := List.pairwise_iff_getElem.mp hr _ _ lj li hlt
  rw [List.getElem_idxOf li, List.getElem_idxOf lj] at this
  rcases this with q | ⟨_, q⟩
  · rw [lawLt_at (by omega) (by omega)] at q
    have q := of_decide_eq_true q
    unfold ruleZ kindZ at h0 q
    by_cases h1 : js[i].a + js[i].b < js[i].b + js[i].c <;> by_cases h2 : js[j].a + js[j].b < js[j].b + js[j].c <;> simp [h1, h2] at h0 q <;> omega
  · omega
end Mine
end

section
-- J6
open PySem PySem.W PyProof.Rows
set_option maxRecDepth 100000
namespace Mine
theorem mem_jobsOf {ns : List Int} {x : Job} (h : x ∈ jobsOf ns) : ∃ i, x = jobK ns i := by
  obtain ⟨i, _, rfl⟩ := List.mem_map.mp h
  exact ⟨i, rfl⟩
theorem jobK_bounds (ns : List Int) (i : Nat) : (moreN ns).1 ≤ (jobK ns i).a ∧ 0 ≤ (jobK ns i).b ∧ (moreN ns).2 ≤ (jobK ns i).c ∧ (jobK ns i).b < 50 ∧ (kindN ns = 0 → (jobK ns i).b = 0) := by
  have h1 : 0 ≤ (sumK ns (3 * i)).fmod 1009 := Int.fmod_nonneg_of_pos _ (by decide)
  have h2 : 0 ≤ (sumK ns (3 * i + 2)).fmod 1009 := Int.fmod_nonneg_of_pos _ (by decide)
  have h3 : 0 ≤ (sumK ns (3 * i + 1)).fmod 50 := Int.fmod_nonneg_of_pos _ (by decide)
  have h4 : (sumK ns (3 * i + 1)).fmod 50 < 50 := Int.fmod_lt_of_pos _ (by decide)
  have h5 := (kindN_lt ns).1
  unfold jobK
  dsimp only
  refine ⟨by omega, ?_, by omega, ?_, ?_⟩
  · split <;> omega
  · split <;> omega
  · intro h; rw [if_neg (by omega)]
theorem moreN_nn (ns : List Int) : 0 ≤ (moreN ns).1 ∧ 0 ≤ (moreN ns).2 := by
  unfold moreN
  by_cases h0 : kindN ns = 0
  · simp [h0]
  · by_cases h1 : kindN ns = 1 <;> simp [h0, h1]
theorem jobs_nn (ns : List Int) : NonNeg (jobsOf ns) := fun x hx => by
  obtain ⟨i, rfl⟩ := mem_jobsOf hx
  have := jobK_bounds ns i
  have := moreN_nn ns
  omega
theorem jobs_dom (ns : List Int) : Dom (jobsOf ns) := by
  have hk := kindN_lt ns
  by_cases h0 : kindN ns = 0
  · left; intro x hx y hy
    obtain ⟨i, rfl⟩ := mem_jobsOf hx
    obtain ⟨j, rfl⟩ := mem_jobsOf hy
    have h1 := jobK_bounds ns i
    have h2 := jobK_bounds ns j
    have h3 := moreN_nn ns
    have := h1.2.2.2.2 h0
    omega
  · by_cases h1 : kindN ns = 1
    · have e : (moreN ns).1 = 50 := by unfold moreN; rw [if_neg h0, if_pos h1]
      left; intro x hx y hy
      obtain ⟨i, rfl⟩ := mem_jobsOf hx
      obtain ⟨j, rfl⟩ := mem_jobsOf hy
      have h1 := jobK_bounds ns i
      have h2 := jobK_bounds ns j
      omega
    · have e : (moreN ns).2 = 50 := by unfold moreN; rw [if_neg h0, if_neg h1]
      right; intro x hx y hy
      obtain ⟨i, rfl⟩ := mem_jobsOf hx
      obtain ⟨j, rfl⟩ := mem_jobsOf hy
      have h1 := jobK_bounds ns i
      have h2 := jobK_bounds ns j
      omega
end Mine
end

section
-- PL17
open PySem PySem.W PyProof.Rows PySem.Spec PySem.Calls
set_option maxRecDepth 100000
namespace Mine
section
variable {c : Cx} {h : Heap} {env : Env} {P : VP}
/-- a and b, as a test -/
theorem Tst.and2 {x y : Expr} {p : Pos} {a b : Bool} (hx : Tst c env x h a) (hy : a = true → Tst c env y h b) : Tst c env (.BoolOp .And [x, y] p) h (a && b) := Pu.mk fun h1 tk Q E l hq =>
  isTrue_and (hx h1 tk _ E l fun v h2 tk2 k2 e => by
    subst e
    cases v with
    | false => exact hq false h2 tk2 k2 rfl
    | true =>
      refine isTrue_and (hy rfl h2 tk2 _ E (l.trans k2) fun w h3 tk3 k3 e => ?_)
      subst e
      cases w with
      | false => exact hq false h3 tk3 (k2.trans k3) rfl
      | true => exact isTrue_and_nil (hq true h3 tk3 (k2.trans k3) rfl))
/-- [] != [] -/
theorem ne_nil {α : Type} {R : α → VP} {β : Type} {S : β → VP} {u v : Value} (hu : isL R [] u h) (hv : isL S [] v h) (hr : c.A.units < cLine) : Pu c (compareOp .NotEq u v) h (isB false) := Pu.mk fun h1 tk Q E l hq => by
  obtain ⟨a, vs, rfl, ha, ra⟩ := hu.list
  obtain ⟨b, ws, rfl, hb, rb⟩ := hv.list
  have e1 : vs = [] := List.eq_nil_of_length_eq_zero ra.len
  have e2 : ws = [] := List.eq_nil_of_length_eq_zero rb.len
  subst e1 e2
  have ha' : h1.IsList a ([] : List Value).toArray := let ⟨o, e, q⟩ := ha; ⟨o, l.top _ _ e, q⟩
  have hb' : h1.IsList b ([] : List Value).toArray := let ⟨o, e, q⟩ := hb; ⟨o, l.top _ _ e, q⟩
  exact (SeqAt.RcNeAt.lists (s := c.sh h1 tk) (e := fun _ => true) ha' hb' rfl hr (fun j hj => absurd hj (by simp))) c.prog c.w E Q (hq _ h1 tk (Kept.refl _) rfl)
/-- l.index(k) -/
theorem b_index {xs : List Int} {k : Int} {u v : Value} (hu : isL isI xs u h) (hv : isI k v h) (hk : k ∈ xs) (hlen : xs.length ≤ 100) : Pu c (call (.builtin "list.index") [u, v]) h (isI (xs.idxOf k : Nat)) := Pu.mk fun h1 tk Q E l hq => by
  obtain ⟨a, vs, rfl, ha, ra⟩ := hu.list
  obtain ⟨t, rfl⟩ := hv
  have hl : (c.sh h1 tk).heap.IsList a vs.toArray := let ⟨o, e, q⟩ := ha; ⟨o, l.top _ _ e, q⟩
  have hi : IntsAre vs xs := by
    have : ∀ {xs : List Int} {vs : List Value}, Are isI xs vs h → IntsAre vs xs := by
      intro xs
      induction xs with
      | nil => intro vs a; cases vs with
        | nil => exact .nil
        | cons _ _ => have := a.len; simp at this
      | cons x xs ih =>
        intro vs a
        obtain ⟨v, vs', rfl, ⟨t, rfl⟩, q⟩ := a.uncons
        exact .cons _ _ (ih q)
    exact this ra
  obtain ⟨⟨cls, dd, data, sl⟩, ho, hc, n, hd⟩ := id hl
  simp only at hc hd
  subst hc hd
  have hlen' := hi.length
  have hj : xs.idxOf k < xs.length := List.idxOf_lt_length_iff.mpr hk
  refine call_meets PySem.F.slot_list_index ⟨_, ho, rfl⟩ PySem.F.entry_list_index (PySem.F.args_list_index_2 _ _)
    (SeqAt.list_indexAt a vs.toArray n dd sl (.int k t) (isInt k) (xs.idxOf k) (by simpa [hlen'] using hj) (by omega) ?_ ?_) ⟨ho, fun y hy => (eq_isInt k t hi y (by simpa using hy)).at _ _, hq _ h1 (tk + 1) (Kept.refl _) ⟨_, rfl⟩⟩
  · show isInt k vs[xs.idxOf k] = true
    rw [isInt_at k hi _ (by omega) hj]
    simpa using List.getElem_idxOf hj
  · intro j hjs hlt
    show isInt k vs[j] = false
    rw [isInt_at k hi j (by simpa using hjs) (by omega)]
    exact ne_of_lt_idxOf hlt _
/-- l.index(e) as an expression -/
theorem Ev.index {o e : Expr} {apos pos : Pos} {xs : List Int} {k : Int} (ho : Ev c env o h (isL isI xs)) (he : Ev c env e h (isI k)) (hk : k ∈ xs) (hlen : xs.length ≤ 100) (pl : Sem Bool)
    (hs : starEach [e] env = [(false, eval e env)] := by rfl)
    (hm : eval (.Call (.Attribute o (Str.ofString "index") apos) [e] [] pos) env = (do
      let ov ← eval o env
      standAt apos.atName
      let (f, first) ← holding [ov] (getMethod ov (Str.ofString "index") pl)
      callWith pos f first (backTo pos (starEach [e] env)) []) := by rfl) : Ev c env (.Call (.Attribute o (Str.ofString "index") apos) [e] [] pos) h (isI (xs.idxOf k : Nat)) := Pu.mk fun h1 tk Q E l hq => by
  refine MethodCall_ (pl := pl) (ho h1 tk _ E l fun u h2 tk2 k2 pu => ?_) hm
  obtain ⟨a, vs, n, rfl, ea, ra⟩ := id pu
  refine getMethod_builtin (s := c.sh h2 tk2) ⟨_, lg_sub _ _ ea, rfl⟩ PySem.F.plainAttrs_list PySem.F.slot_list_index PySem.F.type_list_index (fun b q => by cases q; exact ⟨_, lg_sub _ _ ea, rfl⟩) ?_
  refine callWith_method1 ?_ (by rw [hs]; rfl) (by rfl)
  refine args_cons (he h2 tk2 _ E (l.trans k2) fun v h3 tk3 k3 pv => args_nil ?_) hs
  exact b_index (Mo.mo pu k3.lg.stay) pv hk hlen h3 tk3 Q E (l.trans (k2.trans k3)).lg fun w h4 tk4 k4 p4 => hq w h4 tk4 ((k2.trans k3).trans k4) p4
end
end Mine
end

section
-- PL18
open PySem PySem.W PyProof.Rows PySem.Spec PySem.Calls
set_option maxRecDepth 100000
namespace Mine
section
variable {c : Cx} {h : Heap} {P : VP}
theorem Fm.low {h0 h1 h : Heap} {env : Env} {V : Vs} (F : Fm h1 env h V) (k : Kept h0 h1) : Fm h0 env h V := by
  have hn : ∀ {a : Addr}, h1.get? a = none → h0.get? a = none := fun {a} e => by
    cases q : h0.get? a with
    | none => rfl
    | some o => have := k _ _ q; rw [e] at this; cases this
  exact ⟨F.kind, F.loc, k.trans F.kept, hn F.newL, F.cell, F.apart, fun n a e => hn (F.newC n a e), F.ne, F.kinds, F.mem⟩
/-- entry of a def from an actual heap, over a base h0 -/
theorem enter_at {name qual : Str} {params : Arguments} {body : List Stmt} {scope : Scope} {dV kV doc pm cdv ct : Value} {an : Option Addr} {fo : Obj} {f : Addr} {vs : List Value} {binds : List (Str × Value)} {h0 h1 : Heap} {tk : Nat} {Q : Value → Shared → Prop} {E : Value → Shared → Prop}
    (hX : c.X = []) (k0 : Kept h0 h1) (ho : h1.get? f = some fo) (hd : fo.data = .func (fnX name qual params body scope [] dV kV doc pm an cdv ct)) (hcd : h1.CodeRec cdv qual) (hlim : h1.NoLimit) (hroom : Room c.A 1)
    (hbind : ∀ s : Shared, Kept h1 s.heap → BindsTo s (fnX name qual params body scope [] dV kV doc pm an cdv ct) ⟨vs, []⟩ binds)
    (hkind : (binds.all fun y => scope.names.lookup y.1 == some .local || scope.names.lookup y.1 == some .cell) = true)
    (hck : (((cellsFrom 0 scope.names []).map (·.1)).all fun n => scope.names.lookup n == some .cell) = true) (hnd : ((cellsFrom 0 scope.names []).map (·.1)).Nodup)
    (hb : ∀ h2 L, Kept h1 h2 → Fx { c with A := c.A.deeper (envOfC qual scope L f cdv) } h0 (envOfC qual scope L f cdv) h2 (Vof binds) → (∀ a, Wr (envOfC qual scope L f cdv) a → h1.get? a = none) →
      Ex { c with A := c.A.deeper (envOfC qual scope L f cdv) } (envOfC qual scope L f cdv) h0 body h2 (fun _ => False) P)
    (hq : ∀ v h3 tk3, Kept h0 h3 → P v (lg c h3) → Q v (c.sh h3 tk3))
    (hco : scope.isCoroutine = false := by rfl) (hgen : scope.isGenerator = false := by rfl) (hk : scope.kind = .function := by rfl) : wpAny c.M c.A (call (.ref f) vs) Q E (c.sh h1 tk) := by
  refine wpAny_call ?_
  refine codeAny_call_function (s := c.sh h1 tk) (Nat.lt_of_succ_lt (hroom.depth : c.A.depth + 1 < recursionLimit)) ho hd hco hgen rfl hcd (hbind (c.sh h1 tk) (Kept.refl h1) _ _ _ _ ?_)
  refine wpAny_newFunctionEnv_cells hk (kindsX hkind _) fun env' he s' x => ?_
  subst he
  have hk1 := x.toInCall.keep
  refine ⟨hlim.keeps hk1, codeAny_func ?_⟩
  obtain ⟨h2, tk2, rfl, _⟩ := x.done
  have F : Fm h1 (envOfC qual scope (c.sh h1 tk).heap.objs.size f cdv) h2 (Vof binds) := by
    have hb : ∀ n a, (cellsFrom ((c.sh h1 tk).heap.objs.size + 1) scope.names []).lookup n = some a → (c.sh h1 tk).heap.objs.size < a := fun n a e => x.above n a (mem_of_lookup e)
    refine ⟨hk, ⟨_, x.toInCall.ns, fun y hy => ?_⟩, x.toInCall.keep, Heap.get?_none_of_le (Nat.le_refl _), fun n a e => ?_, x.apart, fun n a e => Heap.get?_none_of_le (Nat.le_of_lt (hb n a e)), fun n a e => Nat.ne_of_gt (hb n a e), cellsFrom_kinds hck,
      fun n a e => lookup_of_mem_nodup (cellsFrom_names scope.names 0 ((c.sh h1 tk).heap.objs.size + 1) [] [] rfl ▸ hnd) e⟩
    · exact bindL_V binds _ _ (fun _ _ => rfl) y hy
    · have := x.cell n a e
      have hkn := cellsFrom_kinds hck n a e
      rwa [bindC_V binds _ _ (fun _ _ => rfl) n (by intro q; have q' : scope.names.lookup n = some .local := q; rw [hkn] at q'; cases q')] at this
  refine hb h2 _ hk1 ⟨F.low k0, fun x hx => by rw [show c.X = [] from hX] at hx; cases hx⟩ (fun a w => F.newWr w) tk2 _ _ (fun _ _ q => q.elim) (fun v h3 tk3 k3 p => ?_)
  exact hq v h3 tk3 k3 p
end
end Mine
end

section
-- A9
open PySem PySem.W PyProof.Rows PySem.Spec PySem.Calls
set_option maxRecDepth 100000
set_option maxHeartbeats 8000000
namespace Mine
theorem sp_lt {js : List Job} {n : Nat} (hn : n ≤ 5) (hnj : n ≤ js.length) : ∀ i ∈ sortPerm n (lawLt js), i < n := fun i h => List.mem_range.mp ((sortPerm_ok hn (law_weak hnj)).1.mem_iff.mp h)
theorem permL_map {α : Type} {p : List Nat} {xs : List α} {f : Nat → α} (h : ∀ i ∈ p, xs[i]? = some (f i)) : permL p xs = p.map f := by
  unfold permL
  rw [filterMap_eq h, ← List.filterMap_eq_map]
  rfl
theorem permL_int {p : List Nat} {n : Nat} (h : ∀ i ∈ p, i < n) : permL p (rangeL 0 1 n) = p.map fun i : Nat => (i : Int) :=
  permL_map fun i hi => by rw [rangeL_one, List.getElem?_map, List.getElem?_range (h i hi)]; rfl
theorem permL_js {p : List Nat} {js : List Job} (h : ∀ i ∈ p, i < js.length) : permL p js = (p.map fun i : Nat => (i : Int)).map fun k => js.getD k.toNat ⟨0, 0, 0⟩ := by
  rw [List.map_map]
  exact permL_map fun i hi => by
    rw [List.getElem?_eq_getElem (h i hi)]
    simp [h i hi]
theorem idxOf_cast (p : List Nat) (k : Nat) : (p.map fun i : Nat => (i : Int)).idxOf (k : Int) = p.idxOf k := by
  induction p with
  | nil => rfl
  | cons x p ih =>
    rw [List.map_cons, List.idxOf_cons, List.idxOf_cons, ih]
    by_cases q : x = k
    · subst q; simp
    · have : ((x : Int) == (k : Int)) = false := by simp; omega
      have r : (x == k) = false := by simpa using q
      rw [this, r]
abbrev lp01 : Pos := { line := 77, col := 52, endLine := 77, endCol := 92 }
theorem LBase.keeps {w : World} {mg mb : Str → Option Value} {h h' : Heap} (x : LBase w mg mb h) (k : Kept h h') : LBase w mg mb h' := by
  refine ⟨x.G.at k, x.K.of fun a o _ _ e => k a o e, x.C.keeps k, ?_⟩
  obtain ⟨bm, o, e1, e2, e3, e4, e5, e6⟩ := x.B
  exact ⟨bm, o, e1, e2, e3, e4, k _ _ e5, e6⟩
theorem c_law {c : Cx} (hy : Cy c) (hX : c.X = []) (hR : Room c.A 13) (hd : c.A.depth ≤ 400) (hu : c.A.units ≤ 1900) {h0 h1 : Heap} {tk : Nat} {mg mb : Str → Option Value} {u : Value} {ns : List Int} {Q : Value → Shared → Prop} {E : Value → Shared → Prop}
    (k0 : Kept h0 h1) (h16 : h0.get? 16 = none) (h61 : h0.get? 61 = none) (L : LBase c.w mg mb h0) (ht : TbJ lp01 h1) (hul : isL isI ns u h0) (hn : ns.length < 64)
    (hq : ∀ h3 tk3, Kept h0 h3 → TbJ lp01 h3 → Q (.bool true) (c.sh h3 tk3)) : wpAny c.M c.A (call (.ref 64) [u]) Q E (c.sh h1 tk) := by
  obtain ⟨prog, w, A, g, d, os, X⟩ := c
  obtain rfl : X = [] := hX
  have hd' : A.depth ≤ 400 := hd
  have hu' : A.units ≤ 1900 := hu
  have G := L.G
  refine enter_at (P := fun v h => isB true v h ∧ TbJ lp01 h) (h0 := h0) (c := ⟨prog, w, A, g, d, os, []⟩) (binds := [(Str.ofString "script", u)]) rfl k0 (k0 _ _ (G.X _ _ (show (hdx.heap_39 w.params).lookup 64 = some _ by k_is) rfl)) rfl ((G.code rfl (by rfl)).keeps k0) (G.lim.keeps k0) (hR.le (by decide)) (fun s _ => BindsTo.of_eq rfl) (by rfl) (by rfl) (by decide +kernel) (fun h2 LL kb F hwr => ?_) (fun v h3 tk3 k3 p => by obtain ⟨e, p⟩ := p; cases e; exact hq h3 tk3 k3 p)
  have hh := hR.handled
  have script := F.var (P := isL isI ns) (x := Str.ofString "script") rfl (Mo.mo hul F.kept.stay)
  have g2 := G.at F.kept
  refine Ex.assign (P1 := isL isJ (jobsOf (ns.take 60))) F (Ev.callF (Ps := [isL isI (ns.take 60)]) (g2.gl (by k_is)) (g2.X _ _ (show (hdx.heap_39 w.params).lookup 59 = some _ by k_is) rfl) rfl (EA.cons ?_ EA.nil) fun vs h' k z => ?_) fun vj h3 F3 kb3 s3 pj => ?_
  · rw [← show pick ns none (some 60) none = ns.take 60 from pick_take ns 60]
    exact Ev.slice (lo := none) (hi := some 60) (script _) .none (.some .cint) (by rw [sizeLine_eq]; omega)
  · obtain ⟨u1, rfl, p1⟩ := z.one
    exact c_jobs ((hR.le (m := 3) (by decide)).deeper _) (by rw [sizeLine_eq, List.length_take]; omega) (g2.at k) p1
  have g3 := G.at F3.kept
  have t3 := (ht.keeps kb).strg (F.toFm.str kb3)
  have js4 : (jobsOf (ns.take 60)).length = 4 := by simp [jobsOf]
  generalize hjs : jobsOf (ns.take 60) = js at *
  refine Ex.for_ (R := isI) (xs := rangeL 0 1 5) (by exact hh) F3 (Ev.itR (Ev.range (n := 5) (g3.bi (by k_is) (by boot_by_name)) .cint (by decide))) (fun a => Wr (envOfC _ _ LL 64 _) a ∨ a = 16 ∨ a = 61) (fun a w => .inl w) (fun a w => ?_)
    (fun i V1 h => TbJ lp01 h ∧ V1 (Str.ofString "jobs") = some vj) (fun h' k => ⟨t3.keeps k, rfl⟩) (fun i V1 a b x s => ⟨x.1.strg s, x.2⟩) (fun i y v V1 h4 hyi hJ hv F4 kb4 s4 => ?_) (fun V1 h4 hJ F4 kb4 s4 => Ex.ret F4 (Pu.mono (P := isB true) Ev.cbool fun v h' k e => ⟨e, hJ.1.keeps k⟩))
  · rcases w with w | rfl | rfl
    · exact F3.toFm.wrObj w
    · rcases t3.k with z | ⟨kk, z⟩
      · exact ⟨_, z, rfl⟩
      · exact ⟨_, z.tab, rfl⟩
    · obtain ⟨ps, z, _⟩ := t3.l.at61
      exact ⟨_, z, rfl⟩
  · obtain ⟨t4, hvj⟩ := hJ
    obtain ⟨hi, rfl⟩ := rangeL_get hyi
    have L4 := L.keeps F4.kept
    have g4 := L4.G
    have pj4 : isL isJ js vj h4 := Mo.mo pj s4
    have tab4 : ∀ a, (a = 16 ∨ a = 61) → ∃ o vs, h4.get? a = some o ∧ o.data = .fields vs := fun a w => by
      rcases w with rfl | rfl
      · rcases t4.k with z | ⟨kk, z⟩
        · exact ⟨_, _, z, rfl⟩
        · exact ⟨_, _, z.tab, rfl⟩
      · obtain ⟨ps, z, _⟩ := t4.l.at61
        exact ⟨_, _, z, rfl⟩
    have n16 : ∀ a, (a = 16 ∨ a = 61) → ¬ Wr (envOfC _ _ LL 64 _) a := fun a w => by
      obtain ⟨o, vs, e, hd⟩ := tab4 a w
      exact F4.toFm.notWr e ⟨fun _ _ q => (by rw [hd] at q; cases q), fun _ q => (by rw [hd] at q; cases q)⟩
    have count4 := F4.var (P := isI (i : Int)) (x := Str.ofString "count") upd_eq hv
    refine Ex.assignW (P1 := isL isI (permL (sortPerm i (lawLt js)) (rangeL 0 1 i))) (W := fun a => a = 16 ∨ a = 61) (J := TbJ lp01) F4 (fun a w => ?_) n16 (fun a w => nomatch w) (fun a w => ?_) (fun tk5 Q5 E5 hq5 => ?_) (fun vo h5 h6 F6 k45 t5 kb56 s46 po => ?_)
    · rcases w with rfl | rfl
      · exact h16
      · exact h61
    · obtain ⟨o, vs, e, hd⟩ := tab4 a w
      exact ⟨o, e, by rw [hd]; rfl⟩
    · have hc4 := F4.cell (Str.ofString "jobs") (LL + 3) (by rfl)
      rw [show upd V1 (Str.ofString "count") v (Str.ofString "jobs") = some vj from (upd_ne (by decide)).trans hvj] at hc4
      refine e_order (c := ⟨prog, w, A.deeper _, g, d, os, []⟩) ⟨hy.prog, hy.gens⟩ rfl ((hR.le (m := 11) (by decide)).deeper _) (by show A.depth + 1 ≤ 500; omega) (by show A.units + 3 ≤ 1998; omega) L4 t4 (a := LL + 3) (jv := vj) (js := js) (n := i) rfl rfl (by rfl) (by rfl) hc4 pj4 (by omega) (by omega) ?_ (g4.bi (by k_is) (by boot_by_name)) (Ev.range (g4.bi (by k_is) (by boot_by_name)) (count4 _) (by omega)) (g4.gl (by k_is)) (fun v h7 tk7 k7 j7 p7 => hq5 v h7 tk7 k7 j7 p7)
      exact sp_lt (by omega) (by omega)
    · have hsp : ∀ k ∈ sortPerm i (lawLt js), k < i := sp_lt (by omega) (by omega)
      have nn : NonNeg js := hjs ▸ jobs_nn _
      have dd : Dom js := hjs ▸ jobs_dom _
      have F5 := F4.toFm.wide k45 (fun a w => by rcases w with rfl | rfl <;> assumption) n16
      have t6 : TbJ lp01 h6 := t5.strg (F5.str kb56)
      have g6 := G.at F6.kept
      have pj6 : isL isJ js vj h6 := Mo.mo pj4 s46
      have hvj6 : upd V1 (Str.ofString "count") v (Str.ofString "jobs") = some vj := (upd_ne (by decide)).trans hvj
      rw [permL_int hsp] at po
      have order6 := F6.var (P := isL isI ((sortPerm i (lawLt js)).map fun i : Nat => (i : Int))) (x := Str.ofString "order") upd_eq po
      have hlen : (sortPerm i (lawLt js)).length = i := by rw [(sortPerm_ok (by omega) (law_weak (by omega))).1.length_eq, List.length_range]
      refine Ex.assign (P1 := isP3 (mk3 (permL (sortPerm i (lawLt js)) js))) F6 (Ev.callF (Ps := [isV (.ref 42), isL isJ (permL (sortPerm i (lawLt js)) js), isP3 (0, 0, 0)]) (g6.gl (by k_is)) (g6.X _ _ (show (hdx.heap_39 w.params).lookup 30 = some _ by k_is) rfl) rfl (EA.cons (g6.gl (by k_is)) (EA.cons ?_ (EA.cons ?_ EA.nil))) fun vs h' k z => ?_) fun ve h7 F7 kb7 s7 pe => ?_
      · rw [permL_js (js := js) (fun k hk => Nat.lt_of_lt_of_le (hsp k hk) (by omega))]
        refine Ev.comp (R := isI) (S := isJ) (by exact hh) (order6 _).itL (fun k => js.getD k.toNat ⟨0, 0, 0⟩) (fun y u C D m h1 hy' hu' k' hn' hm' => ?_) ?_ rfl
        · obtain ⟨q, hq1, rfl⟩ := List.mem_map.mp hy'
          have hq2 := hsp q hq1
          refine Ev.item (F6.varC (P := isL isJ js) ((upd_ne (by decide)).trans hvj6) pj6 k' rfl rfl) (Ev.own hn' hm' hu') (by omega) (by omega) ?_
          rw [Int.toNat_natCast, List.getElem?_eq_getElem (by omega)]
          simp [show q < js.length by omega]
        · rw [List.length_map, hlen, sizeLine_eq]; omega
      · exact Ev.tuple (R := isI) (EL.cons .cint (EL.cons .cint (EL.cons .cint EL.nil)))
      · obtain ⟨z1, z2, z3, rfl, q1, q2, q3⟩ := z.three
        obtain rfl : z1 = .ref 42 := q1
        refine c_reduce (R := isJ) (S := isP3) (b0 := (0, 0, 0)) step3 ((hR.le (m := 5) (by decide)).deeper _) (g6.at k) ((g6.at k).X _ _ (show (hdx.heap_39 w.params).lookup 42 = some _ by k_is) rfl) rfl (fun A' h'' u' v' b' a' hR' k' hu' hv' => c_step (hR'.le (by decide)) ((g6.at k).at k') hu' hv') q2 q3 ?_
        obtain ⟨tt, tvs, tn, rfl, te, _⟩ := q3
        exact ⟨tt, _, rfl, te, _, _, rfl⟩
      · have g7 := G.at F7.kept
        have pj7 : isL isJ js vj h7 := Mo.mo pj6 s7
        have po7 := Mo.mo po s7
        have hvj7 : V1 (Str.ofString "jobs") = some vj := hvj
        have ends7 := F7.var (P := isP3 (mk3 (permL (sortPerm i (lawLt js)) js))) (x := Str.ofString "ends") upd_eq pe
        have jobs7 := F7.var (P := isL isJ js) (x := Str.ofString "jobs") ((upd_ne (by decide)).trans ((upd_ne (by decide)).trans hvj6)) pj7
        have count7 := F7.var (P := isI (i : Int)) (x := Str.ofString "count") ((upd_ne (by decide)).trans ((upd_ne (by decide)).trans upd_eq)) hv
        have hne : 0 < ((ordersOf (js.take i)).map lenB).length := by
          rw [List.length_map]
          exact List.length_pos_of_mem ((mem_ordersOf (js.take i) (js.take i)).mpr (List.Perm.refl _))
        refine Ex.ite F7 (Tst.ne (x := mk (permL (sortPerm i (lawLt js)) js)) (y := minL ((ordersOf (js.take i)).map lenB)) (Ev.itemT (ends7 _) .cint (by decide) (by decide) rfl) (Ev.callB (Ps := [isL isI ((ordersOf (js.take i)).map lenB)]) (g7.bi (by k_is) (by boot_by_name)) (EA.cons ?_ EA.nil) fun vs h' k z => b_min (by exact hh) hne z)) (fun q => ?_) fun _ h8 k8 => Ex.nil ?_
        · refine Ev.comp (R := isL isJ) (S := isI) (by exact hh) (Ev.itL (Ev.callF (Ps := [isL isJ (js.take i)]) (g7.gl (by k_is)) (g7.X _ _ (show (hdx.heap_39 w.params).lookup 47 = some _ by k_is) rfl) rfl (EA.cons ?_ EA.nil) fun vs h' k z => ?_)) lenB (fun y u C D m h1 hy' hu' k' hn' hm' => ?_) ?_ rfl
          · rw [← show pick js none (some (i : Int)) none = js.take i from pick_take js i]
            exact Ev.slice (lo := none) (hi := some (i : Int)) (jobs7 _) .none (.some (count7 _)) (by rw [sizeLine_eq]; omega)
          · obtain ⟨u1, rfl, p1⟩ := z.one
            exact c_orders ((hR.le (m := 3) (by decide)).deeper _) (by rw [List.length_take]; omega) (g7.at k) p1
          · refine Ev.callF (Ps := [isL isJ y]) ((g7.at k').gl (by k_is)) ((g7.at k').X _ _ (show (hdx.heap_39 w.params).lookup 54 = some _ by k_is) rfl) rfl (EA.cons (Ev.own hn' hm' hu') EA.nil) fun vs h'' k'' z => ?_
            obtain ⟨u1, rfl, p1⟩ := z.one
            exact c_length ((hR.le (m := 3) (by decide)).deeper _) (by rw [len_of_ordersOf hy', sizeLine_eq, List.length_take]; omega) ((g7.at k').at k'') p1
          · rw [ordersOf_length]
            exact Nat.le_trans (fac_le _ (by rw [List.length_take]; omega)) (by decide)
        · exact absurd (law_best (n := i) (by omega) (by omega) nn dd) (by simpa using q)
        · have F8 := F7.at k8
          have g8 := G.at F8.kept
          have pj8 : isL isJ js vj h8 := Mo.mo pj7 k8.stay
          have po8 := Mo.mo po7 k8.stay
          have t8 : TbJ lp01 h8 := (t6.strg (F6.toFm.str kb7)).keeps k8
          have count8 := F8.var (P := isI (i : Int)) (x := Str.ofString "count") ((upd_ne (by decide)).trans ((upd_ne (by decide)).trans upd_eq)) hv
          refine Ex.for_ (R := isI) (xs := rangeL 0 1 i) (by exact hh) F8 (Ev.itR (Ev.range (n := i) (g8.bi (by k_is) (by boot_by_name)) (count8 _) (by omega))) (Wr _) (fun _ x => x) (fun _ w => F8.toFm.wrObj w)
            (fun _ V h => TbJ lp01 h ∧ V (Str.ofString "jobs") = some vj ∧ V (Str.ofString "order") = some vo) (fun h' k => ⟨t8.keeps k, (upd_ne (by decide)).trans ((upd_ne (by decide)).trans hvj6), (upd_ne (by decide)).trans upd_eq⟩) (fun _ V a b x s => ⟨x.1.strg s, x.2⟩)
            (fun j y vq V2 h9 hyj hJ9 hv9 F9 kb9 s9 => ?_) (fun V2 h9 hJ9 F9 kb9 s9 => Ex.nil ⟨V2, F9, ⟨hJ9.1, hJ9.2.1⟩, ?_⟩)
          · obtain ⟨t9, e1, e2⟩ := hJ9
            obtain ⟨hj, rfl⟩ := rangeL_get hyj
            have g9 := G.at F9.kept
            have pj9 : isL isJ js vj h9 := Mo.mo pj8 s9
            have po9 := Mo.mo po8 s9
            have j9 := F9.var (P := isI (j : Int)) (x := Str.ofString "j") upd_eq hv9
            have hmem : ∀ k, k < i → (k : Int) ∈ (sortPerm i (lawLt js)).map fun i : Nat => (i : Int) := fun k hk => List.mem_map.mpr ⟨k, (sortPerm_ok (by omega) (law_weak (by omega))).1.mem_iff.mpr (List.mem_range.mpr hk), rfl⟩
            refine Ex.ite (z := false) F9 (Tst.cmp (P1 := isL isI []) (P2 := isL isI []) (Pu.toL (Ev.compT (R := isI) (S := isI) (xs := rangeL 0 1 j) (by exact hh) (Ev.itR (Ev.range (n := j) (g9.bi (by k_is) (by boot_by_name)) (j9 _) (by omega)))
              (fun y => ruleZ (js.getD y.toNat ⟨0, 0, 0⟩) (js.getD j ⟨0, 0, 0⟩) == 0 && decide ((((sortPerm i (lawLt js)).map fun i : Nat => (i : Int)).idxOf (j : Int) : Int) < (((sortPerm i (lawLt js)).map fun i : Nat => (i : Int)).idxOf y : Int))) (fun y => y)
              (fun y u C D m h1 hy' hu' k' hn' hm' => ?_) (fun y u C D m h1 hy' hp' hu' k' hn' hm' => Ev.own hn' hm' hu') (by rw [rangeL_len, sizeLine_eq]; omega) rfl) ?_) (Ev.list EL.nil) (fun a b h' k' ha hb => ne_nil ha hb ?_)) (fun q => nomatch q) fun _ h10 k10 => Ex.nil (Ex.nil ⟨_, F9.at k10, ⟨t9.keeps k10, (upd_ne (by decide)).trans e1, (upd_ne (by decide)).trans e2⟩, k10.kb⟩)
            · obtain ⟨q, hq1, rfl⟩ := rangeL_mem hy'
              have g10 := g9.at k'
              have ey : (0 + (q : Int) * 1) = (q : Int) := by omega
              rw [ey] at hu' ⊢
              rw [Int.toNat_natCast]
              have hqj : js[q]? = some (js.getD q ⟨0, 0, 0⟩) := by rw [List.getElem?_eq_getElem (by omega)]; simp [show q < js.length by omega]
              have hjj : js[j]? = some (js.getD j ⟨0, 0, 0⟩) := by rw [List.getElem?_eq_getElem (by omega)]; simp [show j < js.length by omega]
              have e1' := (upd_ne (v := vq) (x := Str.ofString "j") (y := Str.ofString "jobs") (by decide)).trans e1
              have e2' := (upd_ne (v := vq) (x := Str.ofString "j") (y := Str.ofString "order") (by decide)).trans e2
              refine tests_one (Tst.and2 (Tst.eq (x := ruleZ (js.getD q ⟨0, 0, 0⟩) (js.getD j ⟨0, 0, 0⟩)) (y := 0) (Ev.callF (Ps := [isJ (js.getD q ⟨0, 0, 0⟩), isJ (js.getD j ⟨0, 0, 0⟩)]) (g10.gl (by k_is)) (g10.X _ _ (show (hdx.heap_39 w.params).lookup 35 = some _ by k_is) rfl) rfl
                (EA.cons (Ev.item (F9.varC (P := isL isJ js) e1' pj9 k' rfl rfl) (Ev.own hn' hm' hu') (by omega) (by omega) hqj) (EA.cons (Ev.item (F9.varC (P := isL isJ js) e1' pj9 k' rfl rfl) (F9.varC (P := isI (j : Int)) upd_eq hv9 k' rfl rfl) (by omega) (by omega) hjj) EA.nil)) fun vs h'' k'' z => ?_) .cint)
                fun _ => Tst.gt (Ev.index (F9.varC e2' po9 k' rfl rfl) (Ev.own hn' hm' hu') (hmem q (by omega)) (by rw [List.length_map]; omega) _) (Ev.index (F9.varC e2' po9 k' rfl rfl) (F9.varC (P := isI (j : Int)) upd_eq hv9 k' rfl rfl) (hmem j hj) (by rw [List.length_map]; omega) _))
              obtain ⟨z1, z2, rfl, q1, q2⟩ := z.two
              exact c_rule ((hR.le (m := 3) (by decide)).deeper _) (g10.at k'') q1 q2
            · rw [List.map_eq_nil_iff, List.filter_eq_nil_iff]
              intro y hy'
              obtain ⟨q, hq1, rfl⟩ := rangeL_mem hy'
              have ey : (0 + (q : Int) * 1) = (q : Int) := by omega
              rw [ey, Int.toNat_natCast, idxOf_cast, idxOf_cast]
              intro hc
              simp only [Bool.and_eq_true, beq_iff_eq, decide_eq_true_eq] at hc
              refine law_stab (js := js) (n := i) (i := q) (j := j) (by omega) (by omega) hq1 hj ?_ (by exact_mod_cast hc.2)
              rw [← hc.1]
              simp [show q < js.length by omega, show j < js.length by omega]
            · exact Nat.lt_of_le_of_lt (Nat.le_add_right _ _) ((hR.le (m := 3) (by decide)).deeper _).units
          · exact (((k45.mono fun _ w => .inr w).trans (kb56.mono fun _ w => .inl w)).trans (kb7.mono fun _ w => .inl w)).trans (k8.kb.trans (kb9.mono fun _ w => .inl w))
end Mine
end

section
-- E1
open PySem PySem.W PyProof.Rows PySem.Spec PySem.Calls
set_option maxRecDepth 100000
set_option maxHeartbeats 8000000
namespace Mine
theorem ns_hide {h : Heap} {X : List Addr} {a : Addr} {m : Vs} (x : h.Ns a m) (ha : a ∉ X) : (hideAll h X).Ns a m := by
  obtain ⟨o, es, n, e, r⟩ := x
  exact ⟨o, es, n, hideAll_get _ e ha, r⟩
theorem are_ints {xs : List Int} {vs : List Value} {h : Heap} (x : IntsAre vs xs) : Are isI xs vs h := by
  induction x with
  | nil => exact Are.nil
  | cons i t _ ih => exact Are.cons ⟨_, rfl⟩ ih
theorem inBut_hide {K : Frag} {h : Heap} {tb : List Addr} (X : K.In h) : InBut K tb (hideAll h tb) := fun a o e q => hideAll_get _ (X a o e) (by simpa using q)
theorem oldK_of {h h' : Heap} {tb : List Addr} (hk : Kept (hideAll h tb) h') (ht : ∀ t ∈ tb, isCodeTable h t ∧ h.get? t = some (tabObj #[]) ∧ ∃ ps, h'.get? t = some (tabObj ps)) : OldK h h' := by
  refine ⟨fun b o e => ?_, fun b o e => ?_⟩
  · by_cases q : b ∈ tb
    · obtain ⟨t1, t2, ps, t3⟩ := ht b q
      rw [e] at t2; cases t2
      exact .inr (.inl ⟨t1, rfl, #[], ps, rfl, by rw [t3]; simp⟩)
    · exact .inl (hk b o (hideAll_get _ e q))
  · by_cases q : b ∈ tb
    · obtain ⟨t1, t2, ps, t3⟩ := ht b q
      exact ⟨_, t3⟩
    · exact ⟨o, hk b o (hideAll_get _ e q)⟩
theorem KO_in {w : World} {h : Heap} (X : (hdx.heap_39 w.params).In h) {tb : List Addr} {a : Addr} {o : Obj} (e : (hdx.heap_39 w.params).lookup a = some o) (ha : a ∉ tb) : (hideAll h tb).get? a = some (KO w a) := by
  rw [KO, e]
  exact hideAll_get _ (X _ _ e) ha
theorem are_list {P : Params} {h : Heap} {l : Addr} {vs : List Value} {ns : List Int} {X : List Addr} (hW : Well P h (.ref l) (ofPy (.list (ns.map PyData.int)))) (hL : h.IsList l vs.toArray) (hI : IntsAre vs ns) (hX : ∀ x ∈ X, ∃ o, h.get? x = some o ∧ o.cls = .none) : isL isI ns (.ref l) (hideAll h X) := by
  obtain ⟨o, e1, e2, n, e3⟩ := hL
  have hl : l ∉ X := fun q => by
    obtain ⟨o', f1, f2⟩ := hX l q
    rw [e1] at f1; cases f1
    rw [f2] at e2; cases e2
  unfold ofPy at hW
  cases hW with
  | list e a =>
    rw [e1] at e
    cases e
    cases e3
    exact ⟨l, vs, 0, rfl, hideAll_get _ e1 hl, are_ints hI⟩
theorem fin1 : PySem.Challenge.rw_oy0001_01.Holds := by
  refine hdx ?_
  k_fill
  intro w s₀ s₁ mg mb G Y fa o pm cd doc dV kV ho hd hcd hD hmg hg args vals as hpre hlay hrd hwl hlo
  have KX := km_in_of Y
  have e16 := km_tabs_of Y 16 (by decide)
  have e61 := km_tabs_of Y 61 (by decide)
  refine Ground.open G ?_
  intro T B D TE TW
  wrow_args hpre hlay hrd hwl hlo
  x_fa T KX hmg
  rename IntsAre _ _ => hI
  rename Well _ _ _ _ => hW
  rename Heap.IsList _ _ _ => hL
  rename ¬ _ < _ => hlen
  clear Y G
  have e63 := KX _ _ (show (hdx.heap_39 w.params).lookup 63 = some _ by k_is)
  have e20 := KX _ _ (show (hdx.heap_39 w.params).lookup 20 = some _ by k_is)
  have e3 := KX _ _ (show (hdx.heap_39 w.params).lookup 3 = some _ by k_is)
  have e2 := KX _ _ (show (hdx.heap_39 w.params).lookup 2 = some _ by k_is)
  have gT := T.g
  have C63 : isCodeTable s₁.heap 61 := ⟨63, _, _, e63, rfl, rfl, rfl⟩
  have C20 : isCodeTable s₁.heap 16 := ⟨20, _, _, e20, rfl, rfl, rfl⟩
  obtain ⟨bm, ob, b1, b2, b3, b4, b5, b6⟩ := T.bmain
  obtain rfl : bm = 4 := by
    have q := mg_of KX gT (show nsIn (hdx.heap_39 w.params) mainGlobals (Str.ofString "__builtins__") = some (some (.ref 4)) by k_is)
    exact Value.ref.inj (Option.some.inj (b1.symm.trans q))
  have L : LBase w mg mb (hideAll s₁.heap [16, 61]) := by
    refine ⟨⟨inBut_hide KX, rfl, ns_hide gT (by decide), ns_hide T.b (by decide), ?_, T.builtins⟩, ?_, ?_, ?_⟩
    · obtain ⟨m, x, y⟩ := T.nolimit
      exact ⟨m, ns_hide x (by decide), y⟩
    · obtain ⟨mm, q, _⟩ := (T.seer (by decide +kernel)).mods
      obtain ⟨o1, es1, n1, q1, _⟩ := q
      obtain ⟨c4, d4, dt4, sl4⟩ := ob
      cases b4; cases b5; cases b6
      refine ⟨⟨mb, mg, ns_hide T.b (by decide), (T.builtins _ (by decide)).trans (by boot_by_name), (T.builtins _ (by decide)).trans (by boot_by_name), ns_hide gT (by decide), mg_none_of KX gT (by k_is)⟩, ⟨o1, hideAll_get _ q1 (by decide)⟩, hideAll_get _ e2 (by decide), ?_, ⟨_, hideAll_get _ b3 (by decide)⟩, ?_, ?_⟩
      · exact KO_in KX (by k_is) (by decide)
      · exact KO_in KX (by k_is) (by decide)
      · exact KO_in KX (by k_is) (by decide)
    · exact ⟨_, _, _, _, _, _, _, _, _, hideAll_get _ e63 (by decide), rfl, rfl, rfl, rfl, rfl, rfl, rfl, rfl, by decide⟩
    · exact ⟨4, ob, b1, by decide, by decide, by decide, hideAll_get _ b3 (by decide), b4, b5, b6⟩
  obtain ⟨h1, g1, d1, tk1, os1⟩ := s₁
  obtain rfl : g1 = #[] := hg
  have hX0 : ∀ x ∈ [16, 61], ∃ o, h1.get? x = some o ∧ o.cls = .none := fun x hx => by
    rcases List.mem_cons.mp hx with rfl | hx
    · exact ⟨_, e16, rfl⟩
    · obtain rfl := List.mem_singleton.mp hx
      exact ⟨_, e61, rfl⟩
  refine c_law (c := ⟨_, w, callerA, #[], d1, os1, []⟩) (h0 := hideAll h1 [16, 61]) (h1 := h1) ⟨rfl, rfl⟩ rfl ⟨rfl, Nat.lt_of_sub_pos (show 0 < recursionLimit - (callerA.depth + 13) by decide), Nat.lt_of_sub_pos (show 0 < cLine - (callerA.units + 8 * 13) by decide)⟩ (show callerA.depth ≤ 400 by decide) (show callerA.units ≤ 1900 by decide) (fun b o e => of_hideAll _ e) (hideAll_none _ (by decide)) (hideAll_none _ (by decide)) L ?_ (are_list hW hL hI hX0) (by omega) fun h3 tk3 k3 t3 => ?_
  · exact ⟨.inl e16, .inl e61⟩
  · refine ⟨.inl ⟨_, _, [], rfl, fun _ => rfl, ReadsW.bool true, ?_, fun _ => ⟨List.nodup_nil, fun _ hm => (nomatch hm)⟩⟩, oldK_of k3 ?_, rfl, AllBare.empty⟩
    · first | rfl | wrow_post
    · intro t ht
      rcases List.mem_cons.mp ht with rfl | ht
      · refine ⟨C20, e16, ?_⟩
        rcases t3.k with z | ⟨kk, z⟩
        · exact ⟨_, z⟩
        · exact ⟨_, z.tab⟩
      · obtain rfl := List.mem_singleton.mp ht
        obtain ⟨ps, z, _⟩ := t3.l.at61
        exact ⟨C63, e61, ps, z⟩
end Mine
end

theorem PySem.Challenge.cw_oy0001_01_holds : PySem.Challenge.rw_oy0001_01.Holds :=
  Mine.fin1
