import PyProof.Rows.All
import Wide.All
import OpenK.AllK
import Wide.FinOn
import PySem.Challenge.RW_oy0001_02

open PySem PySem.W PyProof.Rows
set_option Elab.async false
set_option linter.unusedVariables false

section
-- Md
open PySem PySem.W PyProof.Rows PySem.Builtin PySem.W.X
set_option maxRecDepth 100000
namespace Mine
/-- what a piece of the run has made of a heap: all that stood is kept, but at the addresses `ex`; `news` stands, none of it stood (but at `ex`) -/
structure Md (ex : List Addr) (h₁ h : Heap) (news : List (Addr × Obj)) : Prop where
  keep : ∀ b o, h₁.get? b = some o → b ∉ ex → h.get? b = some o
  own : ∀ p ∈ news, h.get? p.1 = some p.2 ∧ (h₁.get? p.1 = none ∨ p.1 ∈ ex)
  nd : (news.map (·.1)).Nodup
theorem Md.start {ex : List Addr} {h : Heap} {news : List (Addr × Obj)} (hn : ∀ p ∈ news, h.get? p.1 = some p.2 ∧ p.1 ∈ ex) (hd : (news.map (·.1)).Nodup) : Md ex h h news :=
  ⟨fun _ _ e _ => e, fun p hp => ⟨(hn p hp).1, .inr (hn p hp).2⟩, hd⟩
theorem Md.start0 {ex : List Addr} {h : Heap} : Md ex h h [] := Md.start (fun _ hp => nomatch hp) List.nodup_nil
section
variable {ex : List Addr} {h₁ h h' : Heap} {news : List (Addr × Obj)}
theorem Md.at (D : Md ex h₁ h news) (i : Nat) (a : Addr) (o : Obj) (hi : news[i]? = some (a, o)) : h.get? a = some o := (D.own _ (List.mem_of_getElem? hi)).1
theorem Md.old (D : Md ex h₁ h news) {a : Addr} {o : Obj} (e : h₁.get? a = some o) (q : ex.contains a = false) : h.get? a = some o :=
  D.keep a o e (fun hm => by rw [List.contains_iff_mem.mpr hm] at q; cases q)
theorem Md.fresh (D : Md ex h₁ h news) {a : Addr} (hn : h.get? a = none) : h₁.get? a = none ∨ a ∈ ex := by
  by_cases q : a ∈ ex
  · exact .inr q
  · cases e : h₁.get? a with
    | none => exact .inl rfl
    | some o => rw [D.keep a o e q] at hn; cases hn
theorem Md.alloc (D : Md ex h₁ h news) {o : Obj} (hf : o.isFreed = false) : Md ex h₁ (h.push o) ((h.objs.size, o) :: news) := by
  have hnone : h.get? h.objs.size = none := by
    cases e : h.get? h.objs.size with
    | none => rfl
    | some o' => exact absurd (Heap.lt_size e) (Nat.lt_irrefl _)
  refine ⟨fun b o' e q => Heap.get?_push_of_some _ (D.keep b o' e q), fun p hp => ?_, ?_⟩
  · rcases List.mem_cons.mp hp with rfl | hp
    · exact ⟨Heap.get?_push_size _ hf, D.fresh hnone⟩
    · exact ⟨Heap.get?_push_of_some _ (D.own p hp).1, (D.own p hp).2⟩
  · rw [List.map_cons, List.nodup_cons]
    refine ⟨fun hm => ?_, D.nd⟩
    obtain ⟨p, hp, hpa⟩ := List.mem_map.mp hm
    have q := (D.own p hp).1
    rw [hpa, hnone] at q
    cases q
theorem Md.update (D : Md ex h₁ h news) {i : Nat} {a : Addr} {o : Obj} {f : Obj → Obj} (hi : news[i]? = some (a, o)) (hf : (f o).isFreed = false) : Md ex h₁ (h.update a f) (news.set i (a, f o)) := by
  have hs : Heap.SameBut a h (h.update a f) := Heap.SameBut.update ..
  have hm := List.mem_of_getElem? hi
  have ho := (D.own _ hm).1
  have ge : (h.update a f).get? a = some (f o) := Heap.get?_update_self _ ho hf
  obtain ⟨hl, hgi⟩ := List.getElem?_eq_some_iff.mp hi
  have em : (news.set i (a, f o)).map (·.1) = news.map (·.1) := by
    rw [List.map_set]
    have : (news.map (·.1))[i]? = some a := by rw [List.getElem?_map, hi]; rfl
    exact set_same this
  refine ⟨fun b o' e q => ?_, fun p hp => ?_, by rw [em]; exact D.nd⟩
  · have ne : b ≠ a := by
      rintro rfl
      rcases (D.own _ hm).2 with hb | hb
      · have hb' : h₁.get? b = none := hb
        rw [e] at hb'; cases hb'
      · exact q hb
    exact (hs.2 b ne).trans (D.keep b o' e q)
  · have hx : (a, f o) ∈ news.set i (a, f o) := List.mem_set hl _
    by_cases hpa : p.1 = a
    · have : p = (a, f o) := key_unique (by rw [em]; exact D.nd) hp hx hpa
      subst this
      exact ⟨ge, (D.own _ hm).2⟩
    · rcases List.mem_or_eq_of_mem_set hp with hp | rfl
      · exact ⟨(hs.2 _ hpa).trans (D.own p hp).1, (D.own p hp).2⟩
      · exact absurd rfl hpa
/-- two pieces behind each other -/
theorem Md.trans {ex' : List Addr} {news' : List (Addr × Obj)} (D : Md ex h₁ h news) (D' : Md ex' h h' news') (hx : ∀ b ∈ ex', b ∈ ex) (hn : ∀ p ∈ news, p.1 ∉ ex') : Md ex h₁ h' (news' ++ news) := by
  refine ⟨fun b o e q => D'.keep b o (D.keep b o e q) (fun hb => q (hx b hb)), fun p hp => ?_, ?_⟩
  · rcases List.mem_append.mp hp with hp | hp
    · refine ⟨(D'.own p hp).1, ?_⟩
      rcases (D'.own p hp).2 with hb | hb
      · exact D.fresh hb
      · exact .inr (hx _ hb)
    · exact ⟨D'.keep _ _ (D.own p hp).1 (hn p hp), (D.own p hp).2⟩
  · rw [List.map_append, List.nodup_append]
    refine ⟨D'.nd, D.nd, fun a ha b hb e => ?_⟩
    subst e
    obtain ⟨p, hp, rfl⟩ := List.mem_map.mp ha
    obtain ⟨q, hq, hqp⟩ := List.mem_map.mp hb
    have h1 := (D.own q hq).1
    rcases (D'.own p hp).2 with hb | hb
    · rw [hqp, hb] at h1; cases h1
    · exact hn q hq (hqp ▸ hb)
theorem Md.ne_old (D : Md ex h₁ h news) (i : Nat) (a : Addr) (o : Obj) (hi : news[i]? = some (a, o)) {b : Addr} {ob : Obj} (e : h₁.get? b = some ob) (q : ex.contains b = false) : (a == b) = false := by
  have hb : b ∉ ex := fun hm => by rw [List.contains_iff_mem.mpr hm] at q; cases q
  have ne : a ≠ b := by
    rintro rfl
    rcases (D.own _ (List.mem_of_getElem? hi)).2 with hx | hx
    · have hx' : h₁.get? a = none := hx
      rw [e] at hx'; cases hx'
    · exact hb hx
  simpa using ne
theorem Md.sub {news' : List (Addr × Obj)} (D : Md ex h₁ h news) (hs : news'.Sublist news) : Md ex h₁ h news' :=
  ⟨D.keep, fun p hp => D.own p (hs.subset hp), D.nd.sublist (hs.map _)⟩
end
/-- out of the elder engine's end: no table was touched -/
theorem Md.ofMem {h h' : Heap} {news : List (Addr × Obj)} (D : Mem h h' [] news) : Md [] h h' news :=
  ⟨fun b o e _ => D.keep b o e (by simp [away]), fun p hp => ⟨(D.nw p hp).1, .inl (D.nw p hp).2⟩, D.ord.imp (fun h => Nat.ne_of_gt h)⟩
theorem Md.more {ex : List Addr} {h₁ h h' : Heap} {news news' : List (Addr × Obj)} (D : Md ex h₁ h news) (D' : Mem h h' [] news') : Md ex h₁ h' (news' ++ news) :=
  D.trans (Md.ofMem D') (fun _ hb => nomatch hb) (fun _ _ hb => nomatch hb)

section
variable {prog : Program} {w : World} {A : Around} {α : Type} {Q : α → Shared → Prop} {E : Value → Shared → Prop} {ex : List Addr} {h₁ h : Heap} {news : List (Addr × Obj)} {g : Array GenState} {d : Drawn} {tk : Nat} {os : OsState} {t : Sem α}
theorem e_load {a : Addr} {q : Option Value} {k : Obj → Sem α} {o : Obj} (ht : skim ⟨prog, w.params⟩ 400 t = .load a q k) (ho : h.get? a = some o) (x : wpAny (model prog w) A (k o) Q E ⟨h, g, d, tk, os⟩) : wpAny (model prog w) A t Q E ⟨h, g, d, tk, os⟩ :=
  x_skim 400 (by rw [ht]; exact x_load ho x)
theorem e_alloc {o : Obj} {k : Addr → Sem α} (ht : skim ⟨prog, w.params⟩ 400 t = .alloc o k) (D : Md ex h₁ h news) (hf : o.isFreed = false) (x : ∀ a h', Md ex h₁ h' ((a, o) :: news) → wpAny (model prog w) A (k a) Q E ⟨h', g, d, tk, os⟩) : wpAny (model prog w) A t Q E ⟨h, g, d, tk, os⟩ :=
  x_skim 400 (by rw [ht]; exact wpAny_bind (m := alloc o) (f := k) (wpAny_alloc (x _ _ (D.alloc hf))))
theorem e_update {a : Addr} {q : Option Value} {f : Obj → Obj} {k : Unit → Sem α} {o o' : Obj} (ht : skim ⟨prog, w.params⟩ 400 t = .update a q f k) (D : Md ex h₁ h news) (i : Nat) (hi : news[i]? = some (a, o)) (hu : f o = o') (hf : o'.isFreed = false) (x : ∀ h', Md ex h₁ h' (news.set i (a, o')) → wpAny (model prog w) A (k ()) Q E ⟨h', g, d, tk, os⟩) : wpAny (model prog w) A t Q E ⟨h, g, d, tk, os⟩ :=
  x_skim 400 (by subst hu; rw [ht]; exact wpAny_bind (m := updatePart a q f) (f := k) (wpAny_updatePart (D.at i a o hi) (x _ (D.update hi hf))))
theorem e_fresh {k : Tok → Sem α} (ht : skim ⟨prog, w.params⟩ 400 t = .fresh k) (x : ∀ u tk', wpAny (model prog w) A (k u) Q E ⟨h, g, d, tk', os⟩) : wpAny (model prog w) A t Q E ⟨h, g, d, tk, os⟩ := x_skim 400 (by rw [ht]; exact x_fresh (x _ _))
theorem e_call {c : Code} {hd : Option Value} {gd : Bool} {l : List Value} {k : Result → Sem α} {s : Shared} (ht : skim ⟨prog, w.params⟩ 400 t = .call c hd gd l k) (x : wpAny (model prog w) A (Sem.call c hd gd l Sem.pure) (fun r s' => wpAny (model prog w) A (k r) Q E s') E s) : wpAny (model prog w) A t Q E s :=
  x_skim 400 (by rw [ht]; exact wpAny_bind (m := Sem.call c hd gd l Sem.pure) (f := k) x)
theorem e_pure {a : α} {s : Shared} (ht : skim ⟨prog, w.params⟩ 400 t = .pure a) (x : Q a s) : wpAny (model prog w) A t Q E s := x_skim 400 (by rw [ht]; exact wpAny_pure x)
theorem e_step {β : Type} {m : Sem β} {f : β → Sem α} {a : β} {s : Shared} (hm : skim ⟨prog, w.params⟩ 400 m = .pure a) (x : wpAny (model prog w) A (f a) Q E s) : wpAny (model prog w) A (m >>= f) Q E s := wpAny_bind (e_pure hm x)
end
/-! the same steps, the tree left unreduced: the kernel alone reduces it -/
def adL {α : Type} (F : Setting) (t : Sem α) : Option Addr := match skim F 400 t with | .load a _ _ => some a | _ => none
def nxL {α : Type} (F : Setting) (t : Sem α) (o : Obj) : Sem α := match skim F 400 t with | .load _ _ k => k o | _ => t
def obA {α : Type} (F : Setting) (t : Sem α) : Option Obj := match skim F 400 t with | .alloc o _ => some o | _ => none
def nxA {α : Type} (F : Setting) (t : Sem α) (a : Addr) : Sem α := match skim F 400 t with | .alloc _ k => k a | _ => t
def upA {α : Type} (F : Setting) (t : Sem α) (o : Obj) : Option (Addr × Obj) := match skim F 400 t with | .update a _ f _ => some (a, f o) | _ => none
def nxU {α : Type} (F : Setting) (t : Sem α) : Sem α := match skim F 400 t with | .update _ _ _ k => k () | _ => t
def isF {α : Type} (F : Setting) (t : Sem α) : Bool := match skim F 400 t with | .fresh _ => true | _ => false
def nxF {α : Type} (F : Setting) (t : Sem α) (u : Tok) : Sem α := match skim F 400 t with | .fresh k => k u | _ => t
section
variable {prog : Program} {w : World} {A : Around} {α : Type} {Q : α → Shared → Prop} {E : Value → Shared → Prop} {ex : List Addr} {h₁ h : Heap} {news : List (Addr × Obj)} {g : Array GenState} {d : Drawn} {tk : Nat} {os : OsState} {t : Sem α}
theorem f_load {a : Addr} {o : Obj} (ht : adL ⟨prog, w.params⟩ t = some a) (ho : h.get? a = some o) (x : wpAny (model prog w) A (nxL ⟨prog, w.params⟩ t o) Q E ⟨h, g, d, tk, os⟩) : wpAny (model prog w) A t Q E ⟨h, g, d, tk, os⟩ := by
  unfold adL at ht; unfold nxL at x
  split at ht
  · next e => rw [e] at x; cases ht; exact e_load e ho x
  · cases ht
theorem f_alloc {o : Obj} (ht : obA ⟨prog, w.params⟩ t = some o) (D : Md ex h₁ h news) (hf : o.isFreed = false) (x : ∀ a h', Md ex h₁ h' ((a, o) :: news) → wpAny (model prog w) A (nxA ⟨prog, w.params⟩ t a) Q E ⟨h', g, d, tk, os⟩) : wpAny (model prog w) A t Q E ⟨h, g, d, tk, os⟩ := by
  unfold obA at ht; unfold nxA at x
  split at ht
  · next e => rw [e] at x; cases ht; exact e_alloc e D hf x
  · cases ht
end
/-- what is said of an end, marked so that a line of the walk finds it -/
structure RetW (P : Prop) : Prop where
  out : P
theorem filt_self (a : Addr) (l : List Value) : List.filter (fun x => x != Value.ref a) (Value.ref a :: l) = List.filter (fun x => x != Value.ref a) l := by simp
end Mine
end

section
-- Sub1
open PySem PySem.W PyProof.Rows PySem.Builtin PySem.W.X
set_option maxRecDepth 100000
set_option maxHeartbeats 0
namespace Mine
local macro_rules | `(tactic| x_close) => `(tactic| ((rename RetW _ => hR); first | (apply (RetW.out hR); with_unfolding_all assumption)))
theorem s_collect {prog : Program} {w : World} {A : Around} {Q : Result → Shared → Prop} {E : Value → Shared → Prop} {h : Heap} {d : Drawn} {tk : Nat} {os : OsState} {a : Addr} {u0 : Tok} {l : List Value} (ha : h.get? a = some ⟨.type "list", none, .seq #[.str (Str.ofString "obj") u0] 0, #[]⟩)
   (hret : RetW (∀ r h' tk', Mem h h' [] [(r, ⟨.type "list", none, .seq #[.str (Str.ofString "obj") u0] 1, #[]⟩)] → Q (.ok (.ret (.ref r))) ⟨h', #[], d, tk', os⟩)) :
   wpAny (model prog w) A (Sem.call (.builtin "proto.collect" ⟨[.ref a], []⟩) none false l Sem.pure) Q E ⟨h, #[], d, tk, os⟩ := by
  x_run
abbrev clsO (C NS bT : Addr) (tn tq : Tok) : Obj := ⟨(.type "type"), none, (.cls { name := (Str.ofString "K"), bases := [(.type "object")], mro := [(.ref C), (.type "object")], ns := NS, qualname := (Str.ofString "cmp_to_key.<locals>.K"), hasDict := false, slotNames := [(Str.ofString "obj")], subclasses := [], abstract := false, collection := none, hasDel := false }), #[(some (.ref bT)), none, (some (.str (Str.ofString "K") tn)), (some (.str (Str.ofString "cmp_to_key.<locals>.K") tq)), (some (.builtin "object.__new__")), (some (.bool false))]⟩
theorem s_super {prog : Program} {w : World} {A : Around} {Q : Result → Shared → Prop} {E : Value → Shared → Prop} {h : Heap} {d : Drawn} {tk : Nat} {os : OsState} {C NS bT : Addr} {tn tq : Tok} {l : List Value} (ha : h.get? C = some (clsO C NS bT tn tq))
   (hret : RetW (∀ r h' tk', Mem h h' [] [(r, ⟨.type "super", none, .fields #[.ref C, .ref C, .ref C], #[]⟩)] → Q (.ok (.ret (.ref r))) ⟨h', #[], d, tk', os⟩)) :
   wpAny (model prog w) A (Sem.call (.call (.type "super") ⟨[.ref C, .ref C], []⟩) none false l Sem.pure) Q E ⟨h, #[], d, tk, os⟩ := by
  dsimp only [clsO] at ha
  x_run
end Mine
end

section
-- Sub2
open PySem PySem.W PyProof.Rows PySem.Builtin PySem.W.X
set_option maxRecDepth 100000
set_option maxHeartbeats 0
namespace Mine
local macro_rules | `(tactic| x_close) => `(tactic| ((rename RetW _ => hR); first | (apply (RetW.out hR); with_unfolding_all assumption) | (apply (RetW.out hR))))
section
variable {prog : Program} {w : World} {A : Around} {Q : Result → Shared → Prop} {E : Value → Shared → Prop} {h : Heap} {d : Drawn} {tk : Nat} {os : OsState} {C NS bT : Addr} {tn tq : Tok} {l : List Value}
theorem s_cmget (ha : h.get? C = some (clsO C NS bT tn tq))
   (hret : RetW (∀ r h' tk', Mem h h' [] [(r, ⟨.type "builtin_function_or_method", none, .fields #[.builtin "object.__init_subclass__", .ref C], #[]⟩)] → Q (.ok (.ret (.ref r))) ⟨h', #[], d, tk', os⟩)) :
   wpAny (model prog w) A (Sem.call (.call (.builtin "classmethod_descriptor.__get__") ⟨[.builtin "object.__init_subclass__", .none, .ref C], []⟩) none false l Sem.pure) Q E ⟨h, #[], d, tk, os⟩ := by
  dsimp only [clsO] at ha
  x_run
theorem s_initsub {r : Addr} (ha : h.get? C = some (clsO C NS bT tn tq)) (hr : h.get? r = some ⟨.type "builtin_function_or_method", none, .fields #[.builtin "object.__init_subclass__", .ref C], #[]⟩)
   (hret : RetW (∀ tk', Q (.ok (.ret .none)) ⟨h, #[], d, tk', os⟩)) :
   wpAny (model prog w) A (Sem.call (.call (.ref r) ⟨[], []⟩) none false l Sem.pure) Q E ⟨h, #[], d, tk, os⟩ := by
  dsimp only [clsO] at ha
  x_run
theorem s_typeinit {u : Tok} {a b : Addr} (ha : h.get? C = some (clsO C NS bT tn tq))
   (hret : RetW (∀ tk', Q (.ok (.ret .none)) ⟨h, #[], d, tk', os⟩)) :
   wpAny (model prog w) A (Sem.call (.call (.builtin "type.__init__") ⟨[.ref C, .str (Str.ofString "K") u, .ref a, .ref b], []⟩) none false l Sem.pure) Q E ⟨h, #[], d, tk, os⟩ := by
  dsimp only [clsO] at ha
  x_run
end
end Mine
end

section
-- Sub3
open PySem PySem.W PyProof.Rows PySem.Builtin PySem.W.X
set_option maxRecDepth 100000
set_option maxHeartbeats 0
namespace Mine
abbrev statO : Obj := ⟨.none, none, .dict #[] 0, #[]⟩
theorem s_superget {prog : Program} {w : World} {A : Around} {Q : Result → Shared → Prop} {E : Value → Shared → Prop} {h : Heap} {d : Drawn} {tk : Nat} {os : OsState} {C NS bT sup : Addr} {tn tq u : Tok} {l : List Value}
   (hO2 : h.get? 2 = some statO) (ha : h.get? C = some (clsO C NS bT tn tq)) (hs : h.get? sup = some ⟨.type "super", none, .fields #[.ref C, .ref C, .ref C], #[]⟩)
   (hret : ∀ r h' tk', Mem h h' [] [(r, ⟨.type "builtin_function_or_method", none, .fields #[.builtin "object.__init_subclass__", .ref C], #[]⟩)] → Q (.ok (.ret (.ref r))) ⟨h', #[], d, tk', os⟩) :
   wpAny (model prog w) A (Sem.call (.call (.builtin "super.__getattribute__") ⟨[.ref sup, .str (Str.ofString "__init_subclass__") u], []⟩) none false l Sem.pure) Q E ⟨h, #[], d, tk, os⟩ := by
  refine x_call ?_ (by intro h; cases h)
  refine codeAny_call_builtin_at (b := PySem.Builtin.«super.__getattribute__») (by kernel_rfl) (entryFor_of_tree (by kernel_rfl)) ?_
  refine' e_load ?ht hs ?_; (case ht => with_unfolding_all rfl)
  refine e_pure (a := ()) (by with_unfolding_all rfl) ?_
  refine' e_load ?ht hs ?_; (case ht => with_unfolding_all rfl)
  refine' e_load ?ht hs ?_; (case ht => with_unfolding_all rfl)
  refine' e_load ?ht hs ?_; (case ht => with_unfolding_all rfl)
  refine e_step (a := Value.ref C) (by with_unfolding_all rfl) ?_
  have hb : (#[Value.ref C, Value.ref C, Value.ref C][1] == Value.ref C) = true := by simp
  have hdr : List.drop 1 (List.dropWhile (fun x => x != #[Value.ref C, Value.ref C, Value.ref C][0]) [Value.ref C, Value.type "object"]) = [Value.type "object"] := by simp
  dsimp only
  rw [hb]
  refine' e_load ?ht hO2 ?_; (case ht => with_unfolding_all rfl)
  refine' e_load ?ht ha ?_; (case ht => with_unfolding_all rfl)
  refine e_step (a := [Value.ref C, Value.type "object"]) (by with_unfolding_all rfl) ?_
  try dsimp only
  rw [hdr]
  refine' e_call ?ht ?_; (case ht => with_unfolding_all rfl)
  refine' s_cmget ha ⟨fun r h' tk' M => ?_⟩
  refine e_pure (a := .done (.ret (.ref r))) (by with_unfolding_all rfl) ?_
  exact wpAny_pure (hret r h' tk' M)
end Mine
end

section
-- TN
open PySem PySem.W PyProof.Rows PySem.Builtin PySem.W.X
set_option maxRecDepth 100000
set_option maxHeartbeats 0
namespace Mine
theorem typeNewT {prog : Program} {w : World} {A : Around} {h₁ : Heap} {d : Drawn} {tk : Nat} {os : OsState} {Q : PySem.Fin → Shared → Prop} {E : Value → Shared → Prop} {a131 a133 a135 a136 a138 a140 a142 a144 a146 a147 : Addr} {f1 f2 f3 f4 f5 f6 : FuncData} {u78 u87 u96 u80 u81 u82 u83 u84 u85 u88 u89 u90 u91 u92 u93 u94 u95 u97 : Tok}
   (hO2 : h₁.get? 2 = some statO) (hO131 : h₁.get? a131 = some ⟨.type "tuple", none, .seq #[.type "object"] 0, #[]⟩) (hO133 : h₁.get? a133 = some ⟨(.type "dict"), none, (.dict #[⟨PyData.keyHash w.params (Str.ofString "__module__"), (.str (Str.ofString "__module__") u80), (.str (Str.ofString "cpy313.functools") u85)⟩, ⟨PyData.keyHash w.params (Str.ofString "__qualname__"), (.str (Str.ofString "__qualname__") u82), (.str (Str.ofString "cmp_to_key.<locals>.K") u81)⟩, ⟨PyData.keyHash w.params (Str.ofString "__firstlineno__"), (.str (Str.ofString "__firstlineno__") u84), (.int 4 u83)⟩, ⟨PyData.keyHash w.params (Str.ofString "__slots__"), (.str (Str.ofString "__slots__") u88), (.ref a135)⟩, ⟨PyData.keyHash w.params (Str.ofString "__init__"), (.str (Str.ofString "__init__") u89), (.ref a136)⟩, ⟨PyData.keyHash w.params (Str.ofString "__lt__"), (.str (Str.ofString "__lt__") u90), (.ref a138)⟩, ⟨PyData.keyHash w.params (Str.ofString "__gt__"), (.str (Str.ofString "__gt__") u91), (.ref a140)⟩, ⟨PyData.keyHash w.params (Str.ofString "__eq__"), (.str (Str.ofString "__eq__") u92), (.ref a142)⟩, ⟨PyData.keyHash w.params (Str.ofString "__le__"), (.str (Str.ofString "__le__") u93), (.ref a144)⟩, ⟨PyData.keyHash w.params (Str.ofString "__ge__"), (.str (Str.ofString "__ge__") u94), (.ref a146)⟩, ⟨PyData.keyHash w.params (Str.ofString "__hash__"), (.str (Str.ofString "__hash__") u95), .none⟩, ⟨PyData.keyHash w.params (Str.ofString "__static_attributes__"), (.str (Str.ofString "__static_attributes__") u97), (.ref a147)⟩] 12), #[]⟩) (hO135 : h₁.get? a135 = some ⟨.type "list", none, .seq #[.str (Str.ofString "obj") u87] 0, #[]⟩)
   (hO136 : h₁.get? a136 = some ⟨.type "function", none, .func f1, #[]⟩) (hO138 : h₁.get? a138 = some ⟨.type "function", none, .func f2, #[]⟩) (hO140 : h₁.get? a140 = some ⟨.type "function", none, .func f3, #[]⟩) (hO142 : h₁.get? a142 = some ⟨.type "function", none, .func f4, #[]⟩) (hO144 : h₁.get? a144 = some ⟨.type "function", none, .func f5, #[]⟩) (hO146 : h₁.get? a146 = some ⟨.type "function", none, .func f6, #[]⟩)
   (hO147 : h₁.get? a147 = some ⟨.type "tuple", none, .seq #[.str (Str.ofString "obj") u96] 0, #[]⟩) (hns : (a133 == sysModules) = false)
   (hret : ∀ a149 a150 a151 u98 u99 u100 h' tk', Md [] h₁ h' [(a151, ⟨(.type "member_descriptor"), none, (.fields #[(.str (Str.ofString "obj") u98), (.ref a150), (.builtin "proto.slot"), (.builtin "proto.slot#set"), (.int 0 0)]), #[]⟩), (a150, clsO a150 a149 a131 u78 u81), (a149, ⟨(.type "dict"), none, (.dict #[⟨PyData.keyHash w.params (Str.ofString "__module__"), (.str (Str.ofString "__module__") u80), (.str (Str.ofString "cpy313.functools") u85)⟩, ⟨PyData.keyHash w.params (Str.ofString "__firstlineno__"), (.str (Str.ofString "__firstlineno__") u84), (.int 4 u83)⟩, ⟨PyData.keyHash w.params (Str.ofString "__slots__"), (.str (Str.ofString "__slots__") u88), (.ref a135)⟩, ⟨PyData.keyHash w.params (Str.ofString "__init__"), (.str (Str.ofString "__init__") u89), (.ref a136)⟩, ⟨PyData.keyHash w.params (Str.ofString "__lt__"), (.str (Str.ofString "__lt__") u90), (.ref a138)⟩, ⟨PyData.keyHash w.params (Str.ofString "__gt__"), (.str (Str.ofString "__gt__") u91), (.ref a140)⟩, ⟨PyData.keyHash w.params (Str.ofString "__eq__"), (.str (Str.ofString "__eq__") u92), (.ref a142)⟩, ⟨PyData.keyHash w.params (Str.ofString "__le__"), (.str (Str.ofString "__le__") u93), (.ref a144)⟩, ⟨PyData.keyHash w.params (Str.ofString "__ge__"), (.str (Str.ofString "__ge__") u94), (.ref a146)⟩, ⟨PyData.keyHash w.params (Str.ofString "__hash__"), (.str (Str.ofString "__hash__") u95), .none⟩, ⟨PyData.keyHash w.params (Str.ofString "__static_attributes__"), (.str (Str.ofString "__static_attributes__") u97), (.ref a147)⟩, ⟨PyData.keyHash w.params (Str.ofString "obj"), (.str (Str.ofString "obj") u99), (.ref a151)⟩, ⟨PyData.keyHash w.params (Str.ofString "__doc__"), (.str (Str.ofString "__doc__") u100), .none⟩] 3), #[]⟩)] → Q (.done (.ret (.ref a150))) ⟨h', #[], d, tk', os⟩) :
   wpAny (model prog w) A (PySem.Builtin.«type.__new__» ⟨[.type "type", .str (Str.ofString "K") u78, .ref a131, .ref a133], []⟩) Q E ⟨h₁, #[], d, tk, os⟩ := by
  have D0 : Md [] h₁ h₁ [] := Md.start0
  refine' e_load ?ht (Md.old D0 hO131 rfl) ?_; (case ht => with_unfolding_all rfl)
  refine' e_load ?ht (Md.old D0 hO133 rfl) ?_; (case ht => with_unfolding_all rfl)
  refine' e_load ?ht (Md.old D0 hO131 rfl) ?_; (case ht => with_unfolding_all rfl)
  rw [hns]
  refine' e_load ?ht (Md.old D0 hO133 rfl) ?_; (case ht => with_unfolding_all rfl)
  refine' e_load ?ht (Md.old D0 hO133 rfl) ?_; (case ht => with_unfolding_all rfl)
  refine' e_load ?ht (Md.old D0 hO135 rfl) ?_; (case ht => with_unfolding_all rfl)
  refine' e_call ?ht ?_; (case ht => with_unfolding_all rfl); refine' s_collect (Md.old D0 hO135 rfl) ⟨fun a148 h148 tk148 M148 => ?_⟩; (try exact []); have Ds1 := Md.more D0 M148; simp only [List.cons_append, List.nil_append] at Ds1; clear D0 M148
  refine' e_load ?ht (Md.at Ds1 0 _ _ rfl) ?_; (case ht => with_unfolding_all rfl)
  refine' e_alloc (o := ⟨(.type "dict"), none, (.dict #[⟨PyData.keyHash w.params (Str.ofString "__module__"), (.str (Str.ofString "__module__") u80), (.str (Str.ofString "cpy313.functools") u85)⟩, ⟨PyData.keyHash w.params (Str.ofString "__qualname__"), (.str (Str.ofString "__qualname__") u82), (.str (Str.ofString "cmp_to_key.<locals>.K") u81)⟩, ⟨PyData.keyHash w.params (Str.ofString "__firstlineno__"), (.str (Str.ofString "__firstlineno__") u84), (.int 4 u83)⟩, ⟨PyData.keyHash w.params (Str.ofString "__slots__"), (.str (Str.ofString "__slots__") u88), (.ref a135)⟩, ⟨PyData.keyHash w.params (Str.ofString "__init__"), (.str (Str.ofString "__init__") u89), (.ref a136)⟩, ⟨PyData.keyHash w.params (Str.ofString "__lt__"), (.str (Str.ofString "__lt__") u90), (.ref a138)⟩, ⟨PyData.keyHash w.params (Str.ofString "__gt__"), (.str (Str.ofString "__gt__") u91), (.ref a140)⟩, ⟨PyData.keyHash w.params (Str.ofString "__eq__"), (.str (Str.ofString "__eq__") u92), (.ref a142)⟩, ⟨PyData.keyHash w.params (Str.ofString "__le__"), (.str (Str.ofString "__le__") u93), (.ref a144)⟩, ⟨PyData.keyHash w.params (Str.ofString "__ge__"), (.str (Str.ofString "__ge__") u94), (.ref a146)⟩, ⟨PyData.keyHash w.params (Str.ofString "__hash__"), (.str (Str.ofString "__hash__") u95), .none⟩, ⟨PyData.keyHash w.params (Str.ofString "__static_attributes__"), (.str (Str.ofString "__static_attributes__") u97), (.ref a147)⟩] 0), #[]⟩) ?ht Ds1 rfl (fun a149 h149 Ds2 => ?_); (case ht => with_unfolding_all rfl); clear Ds1
  refine' e_load ?ht (Md.at Ds2 0 _ _ rfl) ?_; (case ht => with_unfolding_all rfl)
  refine' e_load ?ht (Md.at Ds2 0 _ _ rfl) ?_; (case ht => with_unfolding_all rfl)
  refine' e_load ?ht (Md.at Ds2 0 _ _ rfl) ?_; (case ht => with_unfolding_all rfl)
  refine' e_alloc (o := ⟨(.type "type"), none, (.cls { name := (Str.ofString "K"), bases := [(.type "object")], mro := [], ns := a149, qualname := (Str.ofString "cmp_to_key.<locals>.K"), hasDict := true, slotNames := [], subclasses := [], abstract := false, collection := none, hasDel := false }), #[]⟩) ?ht Ds2 rfl (fun a150 h150 Ds3 => ?_); (case ht => with_unfolding_all rfl); clear Ds2
  refine' e_update (o' := ⟨(.type "type"), none, (.cls { name := (Str.ofString "K"), bases := [(.type "object")], mro := [], ns := a149, qualname := (Str.ofString "cmp_to_key.<locals>.K"), hasDict := true, slotNames := [], subclasses := [], abstract := false, collection := none, hasDel := false }), #[(some (.ref a131))]⟩) ?ht Ds3 0 rfl ?hu rfl (fun hDs4 Ds4 => ?_); (case ht => with_unfolding_all rfl); (case hu => with_unfolding_all rfl); clear Ds3; simp only [List.set_cons_succ, List.set_cons_zero] at Ds4
  refine' e_update (o' := ⟨(.type "type"), none, (.cls { name := (Str.ofString "K"), bases := [(.type "object")], mro := [], ns := a149, qualname := (Str.ofString "cmp_to_key.<locals>.K"), hasDict := true, slotNames := [], subclasses := [], abstract := false, collection := none, hasDel := false }), #[(some (.ref a131)), none, (some (.str (Str.ofString "K") u78))]⟩) ?ht Ds4 0 rfl ?hu rfl (fun hDs5 Ds5 => ?_); (case ht => with_unfolding_all rfl); (case hu => with_unfolding_all rfl); clear Ds4; simp only [List.set_cons_succ, List.set_cons_zero] at Ds5
  refine' e_update (o' := ⟨(.type "type"), none, (.cls { name := (Str.ofString "K"), bases := [(.type "object")], mro := [], ns := a149, qualname := (Str.ofString "cmp_to_key.<locals>.K"), hasDict := true, slotNames := [], subclasses := [], abstract := false, collection := none, hasDel := false }), #[(some (.ref a131)), none, (some (.str (Str.ofString "K") u78)), (some (.str (Str.ofString "cmp_to_key.<locals>.K") u81))]⟩) ?ht Ds5 0 rfl ?hu rfl (fun hDs6 Ds6 => ?_); (case ht => with_unfolding_all rfl); (case hu => with_unfolding_all rfl); clear Ds5; simp only [List.set_cons_succ, List.set_cons_zero] at Ds6
  refine' e_load ?ht (Md.at Ds6 1 _ _ rfl) ?_; (case ht => with_unfolding_all rfl)
  refine' e_update (o' := ⟨(.type "dict"), none, (.dict #[⟨PyData.keyHash w.params (Str.ofString "__module__"), (.str (Str.ofString "__module__") u80), (.str (Str.ofString "cpy313.functools") u85)⟩, ⟨PyData.keyHash w.params (Str.ofString "__firstlineno__"), (.str (Str.ofString "__firstlineno__") u84), (.int 4 u83)⟩, ⟨PyData.keyHash w.params (Str.ofString "__slots__"), (.str (Str.ofString "__slots__") u88), (.ref a135)⟩, ⟨PyData.keyHash w.params (Str.ofString "__init__"), (.str (Str.ofString "__init__") u89), (.ref a136)⟩, ⟨PyData.keyHash w.params (Str.ofString "__lt__"), (.str (Str.ofString "__lt__") u90), (.ref a138)⟩, ⟨PyData.keyHash w.params (Str.ofString "__gt__"), (.str (Str.ofString "__gt__") u91), (.ref a140)⟩, ⟨PyData.keyHash w.params (Str.ofString "__eq__"), (.str (Str.ofString "__eq__") u92), (.ref a142)⟩, ⟨PyData.keyHash w.params (Str.ofString "__le__"), (.str (Str.ofString "__le__") u93), (.ref a144)⟩, ⟨PyData.keyHash w.params (Str.ofString "__ge__"), (.str (Str.ofString "__ge__") u94), (.ref a146)⟩, ⟨PyData.keyHash w.params (Str.ofString "__hash__"), (.str (Str.ofString "__hash__") u95), .none⟩, ⟨PyData.keyHash w.params (Str.ofString "__static_attributes__"), (.str (Str.ofString "__static_attributes__") u97), (.ref a147)⟩] 1), #[]⟩) ?ht Ds6 1 rfl ?hu rfl (fun hDs7 Ds7 => ?_); (case ht => with_unfolding_all rfl); (case hu => with_unfolding_all rfl); clear Ds6; simp only [List.set_cons_succ, List.set_cons_zero] at Ds7
  refine' e_load ?ht (Md.at Ds7 1 _ _ rfl) ?_; (case ht => with_unfolding_all rfl)
  refine' e_load ?ht (Md.at Ds7 1 _ _ rfl) ?_; (case ht => with_unfolding_all rfl)
  refine' e_load ?ht (Md.at Ds7 1 _ _ rfl) ?_; (case ht => with_unfolding_all rfl)
  refine' e_load ?ht (Md.at Ds7 1 _ _ rfl) ?_; (case ht => with_unfolding_all rfl)
  refine' e_load ?ht (Md.at Ds7 1 _ _ rfl) ?_; (case ht => with_unfolding_all rfl)
  refine e_step (by with_unfolding_all rfl) ?_; try dsimp only
  refine e_step (by with_unfolding_all rfl) ?_; try dsimp only
  refine e_step (by with_unfolding_all rfl) ?_; try dsimp only
  refine e_step (by with_unfolding_all rfl) ?_; try dsimp only
  rw [filt_self]
  refine' e_load ?ht (Md.at Ds7 0 _ _ rfl) ?_; (case ht => with_unfolding_all rfl)
  refine' e_update (o' := ⟨(.type "type"), none, (.cls { name := (Str.ofString "K"), bases := [(.type "object")], mro := [(.ref a150), (.type "object")], ns := a149, qualname := (Str.ofString "cmp_to_key.<locals>.K"), hasDict := true, slotNames := [], subclasses := [], abstract := false, collection := none, hasDel := false }), #[(some (.ref a131)), none, (some (.str (Str.ofString "K") u78)), (some (.str (Str.ofString "cmp_to_key.<locals>.K") u81))]⟩) ?ht Ds7 0 rfl ?hu rfl (fun hDs8 Ds8 => ?_); (case ht => with_unfolding_all rfl); (case hu => with_unfolding_all rfl); clear Ds7; simp only [List.set_cons_succ, List.set_cons_zero] at Ds8
  refine' e_load ?ht (Md.at Ds8 0 _ _ rfl) ?_; (case ht => with_unfolding_all rfl)
  refine' e_update (o' := ⟨(.type "type"), none, (.cls { name := (Str.ofString "K"), bases := [(.type "object")], mro := [(.ref a150), (.type "object")], ns := a149, qualname := (Str.ofString "cmp_to_key.<locals>.K"), hasDict := true, slotNames := [], subclasses := [], abstract := false, collection := none, hasDel := false }), #[(some (.ref a131)), none, (some (.str (Str.ofString "K") u78)), (some (.str (Str.ofString "cmp_to_key.<locals>.K") u81)), (some (.builtin "object.__new__"))]⟩) ?ht Ds8 0 rfl ?hu rfl (fun hDs9 Ds9 => ?_); (case ht => with_unfolding_all rfl); (case hu => with_unfolding_all rfl); clear Ds8; simp only [List.set_cons_succ, List.set_cons_zero] at Ds9
  refine' e_load ?ht (Md.at Ds9 0 _ _ rfl) ?_; (case ht => with_unfolding_all rfl)
  refine' e_load ?ht (Md.at Ds9 0 _ _ rfl) ?_; (case ht => with_unfolding_all rfl)
  refine' e_load ?ht (Md.at Ds9 0 _ _ rfl) ?_; (case ht => with_unfolding_all rfl)
  refine' e_load ?ht (Md.at Ds9 1 _ _ rfl) ?_; (case ht => with_unfolding_all rfl)
  refine' e_load ?ht (Md.at Ds9 1 _ _ rfl) ?_; (case ht => with_unfolding_all rfl)
  refine' e_fresh ?ht (fun u98 tk' => ?_); (case ht => with_unfolding_all rfl)
  refine' e_alloc (o := ⟨(.type "member_descriptor"), none, (.fields #[(.str (Str.ofString "obj") u98), (.ref a150), (.builtin "proto.slot"), (.builtin "proto.slot#set"), (.int 0 0)]), #[]⟩) ?ht Ds9 rfl (fun a151 h151 Ds10 => ?_); (case ht => with_unfolding_all rfl); clear Ds9
  refine' e_load ?ht (Md.at Ds10 2 _ _ rfl) ?_; (case ht => with_unfolding_all rfl)
  refine' e_fresh ?ht (fun u99 tk' => ?_); (case ht => with_unfolding_all rfl)
  refine' e_load ?ht (Md.at Ds10 2 _ _ rfl) ?_; (case ht => with_unfolding_all rfl)
  refine' e_update (o' := ⟨(.type "dict"), none, (.dict #[⟨PyData.keyHash w.params (Str.ofString "__module__"), (.str (Str.ofString "__module__") u80), (.str (Str.ofString "cpy313.functools") u85)⟩, ⟨PyData.keyHash w.params (Str.ofString "__firstlineno__"), (.str (Str.ofString "__firstlineno__") u84), (.int 4 u83)⟩, ⟨PyData.keyHash w.params (Str.ofString "__slots__"), (.str (Str.ofString "__slots__") u88), (.ref a135)⟩, ⟨PyData.keyHash w.params (Str.ofString "__init__"), (.str (Str.ofString "__init__") u89), (.ref a136)⟩, ⟨PyData.keyHash w.params (Str.ofString "__lt__"), (.str (Str.ofString "__lt__") u90), (.ref a138)⟩, ⟨PyData.keyHash w.params (Str.ofString "__gt__"), (.str (Str.ofString "__gt__") u91), (.ref a140)⟩, ⟨PyData.keyHash w.params (Str.ofString "__eq__"), (.str (Str.ofString "__eq__") u92), (.ref a142)⟩, ⟨PyData.keyHash w.params (Str.ofString "__le__"), (.str (Str.ofString "__le__") u93), (.ref a144)⟩, ⟨PyData.keyHash w.params (Str.ofString "__ge__"), (.str (Str.ofString "__ge__") u94), (.ref a146)⟩, ⟨PyData.keyHash w.params (Str.ofString "__hash__"), (.str (Str.ofString "__hash__") u95), .none⟩, ⟨PyData.keyHash w.params (Str.ofString "__static_attributes__"), (.str (Str.ofString "__static_attributes__") u97), (.ref a147)⟩, ⟨PyData.keyHash w.params (Str.ofString "obj"), (.str (Str.ofString "obj") u99), (.ref a151)⟩] 2), #[]⟩) ?ht Ds10 2 rfl ?hu rfl (fun hDs11 Ds11 => ?_); (case ht => with_unfolding_all rfl); (case hu => with_unfolding_all rfl); clear Ds10; simp only [List.set_cons_succ, List.set_cons_zero] at Ds11
  refine' e_load ?ht (Md.at Ds11 1 _ _ rfl) ?_; (case ht => with_unfolding_all rfl)
  refine' e_update (o' := ⟨(.type "type"), none, (.cls { name := (Str.ofString "K"), bases := [(.type "object")], mro := [(.ref a150), (.type "object")], ns := a149, qualname := (Str.ofString "cmp_to_key.<locals>.K"), hasDict := false, slotNames := [(Str.ofString "obj")], subclasses := [], abstract := false, collection := none, hasDel := false }), #[(some (.ref a131)), none, (some (.str (Str.ofString "K") u78)), (some (.str (Str.ofString "cmp_to_key.<locals>.K") u81)), (some (.builtin "object.__new__"))]⟩) ?ht Ds11 1 rfl ?hu rfl (fun hDs12 Ds12 => ?_); (case ht => with_unfolding_all rfl); (case hu => with_unfolding_all rfl); clear Ds11; simp only [List.set_cons_succ, List.set_cons_zero] at Ds12
  refine' e_load ?ht (Md.at Ds12 1 _ _ rfl) ?_; (case ht => with_unfolding_all rfl)
  refine' e_update (o' := ⟨(.type "type"), none, (.cls { name := (Str.ofString "K"), bases := [(.type "object")], mro := [(.ref a150), (.type "object")], ns := a149, qualname := (Str.ofString "cmp_to_key.<locals>.K"), hasDict := false, slotNames := [(Str.ofString "obj")], subclasses := [], abstract := false, collection := none, hasDel := false }), #[(some (.ref a131)), none, (some (.str (Str.ofString "K") u78)), (some (.str (Str.ofString "cmp_to_key.<locals>.K") u81)), (some (.builtin "object.__new__")), (some (.bool false))]⟩) ?ht Ds12 1 rfl ?hu rfl (fun hDs13 Ds13 => ?_); (case ht => with_unfolding_all rfl); (case hu => with_unfolding_all rfl); clear Ds12; simp only [List.set_cons_succ, List.set_cons_zero] at Ds13
  refine' e_load ?ht (Md.at Ds13 2 _ _ rfl) ?_; (case ht => with_unfolding_all rfl)
  refine' e_fresh ?ht (fun u100 tk' => ?_); (case ht => with_unfolding_all rfl)
  refine' e_load ?ht (Md.at Ds13 2 _ _ rfl) ?_; (case ht => with_unfolding_all rfl)
  refine' e_update (o' := ⟨(.type "dict"), none, (.dict #[⟨PyData.keyHash w.params (Str.ofString "__module__"), (.str (Str.ofString "__module__") u80), (.str (Str.ofString "cpy313.functools") u85)⟩, ⟨PyData.keyHash w.params (Str.ofString "__firstlineno__"), (.str (Str.ofString "__firstlineno__") u84), (.int 4 u83)⟩, ⟨PyData.keyHash w.params (Str.ofString "__slots__"), (.str (Str.ofString "__slots__") u88), (.ref a135)⟩, ⟨PyData.keyHash w.params (Str.ofString "__init__"), (.str (Str.ofString "__init__") u89), (.ref a136)⟩, ⟨PyData.keyHash w.params (Str.ofString "__lt__"), (.str (Str.ofString "__lt__") u90), (.ref a138)⟩, ⟨PyData.keyHash w.params (Str.ofString "__gt__"), (.str (Str.ofString "__gt__") u91), (.ref a140)⟩, ⟨PyData.keyHash w.params (Str.ofString "__eq__"), (.str (Str.ofString "__eq__") u92), (.ref a142)⟩, ⟨PyData.keyHash w.params (Str.ofString "__le__"), (.str (Str.ofString "__le__") u93), (.ref a144)⟩, ⟨PyData.keyHash w.params (Str.ofString "__ge__"), (.str (Str.ofString "__ge__") u94), (.ref a146)⟩, ⟨PyData.keyHash w.params (Str.ofString "__hash__"), (.str (Str.ofString "__hash__") u95), .none⟩, ⟨PyData.keyHash w.params (Str.ofString "__static_attributes__"), (.str (Str.ofString "__static_attributes__") u97), (.ref a147)⟩, ⟨PyData.keyHash w.params (Str.ofString "obj"), (.str (Str.ofString "obj") u99), (.ref a151)⟩, ⟨PyData.keyHash w.params (Str.ofString "__doc__"), (.str (Str.ofString "__doc__") u100), .none⟩] 3), #[]⟩) ?ht Ds13 2 rfl ?hu rfl (fun hDs14 Ds14 => ?_); (case ht => with_unfolding_all rfl); (case hu => with_unfolding_all rfl); clear Ds13; simp only [List.set_cons_succ, List.set_cons_zero] at Ds14
  refine' e_load ?ht (Md.at Ds14 2 _ _ rfl) ?_; (case ht => with_unfolding_all rfl)
  refine' e_load ?ht (Md.at Ds14 2 _ _ rfl) ?_; (case ht => with_unfolding_all rfl)
  refine' e_load ?ht (Md.at Ds14 2 _ _ rfl) ?_; (case ht => with_unfolding_all rfl)
  refine' e_load ?ht (Md.at Ds14 2 _ _ rfl) ?_; (case ht => with_unfolding_all rfl)
  refine' e_load ?ht (Md.old Ds14 hO135 rfl) ?_; (case ht => with_unfolding_all rfl)
  refine' e_load ?ht (Md.old Ds14 hO136 rfl) ?_; (case ht => with_unfolding_all rfl)
  refine' e_load ?ht (Md.old Ds14 hO138 rfl) ?_; (case ht => with_unfolding_all rfl)
  refine' e_load ?ht (Md.old Ds14 hO140 rfl) ?_; (case ht => with_unfolding_all rfl)
  refine' e_load ?ht (Md.old Ds14 hO142 rfl) ?_; (case ht => with_unfolding_all rfl)
  refine' e_load ?ht (Md.old Ds14 hO144 rfl) ?_; (case ht => with_unfolding_all rfl)
  refine' e_load ?ht (Md.old Ds14 hO146 rfl) ?_; (case ht => with_unfolding_all rfl)
  refine' e_load ?ht (Md.old Ds14 hO147 rfl) ?_; (case ht => with_unfolding_all rfl)
  refine' e_load ?ht (Md.at Ds14 0 _ _ rfl) ?_; (case ht => with_unfolding_all rfl)
  refine' e_call ?ht ?_; (case ht => with_unfolding_all rfl); refine' s_super (Md.at Ds14 1 _ _ rfl) ⟨fun a152 h152 tk152 M152 => ?_⟩; (try exact []); have Ds15 := Md.more Ds14 M152; simp only [List.cons_append, List.nil_append] at Ds15; clear Ds14 M152
  refine' e_fresh ?ht (fun u101 tk' => ?_); (case ht => with_unfolding_all rfl)
  refine' e_load ?ht (Md.at Ds15 0 _ _ rfl) ?_; (case ht => with_unfolding_all rfl)
  refine' e_call ?ht ?_; (case ht => with_unfolding_all rfl); refine' s_superget (Md.old Ds15 hO2 rfl) (Md.at Ds15 2 _ _ rfl) (Md.at Ds15 0 _ _ rfl) (fun a153 h153 tk153 M153 => ?_); (try exact []); have Ds16 := Md.more Ds15 M153; simp only [List.cons_append, List.nil_append] at Ds16; clear Ds15 M153
  refine' e_call ?ht ?_; (case ht => with_unfolding_all rfl); refine' s_initsub (Md.at Ds16 3 _ _ rfl) (Md.at Ds16 0 _ _ rfl) ⟨fun tk154 => ?_⟩; (try exact [])
  refine e_pure (by with_unfolding_all rfl) ?_
  exact hret a149 a150 a151 u98 u99 u100 _ _ (Md.sub Ds16 (.cons _ (.cons _ (.cons_cons _ (.cons_cons _ (.cons_cons _ (.cons _ .slnil)))))))
end Mine
end

section
-- TC
open PySem PySem.W PyProof.Rows PySem.Builtin PySem.W.X
set_option maxRecDepth 100000
set_option maxHeartbeats 0
namespace Mine
theorem typeCallT {prog : Program} {w : World} {A : Around} {h₁ : Heap} {d : Drawn} {tk : Nat} {os : OsState} {Q : Result → Shared → Prop} {E : Value → Shared → Prop} {a131 a133 a135 a136 a138 a140 a142 a144 a146 a147 : Addr} {f1 f2 f3 f4 f5 f6 : FuncData} {u78 u87 u96 u80 u81 u82 u83 u84 u85 u88 u89 u90 u91 u92 u93 u94 u95 u97 : Tok}
   {l : List Value} (hO2 : h₁.get? 2 = some statO) (hO131 : h₁.get? a131 = some ⟨.type "tuple", none, .seq #[.type "object"] 0, #[]⟩) (hO133 : h₁.get? a133 = some ⟨(.type "dict"), none, (.dict #[⟨PyData.keyHash w.params (Str.ofString "__module__"), (.str (Str.ofString "__module__") u80), (.str (Str.ofString "cpy313.functools") u85)⟩, ⟨PyData.keyHash w.params (Str.ofString "__qualname__"), (.str (Str.ofString "__qualname__") u82), (.str (Str.ofString "cmp_to_key.<locals>.K") u81)⟩, ⟨PyData.keyHash w.params (Str.ofString "__firstlineno__"), (.str (Str.ofString "__firstlineno__") u84), (.int 4 u83)⟩, ⟨PyData.keyHash w.params (Str.ofString "__slots__"), (.str (Str.ofString "__slots__") u88), (.ref a135)⟩, ⟨PyData.keyHash w.params (Str.ofString "__init__"), (.str (Str.ofString "__init__") u89), (.ref a136)⟩, ⟨PyData.keyHash w.params (Str.ofString "__lt__"), (.str (Str.ofString "__lt__") u90), (.ref a138)⟩, ⟨PyData.keyHash w.params (Str.ofString "__gt__"), (.str (Str.ofString "__gt__") u91), (.ref a140)⟩, ⟨PyData.keyHash w.params (Str.ofString "__eq__"), (.str (Str.ofString "__eq__") u92), (.ref a142)⟩, ⟨PyData.keyHash w.params (Str.ofString "__le__"), (.str (Str.ofString "__le__") u93), (.ref a144)⟩, ⟨PyData.keyHash w.params (Str.ofString "__ge__"), (.str (Str.ofString "__ge__") u94), (.ref a146)⟩, ⟨PyData.keyHash w.params (Str.ofString "__hash__"), (.str (Str.ofString "__hash__") u95), .none⟩, ⟨PyData.keyHash w.params (Str.ofString "__static_attributes__"), (.str (Str.ofString "__static_attributes__") u97), (.ref a147)⟩] 12), #[]⟩) (hO135 : h₁.get? a135 = some ⟨.type "list", none, .seq #[.str (Str.ofString "obj") u87] 0, #[]⟩)
   (hO136 : h₁.get? a136 = some ⟨.type "function", none, .func f1, #[]⟩) (hO138 : h₁.get? a138 = some ⟨.type "function", none, .func f2, #[]⟩) (hO140 : h₁.get? a140 = some ⟨.type "function", none, .func f3, #[]⟩) (hO142 : h₁.get? a142 = some ⟨.type "function", none, .func f4, #[]⟩) (hO144 : h₁.get? a144 = some ⟨.type "function", none, .func f5, #[]⟩) (hO146 : h₁.get? a146 = some ⟨.type "function", none, .func f6, #[]⟩)
   (hO147 : h₁.get? a147 = some ⟨.type "tuple", none, .seq #[.str (Str.ofString "obj") u96] 0, #[]⟩) (hns : (a133 == sysModules) = false)
   (hret : ∀ a149 a150 a151 u98 u99 u100 h' tk', Md [] h₁ h' [(a151, ⟨(.type "member_descriptor"), none, (.fields #[(.str (Str.ofString "obj") u98), (.ref a150), (.builtin "proto.slot"), (.builtin "proto.slot#set"), (.int 0 0)]), #[]⟩), (a150, clsO a150 a149 a131 u78 u81), (a149, ⟨(.type "dict"), none, (.dict #[⟨PyData.keyHash w.params (Str.ofString "__module__"), (.str (Str.ofString "__module__") u80), (.str (Str.ofString "cpy313.functools") u85)⟩, ⟨PyData.keyHash w.params (Str.ofString "__firstlineno__"), (.str (Str.ofString "__firstlineno__") u84), (.int 4 u83)⟩, ⟨PyData.keyHash w.params (Str.ofString "__slots__"), (.str (Str.ofString "__slots__") u88), (.ref a135)⟩, ⟨PyData.keyHash w.params (Str.ofString "__init__"), (.str (Str.ofString "__init__") u89), (.ref a136)⟩, ⟨PyData.keyHash w.params (Str.ofString "__lt__"), (.str (Str.ofString "__lt__") u90), (.ref a138)⟩, ⟨PyData.keyHash w.params (Str.ofString "__gt__"), (.str (Str.ofString "__gt__") u91), (.ref a140)⟩, ⟨PyData.keyHash w.params (Str.ofString "__eq__"), (.str (Str.ofString "__eq__") u92), (.ref a142)⟩, ⟨PyData.keyHash w.params (Str.ofString "__le__"), (.str (Str.ofString "__le__") u93), (.ref a144)⟩, ⟨PyData.keyHash w.params (Str.ofString "__ge__"), (.str (Str.ofString "__ge__") u94), (.ref a146)⟩, ⟨PyData.keyHash w.params (Str.ofString "__hash__"), (.str (Str.ofString "__hash__") u95), .none⟩, ⟨PyData.keyHash w.params (Str.ofString "__static_attributes__"), (.str (Str.ofString "__static_attributes__") u97), (.ref a147)⟩, ⟨PyData.keyHash w.params (Str.ofString "obj"), (.str (Str.ofString "obj") u99), (.ref a151)⟩, ⟨PyData.keyHash w.params (Str.ofString "__doc__"), (.str (Str.ofString "__doc__") u100), .none⟩] 3), #[]⟩)] → Q (.ok (.ret (.ref a150))) ⟨h', #[], d, tk', os⟩) :
   wpAny (model prog w) A (Sem.call (.call (.type "type") ⟨[.str (Str.ofString "K") u78, .ref a131, .ref a133], []⟩) none false l Sem.pure) Q E ⟨h₁, #[], d, tk, os⟩ := by
  refine x_call ?_ (by intro h; cases h)
  refine x_code ?_
  refine e_pure (a := .again (.builtin "type.__call__" ⟨[.type "type", .str (Str.ofString "K") u78, .ref a131, .ref a133], []⟩)) (by kernel_rfl) ?_
  refine ⟨by kernel_rfl, codeAny_builtin (b := PySem.Builtin.«type.__call__») (entryFor_of_tree (by kernel_rfl)) ?_⟩
  refine' e_call ?ht ?_; (case ht => with_unfolding_all rfl)
  refine x_call ?_ (by intro h; cases h)
  refine codeAny_call_builtin_at (b := PySem.Builtin.«type.__new__») (by kernel_rfl) (entryFor_of_tree (by kernel_rfl)) ?_
  refine e_pure (a := ()) (by kernel_rfl) ?_
  refine typeNewT hO2 hO131 hO133 hO135 hO136 hO138 hO140 hO142 hO144 hO146 hO147 hns (fun a149 a150 a151 u98 u99 u100 h' tk' D => ?_)
  refine wpAny_pure ?_
  refine' e_load ?ht (Md.at D 1 _ _ rfl) ?_; (case ht => with_unfolding_all rfl)
  refine' e_load ?ht (Md.at D 1 _ _ rfl) ?_; (case ht => with_unfolding_all rfl)
  refine' e_call ?ht ?_; (case ht => with_unfolding_all rfl)
  refine' s_typeinit (Md.at D 1 _ _ rfl) ⟨fun tk154 => ?_⟩; (try exact [])
  refine e_pure (a := .done (.ret (.ref a150))) (by with_unfolding_all rfl) ?_
  exact wpAny_pure (hret a149 a150 a151 u98 u99 u100 _ _ D)
end Mine
end

section
-- Sub4
open PySem PySem.W PyProof.Rows PySem.Builtin PySem.W.X
set_option maxRecDepth 100000
set_option maxHeartbeats 0
namespace Mine
local macro_rules | `(tactic| x_close) => `(tactic| ((rename RetW _ => hR); first | (apply (RetW.out hR); with_unfolding_all assumption) | (apply (RetW.out hR))))
section
variable {prog : Program} {w : World} {A : Around} {Q : Result → Shared → Prop} {E : Value → Shared → Prop} {h : Heap} {d : Drawn} {tk : Nat} {os : OsState} {l : List Value}
theorem s_prep1 {u : Tok}
   (hret : RetW (∀ r h' tk', Mem h h' [] [(r, ⟨.type "builtin_function_or_method", none, .fields #[.builtin "type.__prepare__", .type "type"], #[]⟩)] → Q (.ok (.ret (.ref r))) ⟨h', #[], d, tk', os⟩)) :
   wpAny (model prog w) A (Sem.call (.call (.builtin "type.__getattribute__") ⟨[.type "type", .str (Str.ofString "__prepare__") u], []⟩) none false l Sem.pure) Q E ⟨h, #[], d, tk, os⟩ := by
  x_run
theorem s_prep2 {r : Addr} {v1 v2 : Value} (hr : h.get? r = some ⟨.type "builtin_function_or_method", none, .fields #[.builtin "type.__prepare__", .type "type"], #[]⟩)
   (hret : RetW (∀ r' h' tk', Mem h h' [] [(r', ⟨.type "dict", none, .dict #[] 0, #[]⟩)] → Q (.ok (.ret (.ref r'))) ⟨h', #[], d, tk', os⟩)) :
   wpAny (model prog w) A (Sem.call (.call (.ref r) ⟨[v1, v2], []⟩) none false l Sem.pure) Q E ⟨h, #[], d, tk, os⟩ := by
  x_run
end
end Mine
end

section
-- T2topx
open PySem PySem.W PyProof.Rows
set_option maxRecDepth 100000
set_option maxHeartbeats 8000000
namespace Mine
open_top hdx for PySem.Challenge.rw_oy0001_02
end Mine
end

section
-- KDz
open PySem PySem.W PyProof.Rows PySem.Builtin PySem.W.X PySem.Calls PySem.Spec
set_option maxRecDepth 100000
set_option maxHeartbeats 0
namespace Mine
noncomputable def KO (w : World) (a : Addr) : Obj := ((hdx.heap_39 w.params).lookup a).getD default
abbrev PRG : Program := PySem.Challenge.rw_oy0001_02.row.prog
theorem noLimit_of {h : Heap} (hO2 : h.get? 2 = some statO) : h.NoLimit := ⟨fun _ => none, ⟨statO, #[], 0, hO2, rfl, by intro e he; simp at he, fun _ => rfl⟩, rfl⟩
theorem evalArgs_one {prog : Program} {w : World} {A : Around} {f : Value} {T : String} {x : Sem Value} {s : Shared} {Q : Args → Shared → Prop} {E : Value → Shared → Prop}
    (hx : wpAny (model prog w) A x (fun u s' => u = .type T ∧ Q ⟨[.type T], []⟩ s') E s) : wpAny (model prog w) A (evalArgs f false [(false, x)] []) Q E s := by
  unfold evalArgs
  refine wpAny_bind (m := spliced [(false, x)]) (spliced_cons (wpAny_mono hx (fun u s' hv => spliced_nil ?_) fun _ _ e => e))
  obtain ⟨rfl, hv⟩ := hv
  exact e_pure (a := (⟨[.type T], []⟩ : Args)) (by with_unfolding_all rfl) hv
/-- the class's block, out of the program -/
def kStmts : List Stmt := match PySem.Challenge.pw_oy0001_02.main.body with
  | _ :: .FunctionDef _ _ (.ClassDef _ _ _ b _ _ _ _ _ _ _ :: _) _ _ _ _ _ _ _ :: _ => b
  | _ => []
def kFn (i : Nat) : Arguments × List Stmt × Scope := match kStmts[i]? with
  | some (.FunctionDef _ a b _ _ _ sc _ _ _) => (a, b, sc)
  | _ => default
/-- a method's template, a method -/
def fnT (i : Nat) (name : String) : FuncData := { name := Str.ofString name, qualname := Str.ofString "cmp_to_key.<locals>.K." ++ Str.ofString name, params := (kFn i).1, body := .stmts (kFn i).2.1, scope := (kFn i).2.2, globals := builtinsNs, closure := [], defaults := .none, kwdefaults := .none }
def fnD (i : Nat) (name : String) (clos : List (Str × Addr)) (code ct : Value) : FuncData := { fnT i name with globals := 3, closure := clos, code := code, closureTuple := ct, pyModule := .str (Str.ofString "law_oy0001_02") 211, builtins := 0 }
end Mine
end

section
-- WQ
open PySem PySem.W PyProof.Rows PySem.Builtin PySem.W.X
set_option maxRecDepth 100000
namespace Mine
/-- a piece of a walk with no new name in it: the heap is any that has taken `i` objects and `j` tokens since the piece began, and shows `news`; `af`, `tf`: the addresses and the tokens that it takes -/
structure Wq (ex : List Addr) (h₁ : Heap) (af : Nat → Addr) (tf : Nat → Tok) (d : Drawn) (os : OsState) (i j : Nat) (news : List (Addr × Obj)) (P : Shared → Prop) : Prop where
  go : ∀ n tk0, (∀ k, af k = n + k) → (∀ k, tf k = tk0 + k) → ∀ h, h.objs.size = n + i → Md ex h₁ h news → P ⟨h, #[], d, tk0 + j, os⟩
section
variable {prog : Program} {w : World} {A : Around} {α : Type} {Q : α → Shared → Prop} {E : Value → Shared → Prop} {ex : List Addr} {h₁ : Heap} {af : Nat → Addr} {tf : Nat → Tok} {d : Drawn} {os : OsState} {i j : Nat} {news : List (Addr × Obj)} {t : Sem α}
theorem Wq.enter {h : Heap} {tk : Nat} {P : Shared → Prop} (D : Md ex h₁ h news) (x : ∀ af tf, Wq ex h₁ af tf d os 0 0 news P) : P ⟨h, #[], d, tk, os⟩ := (x (fun k => h.objs.size + k) (fun k => tk + k)).go h.objs.size tk (fun _ => rfl) (fun _ => rfl) h rfl D
theorem Wq.out {P : Shared → Prop} (x : ∀ h tk, Md ex h₁ h news → P ⟨h, #[], d, tk, os⟩) : Wq ex h₁ af tf d os i j news P := ⟨fun _ _ _ _ h _ D => x h _ D⟩
theorem Wq.map {P P' : Shared → Prop} (f : ∀ h tk, Md ex h₁ h news → P' ⟨h, #[], d, tk, os⟩ → P ⟨h, #[], d, tk, os⟩) (x : Wq ex h₁ af tf d os i j news P') : Wq ex h₁ af tf d os i j news P := ⟨fun n tk0 ha ht h hs D => f _ _ D (x.go n tk0 ha ht h hs D)⟩
theorem w_load {a : Addr} {q : Option Value} {k : Obj → Sem α} {o : Obj} (ht : skim ⟨prog, w.params⟩ 400 t = .load a q k) (m : Nat) (hm : news[m]? = some (a, o)) (x : Wq ex h₁ af tf d os i j news (wpAny (model prog w) A (k o) Q E)) : Wq ex h₁ af tf d os i j news (wpAny (model prog w) A t Q E) :=
  ⟨fun n tk0 ha hk h hs D => e_load ht (D.at m a o hm) (x.go n tk0 ha hk h hs D)⟩
theorem w_loadO {a : Addr} {q : Option Value} {k : Obj → Sem α} {o : Obj} (ht : skim ⟨prog, w.params⟩ 400 t = .load a q k) (ho : h₁.get? a = some o) (hx : ex.contains a = false) (x : Wq ex h₁ af tf d os i j news (wpAny (model prog w) A (k o) Q E)) : Wq ex h₁ af tf d os i j news (wpAny (model prog w) A t Q E) :=
  ⟨fun n tk0 ha hk h hs D => e_load ht (D.old ho hx) (x.go n tk0 ha hk h hs D)⟩
theorem w_alloc {o : Obj} {k : Addr → Sem α} {i' : Nat} (ht : skim ⟨prog, w.params⟩ 400 t = .alloc o k) (hf : o.isFreed = false) (hi : i' = i + 1) (x : Wq ex h₁ af tf d os i' j ((af i, o) :: news) (wpAny (model prog w) A (k (af i)) Q E)) : Wq ex h₁ af tf d os i j news (wpAny (model prog w) A t Q E) := by
  subst hi
  refine ⟨fun n tk0 ha hk h hs D => ?_⟩
  refine x_skim 400 ?_
  rw [ht]
  have e : af i = h.objs.size := (ha i).trans hs.symm
  have x' := x.go n tk0 ha hk (h.push o) (by show (h.objs.push o).size = _; rw [Array.size_push, hs]; rfl) (by rw [e]; exact D.alloc hf)
  rw [e] at x'
  exact wpAny_bind (m := alloc o) (f := k) (wpAny_alloc x')
theorem w_update {news' : List (Addr × Obj)} {a : Addr} {q : Option Value} {f : Obj → Obj} {k : Unit → Sem α} {o o' : Obj} (ht : skim ⟨prog, w.params⟩ 400 t = .update a q f k) (m : Nat) (hm : news[m]? = some (a, o)) (hu : f o = o') (hf : o'.isFreed = false) (hn : news.set m (a, o') = news') (x : Wq ex h₁ af tf d os i j news' (wpAny (model prog w) A (k ()) Q E)) : Wq ex h₁ af tf d os i j news (wpAny (model prog w) A t Q E) :=
  ⟨fun n tk0 ha hk h hs D => x_skim 400 (by subst hu; subst hn; rw [ht]; exact wpAny_bind (m := updatePart a q f) (f := k) (wpAny_updatePart (D.at m a o hm) (x.go n tk0 ha hk _ ((Heap.SameBut.update ..).1.trans hs) (D.update hm hf))))⟩
theorem w_fresh {k : Tok → Sem α} {j' : Nat} (ht : skim ⟨prog, w.params⟩ 400 t = .fresh k) (hj : j' = j + 1) (x : Wq ex h₁ af tf d os i j' news (wpAny (model prog w) A (k (tf j)) Q E)) : Wq ex h₁ af tf d os i j news (wpAny (model prog w) A t Q E) := by
  subst hj
  refine ⟨fun n tk0 ha hk h hs D => x_skim 400 ?_⟩
  rw [ht]
  have x' := x.go n tk0 ha hk h hs D
  rw [hk j] at x'
  exact x_fresh x'
theorem w_pure {a : α} (ht : skim ⟨prog, w.params⟩ 400 t = .pure a) (x : Wq ex h₁ af tf d os i j news (Q a)) : Wq ex h₁ af tf d os i j news (wpAny (model prog w) A t Q E) :=
  ⟨fun n tk0 ha hk h hs D => e_pure ht (x.go n tk0 ha hk h hs D)⟩
theorem w_call {c : Code} {hd : Option Value} {gd : Bool} {l : List Value} {k : Result → Sem α} (ht : skim ⟨prog, w.params⟩ 400 t = .call c hd gd l k) (x : Wq ex h₁ af tf d os i j news (wpAny (model prog w) A (Sem.call c hd gd l Sem.pure) (fun r s' => wpAny (model prog w) A (k r) Q E s') E)) : Wq ex h₁ af tf d os i j news (wpAny (model prog w) A t Q E) :=
  ⟨fun n tk0 ha hk h hs D => e_call ht (x.go n tk0 ha hk h hs D)⟩
theorem w_step {β : Type} {m : Sem β} {f : β → Sem α} {a : β} (hm : skim ⟨prog, w.params⟩ 400 m = .pure a) (x : Wq ex h₁ af tf d os i j news (wpAny (model prog w) A (f a) Q E)) : Wq ex h₁ af tf d os i j news (wpAny (model prog w) A (m >>= f) Q E) :=
  ⟨fun n tk0 ha hk h hs D => e_step hm (x.go n tk0 ha hk h hs D)⟩
/-! the same steps, the tree left unreduced: the kernel alone reduces it -/
theorem v_load {a : Addr} {o : Obj} (m : Nat) (hm : news[m]? = some (a, o)) (ht : adL ⟨prog, w.params⟩ t = some a) (x : Wq ex h₁ af tf d os i j news (wpAny (model prog w) A (nxL ⟨prog, w.params⟩ t o) Q E)) : Wq ex h₁ af tf d os i j news (wpAny (model prog w) A t Q E) := by
  unfold adL at ht; unfold nxL at x
  split at ht
  · next e => rw [e] at x; cases ht; exact w_load e m hm x
  · cases ht
theorem v_loadO {a : Addr} {o : Obj} (ho : h₁.get? a = some o) (hx : ex.contains a = false) (ht : adL ⟨prog, w.params⟩ t = some a) (x : Wq ex h₁ af tf d os i j news (wpAny (model prog w) A (nxL ⟨prog, w.params⟩ t o) Q E)) : Wq ex h₁ af tf d os i j news (wpAny (model prog w) A t Q E) := by
  unfold adL at ht; unfold nxL at x
  split at ht
  · next e => rw [e] at x; cases ht; exact w_loadO e ho hx x
  · cases ht
theorem v_alloc {o : Obj} {i' : Nat} (ht : obA ⟨prog, w.params⟩ t = some o) (hf : o.isFreed = false) (hi : i' = i + 1) (x : Wq ex h₁ af tf d os i' j ((af i, o) :: news) (wpAny (model prog w) A (nxA ⟨prog, w.params⟩ t (af i)) Q E)) : Wq ex h₁ af tf d os i j news (wpAny (model prog w) A t Q E) := by
  unfold obA at ht; unfold nxA at x
  split at ht
  · next e => rw [e] at x; cases ht; exact w_alloc e hf hi x
  · cases ht
theorem v_update {news' : List (Addr × Obj)} {a : Addr} {o o' : Obj} (m : Nat) (hm : news[m]? = some (a, o)) (ht : upA ⟨prog, w.params⟩ t o = some (a, o')) (hf : o'.isFreed = false) (hn : news.set m (a, o') = news') (x : Wq ex h₁ af tf d os i j news' (wpAny (model prog w) A (nxU ⟨prog, w.params⟩ t) Q E)) : Wq ex h₁ af tf d os i j news (wpAny (model prog w) A t Q E) := by
  unfold upA at ht; unfold nxU at x
  split at ht
  · next e => rw [e] at x; cases ht; exact w_update e m hm rfl hf hn x
  · cases ht
theorem v_fresh {j' : Nat} (ht : isF ⟨prog, w.params⟩ t = true) (hj : j' = j + 1) (x : Wq ex h₁ af tf d os i j' news (wpAny (model prog w) A (nxF ⟨prog, w.params⟩ t (tf j)) Q E)) : Wq ex h₁ af tf d os i j news (wpAny (model prog w) A t Q E) := by
  unfold isF at ht; unfold nxF at x
  split at ht
  · next e => rw [e] at x; exact w_fresh e hj x
  · cases ht
end
end Mine
end

section
-- CK1z
open PySem PySem.W PyProof.Rows PySem.Builtin PySem.W.X PySem.Calls PySem.Spec
set_option maxRecDepth 100000
set_option maxHeartbeats 0
namespace Mine
theorem ctk1 {w : World} {A : Around} {h₁ : Heap} {d : Drawn} {tk : Nat} {os : OsState} {Q : Result → Shared → Prop} {E : Value → Shared → Prop} {l : List Value} {v : Value} 
   {mb mg : Str → Option Value} {sl4 : Array (Option Value)} (hB : h₁.Ns 0 mb) (hb1 : mb "__build_class__" = some (.builtin "__build_class__")) (hb2 : mb "object" = some (.type "object")) (hG : h₁.Ns 3 mg) (hg2 : mg "object" = none) (hO1 : ∃ o, h₁.get? 1 = some o) (hO2 : h₁.get? 2 = some statO) (hO3 : h₁.get? 3 = some (KO w 3)) (hO4 : h₁.get? 4 = some ⟨.type "module", some 0, .plain, sl4⟩) (hO20 : h₁.get? 20 = some (KO w 20)) (hO21 : h₁.get? 21 = some (KO w 21))
   (hO16 : h₁.get? 16 = some ⟨.none, none, (.fields #[]), #[]⟩)
   (hdp : A.depth + 10 < recursionLimit)
   (hret : ∀ a66 a67 a70 a71 a72 a74 a75 a76 a77 a78 a79 a80 a81 a82 a83 a84 a85 a86 a87 a88 a89 a90 a91 a92 a93 a94 a95 a96 a97 a98 a99 a100 a101 a102 a103 a104 a105 a106 a107 a108 a109 a110 a111 a112 a113 a114 a115 a116 a117 a118 a119 a120 a121 a122 a124 a125 a126 u0 u2 u3 u4 u6 u7 u8 u9 u11 u12 u13 u16 u17 u18 u19 u22 u23 u24 u25 u26 u27 u31 u32 u33 u34 u35 u36 u40 u41 u42 u43 u44 u45 u49 u50 u51 u52 u53 u54 u58 u59 u60 u61 u62 u63 u67 u68 u69 u70 u72 u73 u74 u75 h' tk', Md [16] h₁ h' [(a126, ⟨(.type "member_descriptor"), none, (.fields #[(.str (Str.ofString "obj") u73), (.ref a125), (.builtin "proto.slot"), (.builtin "proto.slot#set"), (.int 0 0)]), #[]⟩), (a125, clsO a125 a124 a67 u0 u9), (a124, ⟨(.type "dict"), none, (.dict #[⟨PyData.keyHash w.params (Str.ofString "__module__"), (.str (Str.ofString "__module__") u8), (.str (Str.ofString "cpy313.functools") u13)⟩, ⟨PyData.keyHash w.params (Str.ofString "__firstlineno__"), (.str (Str.ofString "__firstlineno__") u12), (.int 4 u11)⟩, ⟨PyData.keyHash w.params (Str.ofString "__slots__"), (.str (Str.ofString "__slots__") u16), (.ref a74)⟩, ⟨PyData.keyHash w.params (Str.ofString "__init__"), (.str (Str.ofString "__init__") u24), (.ref a81)⟩, ⟨PyData.keyHash w.params (Str.ofString "__lt__"), (.str (Str.ofString "__lt__") u33), (.ref a89)⟩, ⟨PyData.keyHash w.params (Str.ofString "__gt__"), (.str (Str.ofString "__gt__") u42), (.ref a97)⟩, ⟨PyData.keyHash w.params (Str.ofString "__eq__"), (.str (Str.ofString "__eq__") u51), (.ref a105)⟩, ⟨PyData.keyHash w.params (Str.ofString "__le__"), (.str (Str.ofString "__le__") u60), (.ref a113)⟩, ⟨PyData.keyHash w.params (Str.ofString "__ge__"), (.str (Str.ofString "__ge__") u69), (.ref a121)⟩, ⟨PyData.keyHash w.params (Str.ofString "__hash__"), (.str (Str.ofString "__hash__") u70), .none⟩, ⟨PyData.keyHash w.params (Str.ofString "__static_attributes__"), (.str (Str.ofString "__static_attributes__") u72), (.ref a122)⟩, ⟨PyData.keyHash w.params (Str.ofString "obj"), (.str (Str.ofString "obj") u74), (.ref a126)⟩, ⟨PyData.keyHash w.params (Str.ofString "__doc__"), (.str (Str.ofString "__doc__") u75), .none⟩] 3), #[]⟩), (a121, ⟨(.type "function"), none, (.func (fnD 7 "__ge__" [((Str.ofString "mycmp"), a66)] (.ref a120) (.ref a114))), #[]⟩), (a120, ⟨(.type "code"), none, (.fields #[(.str (Str.ofString "__ge__") u61), (.str (Str.ofString "cmp_to_key.<locals>.K.__ge__") u62), (.str (Str.ofString "/claim/cut.py") u63), (.int 23 0), (.int 2 0), (.int 0 0), (.int 0 0), (.int 19 0), (.ref a115), (.bool true), (.int 181 0), (.ref a116), .none, (.ref a117), (.ref a118), (.ref a119), (.int ((u67 : Nat) : Int) 0), (.int 23 0), (.str (Str.ofString "/claim/cut.py") u68)]), #[]⟩), (a113, ⟨(.type "function"), none, (.func (fnD 6 "__le__" [((Str.ofString "mycmp"), a66)] (.ref a112) (.ref a106))), #[]⟩), (a112, ⟨(.type "code"), none, (.fields #[(.str (Str.ofString "__le__") u52), (.str (Str.ofString "cmp_to_key.<locals>.K.__le__") u53), (.str (Str.ofString "/claim/cut.py") u54), (.int 20 0), (.int 2 0), (.int 0 0), (.int 0 0), (.int 19 0), (.ref a107), (.bool true), (.int 181 0), (.ref a108), .none, (.ref a109), (.ref a110), (.ref a111), (.int ((u58 : Nat) : Int) 0), (.int 20 0), (.str (Str.ofString "/claim/cut.py") u59)]), #[]⟩), (a105, ⟨(.type "function"), none, (.func (fnD 5 "__eq__" [((Str.ofString "mycmp"), a66)] (.ref a104) (.ref a98))), #[]⟩), (a104, ⟨(.type "code"), none, (.fields #[(.str (Str.ofString "__eq__") u43), (.str (Str.ofString "cmp_to_key.<locals>.K.__eq__") u44), (.str (Str.ofString "/claim/cut.py") u45), (.int 17 0), (.int 2 0), (.int 0 0), (.int 0 0), (.int 19 0), (.ref a99), (.bool true), (.int 181 0), (.ref a100), .none, (.ref a101), (.ref a102), (.ref a103), (.int ((u49 : Nat) : Int) 0), (.int 17 0), (.str (Str.ofString "/claim/cut.py") u50)]), #[]⟩), (a97, ⟨(.type "function"), none, (.func (fnD 4 "__gt__" [((Str.ofString "mycmp"), a66)] (.ref a96) (.ref a90))), #[]⟩), (a96, ⟨(.type "code"), none, (.fields #[(.str (Str.ofString "__gt__") u34), (.str (Str.ofString "cmp_to_key.<locals>.K.__gt__") u35), (.str (Str.ofString "/claim/cut.py") u36), (.int 14 0), (.int 2 0), (.int 0 0), (.int 0 0), (.int 19 0), (.ref a91), (.bool true), (.int 181 0), (.ref a92), .none, (.ref a93), (.ref a94), (.ref a95), (.int ((u40 : Nat) : Int) 0), (.int 14 0), (.str (Str.ofString "/claim/cut.py") u41)]), #[]⟩), (a89, ⟨(.type "function"), none, (.func (fnD 3 "__lt__" [((Str.ofString "mycmp"), a66)] (.ref a88) (.ref a82))), #[]⟩), (a88, ⟨(.type "code"), none, (.fields #[(.str (Str.ofString "__lt__") u25), (.str (Str.ofString "cmp_to_key.<locals>.K.__lt__") u26), (.str (Str.ofString "/claim/cut.py") u27), (.int 11 0), (.int 2 0), (.int 0 0), (.int 0 0), (.int 19 0), (.ref a83), (.bool true), (.int 181 0), (.ref a84), .none, (.ref a85), (.ref a86), (.ref a87), (.int ((u31 : Nat) : Int) 0), (.int 11 0), (.str (Str.ofString "/claim/cut.py") u32)]), #[]⟩), (a81, ⟨(.type "function"), none, (.func (fnD 2 "__init__" [] (.ref a80) .none)), #[]⟩), (a80, ⟨(.type "code"), none, (.fields #[(.str (Str.ofString "__init__") u17), (.str (Str.ofString "cmp_to_key.<locals>.K.__init__") u18), (.str (Str.ofString "/claim/cut.py") u19), (.int 8 0), (.int 2 0), (.int 0 0), (.int 0 0), (.int 19 0), (.ref a75), (.bool true), (.int 181 0), (.ref a76), .none, (.ref a77), (.ref a78), (.ref a79), (.int ((u22 : Nat) : Int) 0), (.int 8 0), (.str (Str.ofString "/claim/cut.py") u23)]), #[]⟩), (a72, ⟨(.type "code"), none, (.fields #[(.str (Str.ofString "K") u2), (.str (Str.ofString "cmp_to_key.<locals>.K") u3), (.str (Str.ofString "/claim/cut.py") u4), (.int 4 0), (.int 0 0), (.int 0 0), (.int 0 0), (.int 0 0), (.ref a70), (.bool true), (.int 181 0), (.ref a71), .none, .none, .none, .none, (.int ((u6 : Nat) : Int) 0), (.int 4 0), (.str (Str.ofString "/claim/cut.py") u7)]), #[]⟩), (a71, ⟨.none, none, (.fields #[(.int 8 0), (.int 8 0), (.ref a80), (.int 11 0), (.int 8 0), (.ref a88), (.int 14 0), (.int 8 0), (.ref a96), (.int 17 0), (.int 8 0), (.ref a104), (.int 20 0), (.int 8 0), (.ref a112), (.int 23 0), (.int 8 0), (.ref a120)]), #[]⟩), (a66, ⟨.type "cell", none, .cell (some v), #[]⟩), (16, ⟨.none, none, (.fields #[(.int 4 0), (.int 4 0), (.ref a72)]), #[]⟩)] → Q (.ok (.ret (.ref a125))) ⟨h', #[], d, tk', os⟩) :
   wpAny (model PRG w) A (Sem.call (.call (.ref 21) ⟨[v], []⟩) none false l Sem.pure) Q E ⟨h₁, #[], d, tk, os⟩ := by
  have D0 : Md [16] h₁ h₁ [(16, ⟨.none, none, (.fields #[]), #[]⟩)] := Md.start (fun p hp => by cases List.mem_singleton.mp hp; exact ⟨hO16, List.mem_singleton.mpr rfl⟩) (List.nodup_cons.mpr ⟨List.not_mem_nil, List.nodup_nil⟩)
  refine x_call ?_ (by intro h; cases h)
  refine codeAny_call_function (A := A.mark none) (by show A.depth < _; omega) hO21 (by with_unfolding_all rfl) (by with_unfolding_all rfl) (by with_unfolding_all rfl) (by with_unfolding_all rfl) ⟨20, _, _, _, by with_unfolding_all rfl, hO20, by with_unfolding_all rfl, by with_unfolding_all rfl⟩ ?_
  refine e_pure (by with_unfolding_all rfl) ?_
  refine' e_alloc (o := ⟨(.type "frame"), none, (.dict #[] 0), #[]⟩) ?ht D0 rfl (fun a65 h65 Ds1 => ?_); (case ht => with_unfolding_all rfl); clear D0
  refine' e_alloc (o := ⟨(.type "cell"), none, (.cell none), #[]⟩) ?ht Ds1 rfl (fun a66 h66 Ds2 => ?_); (case ht => with_unfolding_all rfl); clear Ds1
  refine' e_load ?ht (Md.at Ds2 0 _ _ rfl) ?_; (case ht => with_unfolding_all rfl)
  refine' e_update (o' := ⟨(.type "cell"), none, (.cell (some v)), #[]⟩) ?ht Ds2 0 rfl ?hu rfl (fun hDs3 Ds3 => ?_); (case ht => with_unfolding_all rfl); (case hu => with_unfolding_all rfl); clear Ds2; simp only [List.set_cons_succ, List.set_cons_zero] at Ds3
  refine e_pure (by with_unfolding_all rfl) ?_
  refine ⟨noLimit_of (Md.old Ds3 hO2 rfl), codeAny_func ?_⟩
  have hB3 := hB.at' fun o e => Md.old Ds3 e rfl
  have hG3 := hG.at' fun o e => Md.old Ds3 e rfl
  refine wpAny_execs_cons ?_
  rw [arm_exec_ClassDef]
  refine wpAny_bind (wpAny_pure ?_)
  refine wpAny_bind (wpAny_standAt ?_)
  refine wpAny_bind ?_
  unfold buildClassGuard
  refine wpAny_bind (wpAny_nsGet hB3 ?_)
  rw [hb1]
  refine wpAny_pure ?_
  refine wpAny_bind (wpAny_holding ?_)
  refine wpAny_bind (evalArgs_one (Name_function_global rfl rfl (loadGlobal_builtin hG3 hg2 hB3 hb2 ⟨rfl, ?_⟩) (by decide)))
  refine wpAny_bind (wpAny_standAt (wpAny_holding ?_))
  refine' f_alloc (o := ⟨(.type "tuple"), none, (.seq #[(.type "object")] 0), #[]⟩) ?ht Ds3 rfl (fun a67 h67 Ds4 => ?_); (case ht => kernel_rfl); clear Ds3
  refine' e_fresh ?ht (fun u0 tk' => ?_); (case ht => with_unfolding_all rfl)
  refine' e_fresh ?ht (fun u1 tk' => ?_); (case ht => with_unfolding_all rfl)
  refine' e_call ?ht ?_; (case ht => with_unfolding_all rfl); refine' s_prep1  ⟨fun a68 h68 tk68 M68 => ?_⟩; (try exact []); have Ds5 := Md.more Ds4 M68; simp only [List.cons_append, List.nil_append] at Ds5; clear Ds4 M68
  refine' e_call ?ht ?_; (case ht => with_unfolding_all rfl); refine' s_prep2 (Md.at Ds5 0 _ _ rfl) ⟨fun a69 h69 tk69 M69 => ?_⟩; (try exact []); have Ds6 := Md.more Ds5 M69; simp only [List.cons_append, List.nil_append] at Ds6; clear Ds5 M69
  have hn := Md.ne_old Ds6 0 _ _ rfl hO1.choose_spec rfl
  refine Calls.wpAny_keep ?_
  refine e_step (a := Value.ref a69) (by with_unfolding_all rfl) ?_
  refine e_step (m := notTheModulesDict _ a69) (a := ()) (by unfold notTheModulesDict; rw [show (a69 == sysModules) = false from hn]; rfl) ?_
  refine Wq.enter Ds6 (fun af tf => ?_)
  refine' v_load 0 rfl ?ht ?_; (case ht => kernel_rfl)
  refine' v_loadO hO20 rfl ?ht ?_; (case ht => kernel_rfl)
  refine' w_load ?ht 5 rfl ?_; (case ht => with_unfolding_all rfl)
  refine' v_fresh (j' := 1) ?ht rfl ?_; (case ht => kernel_rfl)
  refine' v_fresh (j' := 2) ?ht rfl ?_; (case ht => kernel_rfl)
  refine' w_fresh (j' := 3) ?ht rfl ?_; (case ht => with_unfolding_all rfl)
  refine' v_fresh (j' := 4) ?ht rfl ?_; (case ht => kernel_rfl)
  refine' v_alloc (o := ⟨(.type "tuple"), none, (.seq #[(.str (Str.ofString "mycmp") (tf 3))] 0), #[]⟩) (i' := 1) ?ht rfl rfl ?_; (case ht => kernel_rfl)
  refine' w_alloc (o := ⟨.none, none, (.fields #[]), #[]⟩) (i' := 2) ?ht rfl rfl ?_; (case ht => with_unfolding_all rfl)
  refine' v_fresh (j' := 5) ?ht rfl ?_; (case ht => kernel_rfl)
  refine' v_fresh (j' := 6) ?ht rfl ?_; (case ht => kernel_rfl)
  refine' w_alloc (o := ⟨(.type "code"), none, (.fields #[(.str (Str.ofString "K") (tf 0)), (.str (Str.ofString "cmp_to_key.<locals>.K") (tf 1)), (.str (Str.ofString "/claim/cut.py") (tf 2)), (.int 4 0), (.int 0 0), (.int 0 0), (.int 0 0), (.int 0 0), (.ref (af 0)), (.bool true), (.int 181 0), (.ref (af 1)), .none, .none, .none, .none, (.int (((tf 4) : Nat) : Int) 0), (.int 4 0), (.str (Str.ofString "/claim/cut.py") (tf 5))]), #[]⟩) (i' := 3) ?ht rfl rfl ?_; (case ht => with_unfolding_all rfl)
  refine' v_load 8 rfl ?ht ?_; (case ht => kernel_rfl)
  refine' v_update (o' := ⟨.none, none, (.fields #[(.int 4 0), (.int 4 0), (.ref (af 2))]), #[]⟩) 8 rfl ?ht rfl ?hn ?_; (case ht => kernel_rfl); (case hn => dsimp only [List.set_cons_succ, List.set_cons_zero])
  refine' w_load ?ht 8 rfl ?_; (case ht => with_unfolding_all rfl)
  refine' v_loadO hO3 rfl ?ht ?_; (case ht => kernel_rfl)
  refine' v_loadO hO4 rfl ?ht ?_; (case ht => kernel_rfl)
  refine' w_loadO ?ht hO3 rfl ?_; (case ht => with_unfolding_all rfl)
  refine' w_alloc (o := ⟨(.type "frame"), none, .plain, #[(some (.ref (af 2))), (some (.ref 3)), (some (.ref a69)), none, (some (.str (Str.ofString "law_oy0001_02") 211)), none, (some (.ref 0))]⟩) (i' := 4) ?ht rfl rfl ?_; (case ht => with_unfolding_all rfl)
  refine Wq.map (fun h tk D z => Calls.wpAny_keep z) ?_
  refine w_step (a := (af 3)) (by with_unfolding_all rfl) ?_
  refine w_step (a := [(Str.ofString "mycmp", a66)]) (by with_unfolding_all rfl) ?_
  refine Wq.map (fun h tk D z => wpAny_holding z) ?_
  refine Wq.map (fun h tk D z => wpAny_bind (wpAny_enterFrame (noLimit_of (Md.old D hO2 rfl)) (by show A.depth + 1 < _; omega) z)) ?_
  refine' v_load 4 rfl ?ht ?_; (case ht => kernel_rfl)
  refine' v_load 4 rfl ?ht ?_; (case ht => kernel_rfl)
  refine' w_loadO ?ht hO3 rfl ?_; (case ht => with_unfolding_all rfl)
  refine' v_load 4 rfl ?ht ?_; (case ht => kernel_rfl)
  refine' v_fresh (j' := 7) ?ht rfl ?_; (case ht => kernel_rfl)
  refine' w_load ?ht 4 rfl ?_; (case ht => with_unfolding_all rfl)
  refine' v_update (o' := ⟨(.type "dict"), none, (.dict #[⟨PyData.keyHash w.params (Str.ofString "__module__"), (.str (Str.ofString "__module__") (tf 6)), (.str (Str.ofString "law_oy0001_02") 211)⟩] 1), #[]⟩) 4 rfl ?ht rfl ?hn ?_; (case ht => kernel_rfl); (case hn => dsimp only [List.set_cons_succ, List.set_cons_zero])
  refine' v_fresh (j' := 8) ?ht rfl ?_; (case ht => kernel_rfl)
  refine' w_load ?ht 4 rfl ?_; (case ht => with_unfolding_all rfl)
  refine' v_fresh (j' := 9) ?ht rfl ?_; (case ht => kernel_rfl)
  refine' v_load 4 rfl ?ht ?_; (case ht => kernel_rfl)
  refine' w_update (o' := ⟨(.type "dict"), none, (.dict #[⟨PyData.keyHash w.params (Str.ofString "__module__"), (.str (Str.ofString "__module__") (tf 6)), (.str (Str.ofString "law_oy0001_02") 211)⟩, ⟨PyData.keyHash w.params (Str.ofString "__qualname__"), (.str (Str.ofString "__qualname__") (tf 8)), (.str (Str.ofString "cmp_to_key.<locals>.K") (tf 7))⟩] 2), #[]⟩) ?ht 4 rfl ?hu rfl ?hn ?_; (case ht => with_unfolding_all rfl); (case hu => with_unfolding_all rfl); (case hn => dsimp only [List.set_cons_succ, List.set_cons_zero])
  refine' v_fresh (j' := 10) ?ht rfl ?_; (case ht => kernel_rfl)
  refine' v_load 4 rfl ?ht ?_; (case ht => kernel_rfl)
  refine' w_fresh (j' := 11) ?ht rfl ?_; (case ht => with_unfolding_all rfl)
  refine' v_load 4 rfl ?ht ?_; (case ht => kernel_rfl)
  refine' w_update (o' := ⟨(.type "dict"), none, (.dict #[⟨PyData.keyHash w.params (Str.ofString "__module__"), (.str (Str.ofString "__module__") (tf 6)), (.str (Str.ofString "law_oy0001_02") 211)⟩, ⟨PyData.keyHash w.params (Str.ofString "__qualname__"), (.str (Str.ofString "__qualname__") (tf 8)), (.str (Str.ofString "cmp_to_key.<locals>.K") (tf 7))⟩, ⟨PyData.keyHash w.params (Str.ofString "__firstlineno__"), (.str (Str.ofString "__firstlineno__") (tf 10)), (.int 4 (tf 9))⟩] 3), #[]⟩) ?ht 4 rfl ?hu rfl ?hn ?_; (case ht => with_unfolding_all rfl); (case hu => with_unfolding_all rfl); (case hn => dsimp only [List.set_cons_succ, List.set_cons_zero])
  refine' w_call ?ht ?_; (case ht => with_unfolding_all rfl)
  refine Wq.map (fun h tk D z => x_call z (by intro h; cases h)) ?_
  refine Wq.map (fun h tk D z => codeAny_body (by with_unfolding_all rfl) (by with_unfolding_all rfl) z) ?_
  refine' v_fresh (j' := 12) ?ht rfl ?_; (case ht => kernel_rfl)
  refine' v_load 4 rfl ?ht ?_; (case ht => kernel_rfl)
  refine' w_fresh (j' := 13) ?ht rfl ?_; (case ht => with_unfolding_all rfl)
  refine' v_load 4 rfl ?ht ?_; (case ht => kernel_rfl)
  refine' v_update (o' := ⟨(.type "dict"), none, (.dict #[⟨PyData.keyHash w.params (Str.ofString "__module__"), (.str (Str.ofString "__module__") (tf 6)), (.str (Str.ofString "cpy313.functools") (tf 11))⟩, ⟨PyData.keyHash w.params (Str.ofString "__qualname__"), (.str (Str.ofString "__qualname__") (tf 8)), (.str (Str.ofString "cmp_to_key.<locals>.K") (tf 7))⟩, ⟨PyData.keyHash w.params (Str.ofString "__firstlineno__"), (.str (Str.ofString "__firstlineno__") (tf 10)), (.int 4 (tf 9))⟩] 3), #[]⟩) 4 rfl ?ht rfl ?hn ?_; (case ht => kernel_rfl); (case hn => dsimp only [List.set_cons_succ, List.set_cons_zero])
  refine' w_fresh (j' := 14) ?ht rfl ?_; (case ht => with_unfolding_all rfl)
  refine' v_alloc (o := ⟨(.type "list"), none, (.seq #[(.str (Str.ofString "obj") (tf 13))] 0), #[]⟩) (i' := 5) ?ht rfl rfl ?_; (case ht => kernel_rfl)
  refine' v_load 5 rfl ?ht ?_; (case ht => kernel_rfl)
  refine' w_fresh (j' := 15) ?ht rfl ?_; (case ht => with_unfolding_all rfl)
  refine' v_load 5 rfl ?ht ?_; (case ht => kernel_rfl)
  refine' v_update (o' := ⟨(.type "dict"), none, (.dict #[⟨PyData.keyHash w.params (Str.ofString "__module__"), (.str (Str.ofString "__module__") (tf 6)), (.str (Str.ofString "cpy313.functools") (tf 11))⟩, ⟨PyData.keyHash w.params (Str.ofString "__qualname__"), (.str (Str.ofString "__qualname__") (tf 8)), (.str (Str.ofString "cmp_to_key.<locals>.K") (tf 7))⟩, ⟨PyData.keyHash w.params (Str.ofString "__firstlineno__"), (.str (Str.ofString "__firstlineno__") (tf 10)), (.int 4 (tf 9))⟩, ⟨PyData.keyHash w.params (Str.ofString "__slots__"), (.str (Str.ofString "__slots__") (tf 14)), (.ref (af 4))⟩] 4), #[]⟩) 5 rfl ?ht rfl ?hn ?_; (case ht => kernel_rfl); (case hn => dsimp only [List.set_cons_succ, List.set_cons_zero])
  refine' w_load ?ht 2 rfl ?_; (case ht => with_unfolding_all rfl)
  refine' v_load 3 rfl ?ht ?_; (case ht => kernel_rfl)
  refine' v_fresh (j' := 16) ?ht rfl ?_; (case ht => kernel_rfl)
  refine' w_fresh (j' := 17) ?ht rfl ?_; (case ht => with_unfolding_all rfl)
  refine' v_fresh (j' := 18) ?ht rfl ?_; (case ht => kernel_rfl)
  refine' v_alloc (o := ⟨(.type "tuple"), none, (.seq #[] 0), #[]⟩) (i' := 6) ?ht rfl rfl ?_; (case ht => kernel_rfl)
  refine' w_alloc (o := ⟨.none, none, (.fields #[]), #[]⟩) (i' := 7) ?ht rfl rfl ?_; (case ht => with_unfolding_all rfl)
  refine' v_fresh (j' := 19) ?ht rfl ?_; (case ht => kernel_rfl)
  refine' v_fresh (j' := 20) ?ht rfl ?_; (case ht => kernel_rfl)
  refine' w_alloc (o := ⟨(.type "tuple"), none, (.seq #[(.str (Str.ofString "self") (tf 18)), (.str (Str.ofString "obj") (tf 19))] 0), #[]⟩) (i' := 8) ?ht rfl rfl ?_; (case ht => with_unfolding_all rfl)
  refine' v_alloc (o := ⟨(.type "tuple"), none, (.seq #[] 0), #[]⟩) (i' := 9) ?ht rfl rfl ?_; (case ht => kernel_rfl)
  refine' v_alloc (o := ⟨.none, none, (.func (fnT 2 "__init__")), #[]⟩) (i' := 10) ?ht rfl rfl ?_; (case ht => kernel_rfl)
  refine' w_fresh (j' := 21) ?ht rfl ?_; (case ht => with_unfolding_all rfl)
  refine' v_fresh (j' := 22) ?ht rfl ?_; (case ht => kernel_rfl)
  refine' v_alloc (o := ⟨(.type "code"), none, (.fields #[(.str (Str.ofString "__init__") (tf 15)), (.str (Str.ofString "cmp_to_key.<locals>.K.__init__") (tf 16)), (.str (Str.ofString "/claim/cut.py") (tf 17)), (.int 8 0), (.int 2 0), (.int 0 0), (.int 0 0), (.int 19 0), (.ref (af 5)), (.bool true), (.int 181 0), (.ref (af 6)), .none, (.ref (af 7)), (.ref (af 8)), (.ref (af 9)), (.int (((tf 20) : Nat) : Int) 0), (.int 8 0), (.str (Str.ofString "/claim/cut.py") (tf 21))]), #[]⟩) (i' := 11) ?ht rfl rfl ?_; (case ht => kernel_rfl)
  refine' w_load ?ht 9 rfl ?_; (case ht => with_unfolding_all rfl)
  refine' v_update (o' := ⟨.none, none, (.fields #[(.int 8 0), (.int 8 0), (.ref (af 10))]), #[]⟩) 9 rfl ?ht rfl ?hn ?_; (case ht => kernel_rfl); (case hn => dsimp only [List.set_cons_succ, List.set_cons_zero])
  refine' v_load 9 rfl ?ht ?_; (case ht => kernel_rfl)
  refine' w_loadO ?ht hO3 rfl ?_; (case ht => with_unfolding_all rfl)
  refine' v_loadO hO4 rfl ?ht ?_; (case ht => kernel_rfl)
  refine' v_loadO hO3 rfl ?ht ?_; (case ht => kernel_rfl)
  refine' w_alloc (o := ⟨(.type "function"), none, (.func (fnD 2 "__init__" [] (.ref (af 10)) .none)), #[]⟩) (i' := 12) ?ht rfl rfl ?_; (case ht => with_unfolding_all rfl)
  refine' v_load 12 rfl ?ht ?_; (case ht => kernel_rfl)
  refine' v_fresh (j' := 23) ?ht rfl ?_; (case ht => kernel_rfl)
  refine' w_load ?ht 12 rfl ?_; (case ht => with_unfolding_all rfl)
  refine' v_update (o' := ⟨(.type "dict"), none, (.dict #[⟨PyData.keyHash w.params (Str.ofString "__module__"), (.str (Str.ofString "__module__") (tf 6)), (.str (Str.ofString "cpy313.functools") (tf 11))⟩, ⟨PyData.keyHash w.params (Str.ofString "__qualname__"), (.str (Str.ofString "__qualname__") (tf 8)), (.str (Str.ofString "cmp_to_key.<locals>.K") (tf 7))⟩, ⟨PyData.keyHash w.params (Str.ofString "__firstlineno__"), (.str (Str.ofString "__firstlineno__") (tf 10)), (.int 4 (tf 9))⟩, ⟨PyData.keyHash w.params (Str.ofString "__slots__"), (.str (Str.ofString "__slots__") (tf 14)), (.ref (af 4))⟩, ⟨PyData.keyHash w.params (Str.ofString "__init__"), (.str (Str.ofString "__init__") (tf 22)), (.ref (af 11))⟩] 5), #[]⟩) 12 rfl ?ht rfl ?hn ?_; (case ht => kernel_rfl); (case hn => dsimp only [List.set_cons_succ, List.set_cons_zero])
  refine' v_alloc (o := ⟨(.type "tuple"), none, (.seq #[(.ref a66)] 0), #[]⟩) (i' := 13) ?ht rfl rfl ?_; (case ht => kernel_rfl)
  refine' w_load ?ht 10 rfl ?_; (case ht => with_unfolding_all rfl)
  refine' v_load 11 rfl ?ht ?_; (case ht => kernel_rfl)
  refine' v_fresh (j' := 24) ?ht rfl ?_; (case ht => kernel_rfl)
  refine' w_fresh (j' := 25) ?ht rfl ?_; (case ht => with_unfolding_all rfl)
  refine' v_fresh (j' := 26) ?ht rfl ?_; (case ht => kernel_rfl)
  refine' v_fresh (j' := 27) ?ht rfl ?_; (case ht => kernel_rfl)
  refine' w_alloc (o := ⟨(.type "tuple"), none, (.seq #[(.str (Str.ofString "mycmp") (tf 26))] 0), #[]⟩) (i' := 14) ?ht rfl rfl ?_; (case ht => with_unfolding_all rfl)
  refine' v_alloc (o := ⟨.none, none, (.fields #[]), #[]⟩) (i' := 15) ?ht rfl rfl ?_; (case ht => kernel_rfl)
  refine' v_fresh (j' := 28) ?ht rfl ?_; (case ht => kernel_rfl)
  refine' w_fresh (j' := 29) ?ht rfl ?_; (case ht => with_unfolding_all rfl)
  refine' v_alloc (o := ⟨(.type "tuple"), none, (.seq #[(.str (Str.ofString "self") (tf 27)), (.str (Str.ofString "other") (tf 28))] 0), #[]⟩) (i' := 16) ?ht rfl rfl ?_; (case ht => kernel_rfl)
  refine' v_alloc (o := ⟨(.type "tuple"), none, (.seq #[] 0), #[]⟩) (i' := 17) ?ht rfl rfl ?_; (case ht => kernel_rfl)
  refine' w_alloc (o := ⟨.none, none, (.func (fnT 3 "__lt__")), #[]⟩) (i' := 18) ?ht rfl rfl ?_; (case ht => with_unfolding_all rfl)
  refine' v_fresh (j' := 30) ?ht rfl ?_; (case ht => kernel_rfl)
  refine' v_fresh (j' := 31) ?ht rfl ?_; (case ht => kernel_rfl)
  refine' w_alloc (o := ⟨(.type "code"), none, (.fields #[(.str (Str.ofString "__lt__") (tf 23)), (.str (Str.ofString "cmp_to_key.<locals>.K.__lt__") (tf 24)), (.str (Str.ofString "/claim/cut.py") (tf 25)), (.int 11 0), (.int 2 0), (.int 0 0), (.int 0 0), (.int 19 0), (.ref (af 13)), (.bool true), (.int 181 0), (.ref (af 14)), .none, (.ref (af 15)), (.ref (af 16)), (.ref (af 17)), (.int (((tf 29) : Nat) : Int) 0), (.int 11 0), (.str (Str.ofString "/claim/cut.py") (tf 30))]), #[]⟩) (i' := 19) ?ht rfl rfl ?_; (case ht => with_unfolding_all rfl)
  refine' v_load 17 rfl ?ht ?_; (case ht => kernel_rfl)
  refine' v_update (o' := ⟨.none, none, (.fields #[(.int 8 0), (.int 8 0), (.ref (af 10)), (.int 11 0), (.int 8 0), (.ref (af 18))]), #[]⟩) 17 rfl ?ht rfl ?hn ?_; (case ht => kernel_rfl); (case hn => dsimp only [List.set_cons_succ, List.set_cons_zero])
  refine' w_load ?ht 17 rfl ?_; (case ht => with_unfolding_all rfl)
  refine' v_loadO hO3 rfl ?ht ?_; (case ht => kernel_rfl)
  refine' v_loadO hO4 rfl ?ht ?_; (case ht => kernel_rfl)
  refine' w_loadO ?ht hO3 rfl ?_; (case ht => with_unfolding_all rfl)
  refine' v_alloc (o := ⟨(.type "function"), none, (.func (fnD 3 "__lt__" [((Str.ofString "mycmp"), a66)] (.ref (af 18)) (.ref (af 12)))), #[]⟩) (i' := 20) ?ht rfl rfl ?_; (case ht => kernel_rfl)
  refine' v_load 20 rfl ?ht ?_; (case ht => kernel_rfl)
  refine' w_fresh (j' := 32) ?ht rfl ?_; (case ht => with_unfolding_all rfl)
  refine' v_load 20 rfl ?ht ?_; (case ht => kernel_rfl)
  refine' v_update (o' := ⟨(.type "dict"), none, (.dict #[⟨PyData.keyHash w.params (Str.ofString "__module__"), (.str (Str.ofString "__module__") (tf 6)), (.str (Str.ofString "cpy313.functools") (tf 11))⟩, ⟨PyData.keyHash w.params (Str.ofString "__qualname__"), (.str (Str.ofString "__qualname__") (tf 8)), (.str (Str.ofString "cmp_to_key.<locals>.K") (tf 7))⟩, ⟨PyData.keyHash w.params (Str.ofString "__firstlineno__"), (.str (Str.ofString "__firstlineno__") (tf 10)), (.int 4 (tf 9))⟩, ⟨PyData.keyHash w.params (Str.ofString "__slots__"), (.str (Str.ofString "__slots__") (tf 14)), (.ref (af 4))⟩, ⟨PyData.keyHash w.params (Str.ofString "__init__"), (.str (Str.ofString "__init__") (tf 22)), (.ref (af 11))⟩, ⟨PyData.keyHash w.params (Str.ofString "__lt__"), (.str (Str.ofString "__lt__") (tf 31)), (.ref (af 19))⟩] 6), #[]⟩) 20 rfl ?ht rfl ?hn ?_; (case ht => kernel_rfl); (case hn => dsimp only [List.set_cons_succ, List.set_cons_zero])
  refine' w_alloc (o := ⟨(.type "tuple"), none, (.seq #[(.ref a66)] 0), #[]⟩) (i' := 21) ?ht rfl rfl ?_; (case ht => with_unfolding_all rfl)
  refine' v_load 18 rfl ?ht ?_; (case ht => kernel_rfl)
  refine' v_load 19 rfl ?ht ?_; (case ht => kernel_rfl)
  refine' w_fresh (j' := 33) ?ht rfl ?_; (case ht => with_unfolding_all rfl)
  refine' v_fresh (j' := 34) ?ht rfl ?_; (case ht => kernel_rfl)
  refine' v_fresh (j' := 35) ?ht rfl ?_; (case ht => kernel_rfl)
  refine' w_fresh (j' := 36) ?ht rfl ?_; (case ht => with_unfolding_all rfl)
  refine' v_alloc (o := ⟨(.type "tuple"), none, (.seq #[(.str (Str.ofString "mycmp") (tf 35))] 0), #[]⟩) (i' := 22) ?ht rfl rfl ?_; (case ht => kernel_rfl)
  refine' v_alloc (o := ⟨.none, none, (.fields #[]), #[]⟩) (i' := 23) ?ht rfl rfl ?_; (case ht => kernel_rfl)
  refine' w_fresh (j' := 37) ?ht rfl ?_; (case ht => with_unfolding_all rfl)
  refine' v_fresh (j' := 38) ?ht rfl ?_; (case ht => kernel_rfl)
  refine' v_alloc (o := ⟨(.type "tuple"), none, (.seq #[(.str (Str.ofString "self") (tf 36)), (.str (Str.ofString "other") (tf 37))] 0), #[]⟩) (i' := 24) ?ht rfl rfl ?_; (case ht => kernel_rfl)
  refine' w_alloc (o := ⟨(.type "tuple"), none, (.seq #[] 0), #[]⟩) (i' := 25) ?ht rfl rfl ?_; (case ht => with_unfolding_all rfl)
  refine' v_alloc (o := ⟨.none, none, (.func (fnT 4 "__gt__")), #[]⟩) (i' := 26) ?ht rfl rfl ?_; (case ht => kernel_rfl)
  refine' v_fresh (j' := 39) ?ht rfl ?_; (case ht => kernel_rfl)
  refine' w_fresh (j' := 40) ?ht rfl ?_; (case ht => with_unfolding_all rfl)
  refine' v_alloc (o := ⟨(.type "code"), none, (.fields #[(.str (Str.ofString "__gt__") (tf 32)), (.str (Str.ofString "cmp_to_key.<locals>.K.__gt__") (tf 33)), (.str (Str.ofString "/claim/cut.py") (tf 34)), (.int 14 0), (.int 2 0), (.int 0 0), (.int 0 0), (.int 19 0), (.ref (af 21)), (.bool true), (.int 181 0), (.ref (af 22)), .none, (.ref (af 23)), (.ref (af 24)), (.ref (af 25)), (.int (((tf 38) : Nat) : Int) 0), (.int 14 0), (.str (Str.ofString "/claim/cut.py") (tf 39))]), #[]⟩) (i' := 27) ?ht rfl rfl ?_; (case ht => kernel_rfl)
  refine' v_load 25 rfl ?ht ?_; (case ht => kernel_rfl)
  refine' w_update (o' := ⟨.none, none, (.fields #[(.int 8 0), (.int 8 0), (.ref (af 10)), (.int 11 0), (.int 8 0), (.ref (af 18)), (.int 14 0), (.int 8 0), (.ref (af 26))]), #[]⟩) ?ht 25 rfl ?hu rfl ?hn ?_; (case ht => with_unfolding_all rfl); (case hu => with_unfolding_all rfl); (case hn => dsimp only [List.set_cons_succ, List.set_cons_zero])
  refine' v_load 25 rfl ?ht ?_; (case ht => kernel_rfl)
  refine' v_loadO hO3 rfl ?ht ?_; (case ht => kernel_rfl)
  refine' w_loadO ?ht hO4 rfl ?_; (case ht => with_unfolding_all rfl)
  refine' v_loadO hO3 rfl ?ht ?_; (case ht => kernel_rfl)
  refine' v_alloc (o := ⟨(.type "function"), none, (.func (fnD 4 "__gt__" [((Str.ofString "mycmp"), a66)] (.ref (af 26)) (.ref (af 20)))), #[]⟩) (i' := 28) ?ht rfl rfl ?_; (case ht => kernel_rfl)
  refine' w_load ?ht 28 rfl ?_; (case ht => with_unfolding_all rfl)
  refine' v_fresh (j' := 41) ?ht rfl ?_; (case ht => kernel_rfl)
  refine' v_load 28 rfl ?ht ?_; (case ht => kernel_rfl)
  refine' w_update (o' := ⟨(.type "dict"), none, (.dict #[⟨PyData.keyHash w.params (Str.ofString "__module__"), (.str (Str.ofString "__module__") (tf 6)), (.str (Str.ofString "cpy313.functools") (tf 11))⟩, ⟨PyData.keyHash w.params (Str.ofString "__qualname__"), (.str (Str.ofString "__qualname__") (tf 8)), (.str (Str.ofString "cmp_to_key.<locals>.K") (tf 7))⟩, ⟨PyData.keyHash w.params (Str.ofString "__firstlineno__"), (.str (Str.ofString "__firstlineno__") (tf 10)), (.int 4 (tf 9))⟩, ⟨PyData.keyHash w.params (Str.ofString "__slots__"), (.str (Str.ofString "__slots__") (tf 14)), (.ref (af 4))⟩, ⟨PyData.keyHash w.params (Str.ofString "__init__"), (.str (Str.ofString "__init__") (tf 22)), (.ref (af 11))⟩, ⟨PyData.keyHash w.params (Str.ofString "__lt__"), (.str (Str.ofString "__lt__") (tf 31)), (.ref (af 19))⟩, ⟨PyData.keyHash w.params (Str.ofString "__gt__"), (.str (Str.ofString "__gt__") (tf 40)), (.ref (af 27))⟩] 7), #[]⟩) ?ht 28 rfl ?hu rfl ?hn ?_; (case ht => with_unfolding_all rfl); (case hu => with_unfolding_all rfl); (case hn => dsimp only [List.set_cons_succ, List.set_cons_zero])
  refine' v_alloc (o := ⟨(.type "tuple"), none, (.seq #[(.ref a66)] 0), #[]⟩) (i' := 29) ?ht rfl rfl ?_; (case ht => kernel_rfl)
  refine' v_load 26 rfl ?ht ?_; (case ht => kernel_rfl)
  refine' w_load ?ht 27 rfl ?_; (case ht => with_unfolding_all rfl)
  refine' v_fresh (j' := 42) ?ht rfl ?_; (case ht => kernel_rfl)
  refine' v_fresh (j' := 43) ?ht rfl ?_; (case ht => kernel_rfl)
  refine' w_fresh (j' := 44) ?ht rfl ?_; (case ht => with_unfolding_all rfl)
  refine' v_fresh (j' := 45) ?ht rfl ?_; (case ht => kernel_rfl)
  refine' v_alloc (o := ⟨(.type "tuple"), none, (.seq #[(.str (Str.ofString "mycmp") (tf 44))] 0), #[]⟩) (i' := 30) ?ht rfl rfl ?_; (case ht => kernel_rfl)
  refine' w_alloc (o := ⟨.none, none, (.fields #[]), #[]⟩) (i' := 31) ?ht rfl rfl ?_; (case ht => with_unfolding_all rfl)
  refine' v_fresh (j' := 46) ?ht rfl ?_; (case ht => kernel_rfl)
  refine' v_fresh (j' := 47) ?ht rfl ?_; (case ht => kernel_rfl)
  refine' w_alloc (o := ⟨(.type "tuple"), none, (.seq #[(.str (Str.ofString "self") (tf 45)), (.str (Str.ofString "other") (tf 46))] 0), #[]⟩) (i' := 32) ?ht rfl rfl ?_; (case ht => with_unfolding_all rfl)
  refine' v_alloc (o := ⟨(.type "tuple"), none, (.seq #[] 0), #[]⟩) (i' := 33) ?ht rfl rfl ?_; (case ht => kernel_rfl)
  refine' v_alloc (o := ⟨.none, none, (.func (fnT 5 "__eq__")), #[]⟩) (i' := 34) ?ht rfl rfl ?_; (case ht => kernel_rfl)
  refine' w_fresh (j' := 48) ?ht rfl ?_; (case ht => with_unfolding_all rfl)
  refine' v_fresh (j' := 49) ?ht rfl ?_; (case ht => kernel_rfl)
  refine' v_alloc (o := ⟨(.type "code"), none, (.fields #[(.str (Str.ofString "__eq__") (tf 41)), (.str (Str.ofString "cmp_to_key.<locals>.K.__eq__") (tf 42)), (.str (Str.ofString "/claim/cut.py") (tf 43)), (.int 17 0), (.int 2 0), (.int 0 0), (.int 0 0), (.int 19 0), (.ref (af 29)), (.bool true), (.int 181 0), (.ref (af 30)), .none, (.ref (af 31)), (.ref (af 32)), (.ref (af 33)), (.int (((tf 47) : Nat) : Int) 0), (.int 17 0), (.str (Str.ofString "/claim/cut.py") (tf 48))]), #[]⟩) (i' := 35) ?ht rfl rfl ?_; (case ht => kernel_rfl)
  refine' w_load ?ht 33 rfl ?_; (case ht => with_unfolding_all rfl)
  refine' v_update (o' := ⟨.none, none, (.fields #[(.int 8 0), (.int 8 0), (.ref (af 10)), (.int 11 0), (.int 8 0), (.ref (af 18)), (.int 14 0), (.int 8 0), (.ref (af 26)), (.int 17 0), (.int 8 0), (.ref (af 34))]), #[]⟩) 33 rfl ?ht rfl ?hn ?_; (case ht => kernel_rfl); (case hn => dsimp only [List.set_cons_succ, List.set_cons_zero])
  refine' v_load 33 rfl ?ht ?_; (case ht => kernel_rfl)
  refine' w_loadO ?ht hO3 rfl ?_; (case ht => with_unfolding_all rfl)
  refine' v_loadO hO4 rfl ?ht ?_; (case ht => kernel_rfl)
  refine' v_loadO hO3 rfl ?ht ?_; (case ht => kernel_rfl)
  refine' w_alloc (o := ⟨(.type "function"), none, (.func (fnD 5 "__eq__" [((Str.ofString "mycmp"), a66)] (.ref (af 34)) (.ref (af 28)))), #[]⟩) (i' := 36) ?ht rfl rfl ?_; (case ht => with_unfolding_all rfl)
  refine' v_load 36 rfl ?ht ?_; (case ht => kernel_rfl)
  refine' v_fresh (j' := 50) ?ht rfl ?_; (case ht => kernel_rfl)
  refine' w_load ?ht 36 rfl ?_; (case ht => with_unfolding_all rfl)
  refine' v_update (o' := ⟨(.type "dict"), none, (.dict #[⟨PyData.keyHash w.params (Str.ofString "__module__"), (.str (Str.ofString "__module__") (tf 6)), (.str (Str.ofString "cpy313.functools") (tf 11))⟩, ⟨PyData.keyHash w.params (Str.ofString "__qualname__"), (.str (Str.ofString "__qualname__") (tf 8)), (.str (Str.ofString "cmp_to_key.<locals>.K") (tf 7))⟩, ⟨PyData.keyHash w.params (Str.ofString "__firstlineno__"), (.str (Str.ofString "__firstlineno__") (tf 10)), (.int 4 (tf 9))⟩, ⟨PyData.keyHash w.params (Str.ofString "__slots__"), (.str (Str.ofString "__slots__") (tf 14)), (.ref (af 4))⟩, ⟨PyData.keyHash w.params (Str.ofString "__init__"), (.str (Str.ofString "__init__") (tf 22)), (.ref (af 11))⟩, ⟨PyData.keyHash w.params (Str.ofString "__lt__"), (.str (Str.ofString "__lt__") (tf 31)), (.ref (af 19))⟩, ⟨PyData.keyHash w.params (Str.ofString "__gt__"), (.str (Str.ofString "__gt__") (tf 40)), (.ref (af 27))⟩, ⟨PyData.keyHash w.params (Str.ofString "__eq__"), (.str (Str.ofString "__eq__") (tf 49)), (.ref (af 35))⟩] 8), #[]⟩) 36 rfl ?ht rfl ?hn ?_; (case ht => kernel_rfl); (case hn => dsimp only [List.set_cons_succ, List.set_cons_zero])
  refine' v_alloc (o := ⟨(.type "tuple"), none, (.seq #[(.ref a66)] 0), #[]⟩) (i' := 37) ?ht rfl rfl ?_; (case ht => kernel_rfl)
  refine' w_load ?ht 34 rfl ?_; (case ht => with_unfolding_all rfl)
  refine' v_load 35 rfl ?ht ?_; (case ht => kernel_rfl)
  refine' v_fresh (j' := 51) ?ht rfl ?_; (case ht => kernel_rfl)
  refine' w_fresh (j' := 52) ?ht rfl ?_; (case ht => with_unfolding_all rfl)
  refine' v_fresh (j' := 53) ?ht rfl ?_; (case ht => kernel_rfl)
  refine' v_fresh (j' := 54) ?ht rfl ?_; (case ht => kernel_rfl)
  refine' w_alloc (o := ⟨(.type "tuple"), none, (.seq #[(.str (Str.ofString "mycmp") (tf 53))] 0), #[]⟩) (i' := 38) ?ht rfl rfl ?_; (case ht => with_unfolding_all rfl)
  refine' v_alloc (o := ⟨.none, none, (.fields #[]), #[]⟩) (i' := 39) ?ht rfl rfl ?_; (case ht => kernel_rfl)
  refine' v_fresh (j' := 55) ?ht rfl ?_; (case ht => kernel_rfl)
  refine' w_fresh (j' := 56) ?ht rfl ?_; (case ht => with_unfolding_all rfl)
  refine' v_alloc (o := ⟨(.type "tuple"), none, (.seq #[(.str (Str.ofString "self") (tf 54)), (.str (Str.ofString "other") (tf 55))] 0), #[]⟩) (i' := 40) ?ht rfl rfl ?_; (case ht => kernel_rfl)
  refine' v_alloc (o := ⟨(.type "tuple"), none, (.seq #[] 0), #[]⟩) (i' := 41) ?ht rfl rfl ?_; (case ht => kernel_rfl)
  refine' w_alloc (o := ⟨.none, none, (.func (fnT 6 "__le__")), #[]⟩) (i' := 42) ?ht rfl rfl ?_; (case ht => with_unfolding_all rfl)
  refine' v_fresh (j' := 57) ?ht rfl ?_; (case ht => kernel_rfl)
  refine' v_fresh (j' := 58) ?ht rfl ?_; (case ht => kernel_rfl)
  refine' w_alloc (o := ⟨(.type "code"), none, (.fields #[(.str (Str.ofString "__le__") (tf 50)), (.str (Str.ofString "cmp_to_key.<locals>.K.__le__") (tf 51)), (.str (Str.ofString "/claim/cut.py") (tf 52)), (.int 20 0), (.int 2 0), (.int 0 0), (.int 0 0), (.int 19 0), (.ref (af 37)), (.bool true), (.int 181 0), (.ref (af 38)), .none, (.ref (af 39)), (.ref (af 40)), (.ref (af 41)), (.int (((tf 56) : Nat) : Int) 0), (.int 20 0), (.str (Str.ofString "/claim/cut.py") (tf 57))]), #[]⟩) (i' := 43) ?ht rfl rfl ?_; (case ht => with_unfolding_all rfl)
  refine' v_load 41 rfl ?ht ?_; (case ht => kernel_rfl)
  refine' v_update (o' := ⟨.none, none, (.fields #[(.int 8 0), (.int 8 0), (.ref (af 10)), (.int 11 0), (.int 8 0), (.ref (af 18)), (.int 14 0), (.int 8 0), (.ref (af 26)), (.int 17 0), (.int 8 0), (.ref (af 34)), (.int 20 0), (.int 8 0), (.ref (af 42))]), #[]⟩) 41 rfl ?ht rfl ?hn ?_; (case ht => kernel_rfl); (case hn => dsimp only [List.set_cons_succ, List.set_cons_zero])
  refine' w_load ?ht 41 rfl ?_; (case ht => with_unfolding_all rfl)
  refine' v_loadO hO3 rfl ?ht ?_; (case ht => kernel_rfl)
  refine' v_loadO hO4 rfl ?ht ?_; (case ht => kernel_rfl)
  refine' w_loadO ?ht hO3 rfl ?_; (case ht => with_unfolding_all rfl)
  refine' v_alloc (o := ⟨(.type "function"), none, (.func (fnD 6 "__le__" [((Str.ofString "mycmp"), a66)] (.ref (af 42)) (.ref (af 36)))), #[]⟩) (i' := 44) ?ht rfl rfl ?_; (case ht => kernel_rfl)
  refine' v_load 44 rfl ?ht ?_; (case ht => kernel_rfl)
  refine' w_fresh (j' := 59) ?ht rfl ?_; (case ht => with_unfolding_all rfl)
  refine' v_load 44 rfl ?ht ?_; (case ht => kernel_rfl)
  refine' v_update (o' := ⟨(.type "dict"), none, (.dict #[⟨PyData.keyHash w.params (Str.ofString "__module__"), (.str (Str.ofString "__module__") (tf 6)), (.str (Str.ofString "cpy313.functools") (tf 11))⟩, ⟨PyData.keyHash w.params (Str.ofString "__qualname__"), (.str (Str.ofString "__qualname__") (tf 8)), (.str (Str.ofString "cmp_to_key.<locals>.K") (tf 7))⟩, ⟨PyData.keyHash w.params (Str.ofString "__firstlineno__"), (.str (Str.ofString "__firstlineno__") (tf 10)), (.int 4 (tf 9))⟩, ⟨PyData.keyHash w.params (Str.ofString "__slots__"), (.str (Str.ofString "__slots__") (tf 14)), (.ref (af 4))⟩, ⟨PyData.keyHash w.params (Str.ofString "__init__"), (.str (Str.ofString "__init__") (tf 22)), (.ref (af 11))⟩, ⟨PyData.keyHash w.params (Str.ofString "__lt__"), (.str (Str.ofString "__lt__") (tf 31)), (.ref (af 19))⟩, ⟨PyData.keyHash w.params (Str.ofString "__gt__"), (.str (Str.ofString "__gt__") (tf 40)), (.ref (af 27))⟩, ⟨PyData.keyHash w.params (Str.ofString "__eq__"), (.str (Str.ofString "__eq__") (tf 49)), (.ref (af 35))⟩, ⟨PyData.keyHash w.params (Str.ofString "__le__"), (.str (Str.ofString "__le__") (tf 58)), (.ref (af 43))⟩] 9), #[]⟩) 44 rfl ?ht rfl ?hn ?_; (case ht => kernel_rfl); (case hn => dsimp only [List.set_cons_succ, List.set_cons_zero])
  refine' w_alloc (o := ⟨(.type "tuple"), none, (.seq #[(.ref a66)] 0), #[]⟩) (i' := 45) ?ht rfl rfl ?_; (case ht => with_unfolding_all rfl)
  refine' v_load 42 rfl ?ht ?_; (case ht => kernel_rfl)
  refine' v_load 43 rfl ?ht ?_; (case ht => kernel_rfl)
  refine' w_fresh (j' := 60) ?ht rfl ?_; (case ht => with_unfolding_all rfl)
  refine' v_fresh (j' := 61) ?ht rfl ?_; (case ht => kernel_rfl)
  refine' v_fresh (j' := 62) ?ht rfl ?_; (case ht => kernel_rfl)
  refine' w_fresh (j' := 63) ?ht rfl ?_; (case ht => with_unfolding_all rfl)
  refine' v_alloc (o := ⟨(.type "tuple"), none, (.seq #[(.str (Str.ofString "mycmp") (tf 62))] 0), #[]⟩) (i' := 46) ?ht rfl rfl ?_; (case ht => kernel_rfl)
  refine' v_alloc (o := ⟨.none, none, (.fields #[]), #[]⟩) (i' := 47) ?ht rfl rfl ?_; (case ht => kernel_rfl)
  refine' w_fresh (j' := 64) ?ht rfl ?_; (case ht => with_unfolding_all rfl)
  refine' v_fresh (j' := 65) ?ht rfl ?_; (case ht => kernel_rfl)
  refine' v_alloc (o := ⟨(.type "tuple"), none, (.seq #[(.str (Str.ofString "self") (tf 63)), (.str (Str.ofString "other") (tf 64))] 0), #[]⟩) (i' := 48) ?ht rfl rfl ?_; (case ht => kernel_rfl)
  refine' w_alloc (o := ⟨(.type "tuple"), none, (.seq #[] 0), #[]⟩) (i' := 49) ?ht rfl rfl ?_; (case ht => with_unfolding_all rfl)
  refine' v_alloc (o := ⟨.none, none, (.func (fnT 7 "__ge__")), #[]⟩) (i' := 50) ?ht rfl rfl ?_; (case ht => kernel_rfl)
  refine' v_fresh (j' := 66) ?ht rfl ?_; (case ht => kernel_rfl)
  refine' w_fresh (j' := 67) ?ht rfl ?_; (case ht => with_unfolding_all rfl)
  refine' v_alloc (o := ⟨(.type "code"), none, (.fields #[(.str (Str.ofString "__ge__") (tf 59)), (.str (Str.ofString "cmp_to_key.<locals>.K.__ge__") (tf 60)), (.str (Str.ofString "/claim/cut.py") (tf 61)), (.int 23 0), (.int 2 0), (.int 0 0), (.int 0 0), (.int 19 0), (.ref (af 45)), (.bool true), (.int 181 0), (.ref (af 46)), .none, (.ref (af 47)), (.ref (af 48)), (.ref (af 49)), (.int (((tf 65) : Nat) : Int) 0), (.int 23 0), (.str (Str.ofString "/claim/cut.py") (tf 66))]), #[]⟩) (i' := 51) ?ht rfl rfl ?_; (case ht => kernel_rfl)
  refine' v_load 49 rfl ?ht ?_; (case ht => kernel_rfl)
  refine' w_update (o' := ⟨.none, none, (.fields #[(.int 8 0), (.int 8 0), (.ref (af 10)), (.int 11 0), (.int 8 0), (.ref (af 18)), (.int 14 0), (.int 8 0), (.ref (af 26)), (.int 17 0), (.int 8 0), (.ref (af 34)), (.int 20 0), (.int 8 0), (.ref (af 42)), (.int 23 0), (.int 8 0), (.ref (af 50))]), #[]⟩) ?ht 49 rfl ?hu rfl ?hn ?_; (case ht => with_unfolding_all rfl); (case hu => with_unfolding_all rfl); (case hn => dsimp only [List.set_cons_succ, List.set_cons_zero])
  refine' v_load 49 rfl ?ht ?_; (case ht => kernel_rfl)
  refine' v_loadO hO3 rfl ?ht ?_; (case ht => kernel_rfl)
  refine' w_loadO ?ht hO4 rfl ?_; (case ht => with_unfolding_all rfl)
  refine' v_loadO hO3 rfl ?ht ?_; (case ht => kernel_rfl)
  refine' v_alloc (o := ⟨(.type "function"), none, (.func (fnD 7 "__ge__" [((Str.ofString "mycmp"), a66)] (.ref (af 50)) (.ref (af 44)))), #[]⟩) (i' := 52) ?ht rfl rfl ?_; (case ht => kernel_rfl)
  refine' w_load ?ht 52 rfl ?_; (case ht => with_unfolding_all rfl)
  refine' v_fresh (j' := 68) ?ht rfl ?_; (case ht => kernel_rfl)
  refine' v_load 52 rfl ?ht ?_; (case ht => kernel_rfl)
  refine' w_update (o' := ⟨(.type "dict"), none, (.dict #[⟨PyData.keyHash w.params (Str.ofString "__module__"), (.str (Str.ofString "__module__") (tf 6)), (.str (Str.ofString "cpy313.functools") (tf 11))⟩, ⟨PyData.keyHash w.params (Str.ofString "__qualname__"), (.str (Str.ofString "__qualname__") (tf 8)), (.str (Str.ofString "cmp_to_key.<locals>.K") (tf 7))⟩, ⟨PyData.keyHash w.params (Str.ofString "__firstlineno__"), (.str (Str.ofString "__firstlineno__") (tf 10)), (.int 4 (tf 9))⟩, ⟨PyData.keyHash w.params (Str.ofString "__slots__"), (.str (Str.ofString "__slots__") (tf 14)), (.ref (af 4))⟩, ⟨PyData.keyHash w.params (Str.ofString "__init__"), (.str (Str.ofString "__init__") (tf 22)), (.ref (af 11))⟩, ⟨PyData.keyHash w.params (Str.ofString "__lt__"), (.str (Str.ofString "__lt__") (tf 31)), (.ref (af 19))⟩, ⟨PyData.keyHash w.params (Str.ofString "__gt__"), (.str (Str.ofString "__gt__") (tf 40)), (.ref (af 27))⟩, ⟨PyData.keyHash w.params (Str.ofString "__eq__"), (.str (Str.ofString "__eq__") (tf 49)), (.ref (af 35))⟩, ⟨PyData.keyHash w.params (Str.ofString "__le__"), (.str (Str.ofString "__le__") (tf 58)), (.ref (af 43))⟩, ⟨PyData.keyHash w.params (Str.ofString "__ge__"), (.str (Str.ofString "__ge__") (tf 67)), (.ref (af 51))⟩] 10), #[]⟩) ?ht 52 rfl ?hu rfl ?hn ?_; (case ht => with_unfolding_all rfl); (case hu => with_unfolding_all rfl); (case hn => dsimp only [List.set_cons_succ, List.set_cons_zero])
  refine' v_load 52 rfl ?ht ?_; (case ht => kernel_rfl)
  refine' v_fresh (j' := 69) ?ht rfl ?_; (case ht => kernel_rfl)
  refine' w_load ?ht 52 rfl ?_; (case ht => with_unfolding_all rfl)
  refine' w_update (o' := ⟨(.type "dict"), none, (.dict #[⟨PyData.keyHash w.params (Str.ofString "__module__"), (.str (Str.ofString "__module__") (tf 6)), (.str (Str.ofString "cpy313.functools") (tf 11))⟩, ⟨PyData.keyHash w.params (Str.ofString "__qualname__"), (.str (Str.ofString "__qualname__") (tf 8)), (.str (Str.ofString "cmp_to_key.<locals>.K") (tf 7))⟩, ⟨PyData.keyHash w.params (Str.ofString "__firstlineno__"), (.str (Str.ofString "__firstlineno__") (tf 10)), (.int 4 (tf 9))⟩, ⟨PyData.keyHash w.params (Str.ofString "__slots__"), (.str (Str.ofString "__slots__") (tf 14)), (.ref (af 4))⟩, ⟨PyData.keyHash w.params (Str.ofString "__init__"), (.str (Str.ofString "__init__") (tf 22)), (.ref (af 11))⟩, ⟨PyData.keyHash w.params (Str.ofString "__lt__"), (.str (Str.ofString "__lt__") (tf 31)), (.ref (af 19))⟩, ⟨PyData.keyHash w.params (Str.ofString "__gt__"), (.str (Str.ofString "__gt__") (tf 40)), (.ref (af 27))⟩, ⟨PyData.keyHash w.params (Str.ofString "__eq__"), (.str (Str.ofString "__eq__") (tf 49)), (.ref (af 35))⟩, ⟨PyData.keyHash w.params (Str.ofString "__le__"), (.str (Str.ofString "__le__") (tf 58)), (.ref (af 43))⟩, ⟨PyData.keyHash w.params (Str.ofString "__ge__"), (.str (Str.ofString "__ge__") (tf 67)), (.ref (af 51))⟩, ⟨PyData.keyHash w.params (Str.ofString "__hash__"), (.str (Str.ofString "__hash__") (tf 68)), .none⟩] 11), #[]⟩) ?ht 52 rfl ?hu rfl ?hn ?_; (case ht => with_unfolding_all rfl); (case hu => with_unfolding_all rfl); (case hn => dsimp only [List.set_cons_succ, List.set_cons_zero])
  refine w_pure (by with_unfolding_all rfl) ?_
  refine Wq.map (fun h tk D z => wpAny_pure z) ?_
  refine' v_fresh (j' := 70) ?ht rfl ?_; (case ht => kernel_rfl)
  refine' v_alloc (o := ⟨(.type "tuple"), none, (.seq #[(.str (Str.ofString "obj") (tf 69))] 0), #[]⟩) (i' := 53) ?ht rfl rfl ?_; (case ht => kernel_rfl)
  refine' w_load ?ht 53 rfl ?_; (case ht => with_unfolding_all rfl)
  refine' v_fresh (j' := 71) ?ht rfl ?_; (case ht => kernel_rfl)
  refine' v_load 53 rfl ?ht ?_; (case ht => kernel_rfl)
  refine' w_update (o' := ⟨(.type "dict"), none, (.dict #[⟨PyData.keyHash w.params (Str.ofString "__module__"), (.str (Str.ofString "__module__") (tf 6)), (.str (Str.ofString "cpy313.functools") (tf 11))⟩, ⟨PyData.keyHash w.params (Str.ofString "__qualname__"), (.str (Str.ofString "__qualname__") (tf 8)), (.str (Str.ofString "cmp_to_key.<locals>.K") (tf 7))⟩, ⟨PyData.keyHash w.params (Str.ofString "__firstlineno__"), (.str (Str.ofString "__firstlineno__") (tf 10)), (.int 4 (tf 9))⟩, ⟨PyData.keyHash w.params (Str.ofString "__slots__"), (.str (Str.ofString "__slots__") (tf 14)), (.ref (af 4))⟩, ⟨PyData.keyHash w.params (Str.ofString "__init__"), (.str (Str.ofString "__init__") (tf 22)), (.ref (af 11))⟩, ⟨PyData.keyHash w.params (Str.ofString "__lt__"), (.str (Str.ofString "__lt__") (tf 31)), (.ref (af 19))⟩, ⟨PyData.keyHash w.params (Str.ofString "__gt__"), (.str (Str.ofString "__gt__") (tf 40)), (.ref (af 27))⟩, ⟨PyData.keyHash w.params (Str.ofString "__eq__"), (.str (Str.ofString "__eq__") (tf 49)), (.ref (af 35))⟩, ⟨PyData.keyHash w.params (Str.ofString "__le__"), (.str (Str.ofString "__le__") (tf 58)), (.ref (af 43))⟩, ⟨PyData.keyHash w.params (Str.ofString "__ge__"), (.str (Str.ofString "__ge__") (tf 67)), (.ref (af 51))⟩, ⟨PyData.keyHash w.params (Str.ofString "__hash__"), (.str (Str.ofString "__hash__") (tf 68)), .none⟩, ⟨PyData.keyHash w.params (Str.ofString "__static_attributes__"), (.str (Str.ofString "__static_attributes__") (tf 70)), (.ref (af 52))⟩] 12), #[]⟩) ?ht 53 rfl ?hu rfl ?hn ?_; (case ht => with_unfolding_all rfl); (case hu => with_unfolding_all rfl); (case hn => dsimp only [List.set_cons_succ, List.set_cons_zero])
  refine Wq.out (fun hE tkE Ds79 => ?_)
  refine' e_call ?ht ?_; (case ht => with_unfolding_all rfl)
  refine' typeCallT (Md.old Ds79 hO2 rfl) (Md.at Ds79 55 _ _ rfl) (Md.at Ds79 53 _ _ rfl) (Md.at Ds79 48 _ _ rfl) (Md.at Ds79 41 _ _ rfl) (Md.at Ds79 33 _ _ rfl) (Md.at Ds79 25 _ _ rfl) (Md.at Ds79 17 _ _ rfl) (Md.at Ds79 9 _ _ rfl) (Md.at Ds79 1 _ _ rfl) (Md.at Ds79 0 _ _ rfl) hn (fun a124 a125 a126 u73 u74 u75 h125 tk125 DT => ?_); (try exact [])
  have Ds80 := Md.trans Ds79 DT (fun _ hb => nomatch hb) (fun _ _ hb => nomatch hb); simp only [List.cons_append, List.nil_append] at Ds80; clear Ds79 DT
  refine Wq.enter Ds80 (fun ag tg => ?_)
  refine w_pure (a := Value.ref a125) (by with_unfolding_all rfl) ?_
  refine' v_fresh (j' := 1) ?ht rfl ?_; (case ht => kernel_rfl)
  refine' v_load 60 rfl ?ht ?_; (case ht => kernel_rfl)
  refine' w_update (o' := ⟨(.type "frame"), none, (.dict #[⟨PyData.keyHash w.params (Str.ofString "K"), (.str (Str.ofString "K") (tg 0)), (.ref a125)⟩] 1), #[]⟩) ?ht 60 rfl ?hu rfl ?hn ?_; (case ht => with_unfolding_all rfl); (case hu => with_unfolding_all rfl); (case hn => dsimp only [List.set_cons_succ, List.set_cons_zero])
  refine w_pure (a := Flow.next) (by with_unfolding_all rfl) ?_
  refine' w_load ?ht 60 rfl ?_; (case ht => with_unfolding_all rfl)
  refine w_pure (a := Flow.ret (.ref a125)) (by with_unfolding_all rfl) ?_
  refine Wq.out (fun hE tkE Ds81 => ?_)
  refine wpAny_pure ?_
  exact hret a66 a67 (af 0) (af 1) (af 2) (af 4) (af 5) (af 6) (af 7) (af 8) (af 9) (af 10) (af 11) (af 12) (af 13) (af 14) (af 15) (af 16) (af 17) (af 18) (af 19) (af 20) (af 21) (af 22) (af 23) (af 24) (af 25) (af 26) (af 27) (af 28) (af 29) (af 30) (af 31) (af 32) (af 33) (af 34) (af 35) (af 36) (af 37) (af 38) (af 39) (af 40) (af 41) (af 42) (af 43) (af 44) (af 45) (af 46) (af 47) (af 48) (af 49) (af 50) (af 51) (af 52) a124 a125 a126 u0 (tf 0) (tf 1) (tf 2) (tf 4) (tf 5) (tf 6) (tf 7) (tf 9) (tf 10) (tf 11) (tf 14) (tf 15) (tf 16) (tf 17) (tf 20) (tf 21) (tf 22) (tf 23) (tf 24) (tf 25) (tf 29) (tf 30) (tf 31) (tf 32) (tf 33) (tf 34) (tf 38) (tf 39) (tf 40) (tf 41) (tf 42) (tf 43) (tf 47) (tf 48) (tf 49) (tf 50) (tf 51) (tf 52) (tf 56) (tf 57) (tf 58) (tf 59) (tf 60) (tf 61) (tf 65) (tf 66) (tf 67) (tf 68) (tf 70) u73 u74 u75 _ _ (Md.sub Ds81 (.cons_cons _ (.cons_cons _ (.cons_cons _ (.cons _ (.cons_cons _ (.cons_cons _ (.cons _ (.cons _ (.cons _ (.cons _ (.cons _ (.cons _ (.cons_cons _ (.cons_cons _ (.cons _ (.cons _ (.cons _ (.cons _ (.cons _ (.cons _ (.cons_cons _ (.cons_cons _ (.cons _ (.cons _ (.cons _ (.cons _ (.cons _ (.cons _ (.cons_cons _ (.cons_cons _ (.cons _ (.cons _ (.cons _ (.cons _ (.cons _ (.cons _ (.cons_cons _ (.cons_cons _ (.cons _ (.cons _ (.cons _ (.cons _ (.cons _ (.cons _ (.cons_cons _ (.cons_cons _ (.cons _ (.cons _ (.cons _ (.cons _ (.cons _ (.cons _ (.cons _ (.cons_cons _ (.cons_cons _ (.cons _ (.cons _ (.cons _ (.cons _ (.cons_cons _ (.cons _ (.cons_cons _ .slnil)))))))))))))))))))))))))))))))))))))))))))))))))))))))))))))))
end Mine
end

section
-- CK2z
open PySem PySem.W PyProof.Rows PySem.Builtin PySem.W.X PySem.Calls PySem.Spec
set_option maxRecDepth 100000
set_option maxHeartbeats 0
namespace Mine
theorem ctk2 {w : World} {A : Around} {h₁ : Heap} {d : Drawn} {tk : Nat} {os : OsState} {Q : Result → Shared → Prop} {E : Value → Shared → Prop} {l : List Value} {v : Value} {a70 a71 a72 a80 a88 a96 a104 a112 a120 : Addr} {u2 u3 u4 u6 u7 : Tok}
   {mb mg : Str → Option Value} {sl4 : Array (Option Value)} (hB : h₁.Ns 0 mb) (hb1 : mb "__build_class__" = some (.builtin "__build_class__")) (hb2 : mb "object" = some (.type "object")) (hG : h₁.Ns 3 mg) (hg2 : mg "object" = none) (hO1 : ∃ o, h₁.get? 1 = some o) (hO2 : h₁.get? 2 = some statO) (hO3 : h₁.get? 3 = some (KO w 3)) (hO4 : h₁.get? 4 = some ⟨.type "module", some 0, .plain, sl4⟩) (hO20 : h₁.get? 20 = some (KO w 20)) (hO21 : h₁.get? 21 = some (KO w 21))
   (hO16 : h₁.get? 16 = some ⟨.none, none, (.fields #[(.int 4 0), (.int 4 0), (.ref a72)]), #[]⟩)
   (hO72 : h₁.get? a72 = some ⟨(.type "code"), none, (.fields #[(.str (Str.ofString "K") u2), (.str (Str.ofString "cmp_to_key.<locals>.K") u3), (.str (Str.ofString "/claim/cut.py") u4), (.int 4 0), (.int 0 0), (.int 0 0), (.int 0 0), (.int 0 0), (.ref a70), (.bool true), (.int 181 0), (.ref a71), .none, .none, .none, .none, (.int ((u6 : Nat) : Int) 0), (.int 4 0), (.str (Str.ofString "/claim/cut.py") u7)]), #[]⟩)
   (hO71 : h₁.get? a71 = some ⟨.none, none, (.fields #[(.int 8 0), (.int 8 0), (.ref a80), (.int 11 0), (.int 8 0), (.ref a88), (.int 14 0), (.int 8 0), (.ref a96), (.int 17 0), (.int 8 0), (.ref a104), (.int 20 0), (.int 8 0), (.ref a112), (.int 23 0), (.int 8 0), (.ref a120)]), #[]⟩)
   (hdp : A.depth + 10 < recursionLimit)
   (hret : ∀ a130 a131 a135 a136 a137 a138 a139 a140 a141 a142 a143 a144 a145 a146 a147 a149 a150 a151 u78 u80 u81 u83 u84 u85 u88 u89 u90 u91 u92 u93 u94 u95 u97 u98 u99 u100 h' tk', Md [] h₁ h' [(a151, ⟨(.type "member_descriptor"), none, (.fields #[(.str (Str.ofString "obj") u98), (.ref a150), (.builtin "proto.slot"), (.builtin "proto.slot#set"), (.int 0 0)]), #[]⟩), (a150, clsO a150 a149 a131 u78 u81), (a149, ⟨(.type "dict"), none, (.dict #[⟨PyData.keyHash w.params (Str.ofString "__module__"), (.str (Str.ofString "__module__") u80), (.str (Str.ofString "cpy313.functools") u85)⟩, ⟨PyData.keyHash w.params (Str.ofString "__firstlineno__"), (.str (Str.ofString "__firstlineno__") u84), (.int 4 u83)⟩, ⟨PyData.keyHash w.params (Str.ofString "__slots__"), (.str (Str.ofString "__slots__") u88), (.ref a135)⟩, ⟨PyData.keyHash w.params (Str.ofString "__init__"), (.str (Str.ofString "__init__") u89), (.ref a136)⟩, ⟨PyData.keyHash w.params (Str.ofString "__lt__"), (.str (Str.ofString "__lt__") u90), (.ref a138)⟩, ⟨PyData.keyHash w.params (Str.ofString "__gt__"), (.str (Str.ofString "__gt__") u91), (.ref a140)⟩, ⟨PyData.keyHash w.params (Str.ofString "__eq__"), (.str (Str.ofString "__eq__") u92), (.ref a142)⟩, ⟨PyData.keyHash w.params (Str.ofString "__le__"), (.str (Str.ofString "__le__") u93), (.ref a144)⟩, ⟨PyData.keyHash w.params (Str.ofString "__ge__"), (.str (Str.ofString "__ge__") u94), (.ref a146)⟩, ⟨PyData.keyHash w.params (Str.ofString "__hash__"), (.str (Str.ofString "__hash__") u95), .none⟩, ⟨PyData.keyHash w.params (Str.ofString "__static_attributes__"), (.str (Str.ofString "__static_attributes__") u97), (.ref a147)⟩, ⟨PyData.keyHash w.params (Str.ofString "obj"), (.str (Str.ofString "obj") u99), (.ref a151)⟩, ⟨PyData.keyHash w.params (Str.ofString "__doc__"), (.str (Str.ofString "__doc__") u100), .none⟩] 3), #[]⟩), (a146, ⟨(.type "function"), none, (.func (fnD 7 "__ge__" [((Str.ofString "mycmp"), a130)] (.ref a120) (.ref a145))), #[]⟩), (a144, ⟨(.type "function"), none, (.func (fnD 6 "__le__" [((Str.ofString "mycmp"), a130)] (.ref a112) (.ref a143))), #[]⟩), (a142, ⟨(.type "function"), none, (.func (fnD 5 "__eq__" [((Str.ofString "mycmp"), a130)] (.ref a104) (.ref a141))), #[]⟩), (a140, ⟨(.type "function"), none, (.func (fnD 4 "__gt__" [((Str.ofString "mycmp"), a130)] (.ref a96) (.ref a139))), #[]⟩), (a138, ⟨(.type "function"), none, (.func (fnD 3 "__lt__" [((Str.ofString "mycmp"), a130)] (.ref a88) (.ref a137))), #[]⟩), (a136, ⟨(.type "function"), none, (.func (fnD 2 "__init__" [] (.ref a80) .none)), #[]⟩), (a130, ⟨.type "cell", none, .cell (some v), #[]⟩)] → Q (.ok (.ret (.ref a150))) ⟨h', #[], d, tk', os⟩) :
   wpAny (model PRG w) A (Sem.call (.call (.ref 21) ⟨[v], []⟩) none false l Sem.pure) Q E ⟨h₁, #[], d, tk, os⟩ := by
  have D0 : Md [] h₁ h₁ [] := Md.start0
  refine x_call ?_ (by intro h; cases h)
  refine codeAny_call_function (A := A.mark none) (by show A.depth < _; omega) hO21 (by with_unfolding_all rfl) (by with_unfolding_all rfl) (by with_unfolding_all rfl) (by with_unfolding_all rfl) ⟨20, _, _, _, by with_unfolding_all rfl, hO20, by with_unfolding_all rfl, by with_unfolding_all rfl⟩ ?_
  refine e_pure (by with_unfolding_all rfl) ?_
  refine' e_alloc (o := ⟨(.type "frame"), none, (.dict #[] 0), #[]⟩) ?ht D0 rfl (fun a129 h129 Ds1 => ?_); (case ht => with_unfolding_all rfl); clear D0
  refine' e_alloc (o := ⟨(.type "cell"), none, (.cell none), #[]⟩) ?ht Ds1 rfl (fun a130 h130 Ds2 => ?_); (case ht => with_unfolding_all rfl); clear Ds1
  refine' e_load ?ht (Md.at Ds2 0 _ _ rfl) ?_; (case ht => with_unfolding_all rfl)
  refine' e_update (o' := ⟨(.type "cell"), none, (.cell (some v)), #[]⟩) ?ht Ds2 0 rfl ?hu rfl (fun hDs3 Ds3 => ?_); (case ht => with_unfolding_all rfl); (case hu => with_unfolding_all rfl); clear Ds2; simp only [List.set_cons_succ, List.set_cons_zero] at Ds3
  refine e_pure (by with_unfolding_all rfl) ?_
  refine ⟨noLimit_of (Md.old Ds3 hO2 rfl), codeAny_func ?_⟩
  have hB3 := hB.at' fun o e => Md.old Ds3 e rfl
  have hG3 := hG.at' fun o e => Md.old Ds3 e rfl
  refine wpAny_execs_cons ?_
  rw [arm_exec_ClassDef]
  refine wpAny_bind (wpAny_pure ?_)
  refine wpAny_bind (wpAny_standAt ?_)
  refine wpAny_bind ?_
  unfold buildClassGuard
  refine wpAny_bind (wpAny_nsGet hB3 ?_)
  rw [hb1]
  refine wpAny_pure ?_
  refine wpAny_bind (wpAny_holding ?_)
  refine wpAny_bind (evalArgs_one (Name_function_global rfl rfl (loadGlobal_builtin hG3 hg2 hB3 hb2 ⟨rfl, ?_⟩) (by decide)))
  refine wpAny_bind (wpAny_standAt (wpAny_holding ?_))
  refine' f_alloc (o := ⟨(.type "tuple"), none, (.seq #[(.type "object")] 0), #[]⟩) ?ht Ds3 rfl (fun a131 h131 Ds4 => ?_); (case ht => kernel_rfl); clear Ds3
  refine' e_fresh ?ht (fun u78 tk' => ?_); (case ht => with_unfolding_all rfl)
  refine' e_fresh ?ht (fun u79 tk' => ?_); (case ht => with_unfolding_all rfl)
  refine' e_call ?ht ?_; (case ht => with_unfolding_all rfl); refine' s_prep1  ⟨fun a132 h132 tk132 M132 => ?_⟩; (try exact []); have Ds5 := Md.more Ds4 M132; simp only [List.cons_append, List.nil_append] at Ds5; clear Ds4 M132
  refine' e_call ?ht ?_; (case ht => with_unfolding_all rfl); refine' s_prep2 (Md.at Ds5 0 _ _ rfl) ⟨fun a133 h133 tk133 M133 => ?_⟩; (try exact []); have Ds6 := Md.more Ds5 M133; simp only [List.cons_append, List.nil_append] at Ds6; clear Ds5 M133
  have hn := Md.ne_old Ds6 0 _ _ rfl hO1.choose_spec rfl
  refine Calls.wpAny_keep ?_
  refine e_step (a := Value.ref a133) (by with_unfolding_all rfl) ?_
  refine e_step (m := notTheModulesDict _ a133) (a := ()) (by unfold notTheModulesDict; rw [show (a133 == sysModules) = false from hn]; rfl) ?_
  refine Wq.enter Ds6 (fun af tf => ?_)
  refine' v_load 0 rfl ?ht ?_; (case ht => kernel_rfl)
  refine' v_loadO hO20 rfl ?ht ?_; (case ht => kernel_rfl)
  refine' w_loadO ?ht hO16 rfl ?_; (case ht => with_unfolding_all rfl)
  refine' v_loadO hO3 rfl ?ht ?_; (case ht => kernel_rfl)
  refine' v_loadO hO4 rfl ?ht ?_; (case ht => kernel_rfl)
  refine' w_loadO ?ht hO3 rfl ?_; (case ht => with_unfolding_all rfl)
  refine' w_alloc (o := ⟨(.type "frame"), none, .plain, #[(some (.ref a72)), (some (.ref 3)), (some (.ref a133)), none, (some (.str (Str.ofString "law_oy0001_02") 211)), none, (some (.ref 0))]⟩) (i' := 1) ?ht rfl rfl ?_; (case ht => with_unfolding_all rfl)
  refine Wq.map (fun h tk D z => Calls.wpAny_keep z) ?_
  refine w_step (a := (af 0)) (by with_unfolding_all rfl) ?_
  refine w_step (a := [(Str.ofString "mycmp", a130)]) (by with_unfolding_all rfl) ?_
  refine Wq.map (fun h tk D z => wpAny_holding z) ?_
  refine Wq.map (fun h tk D z => wpAny_bind (wpAny_enterFrame (noLimit_of (Md.old D hO2 rfl)) (by show A.depth + 1 < _; omega) z)) ?_
  refine' v_load 1 rfl ?ht ?_; (case ht => kernel_rfl)
  refine' v_load 1 rfl ?ht ?_; (case ht => kernel_rfl)
  refine' w_loadO ?ht hO3 rfl ?_; (case ht => with_unfolding_all rfl)
  refine' v_load 1 rfl ?ht ?_; (case ht => kernel_rfl)
  refine' v_fresh (j' := 1) ?ht rfl ?_; (case ht => kernel_rfl)
  refine' w_load ?ht 1 rfl ?_; (case ht => with_unfolding_all rfl)
  refine' v_update (o' := ⟨(.type "dict"), none, (.dict #[⟨PyData.keyHash w.params (Str.ofString "__module__"), (.str (Str.ofString "__module__") (tf 0)), (.str (Str.ofString "law_oy0001_02") 211)⟩] 1), #[]⟩) 1 rfl ?ht rfl ?hn ?_; (case ht => kernel_rfl); (case hn => dsimp only [List.set_cons_succ, List.set_cons_zero])
  refine' v_fresh (j' := 2) ?ht rfl ?_; (case ht => kernel_rfl)
  refine' w_load ?ht 1 rfl ?_; (case ht => with_unfolding_all rfl)
  refine' v_fresh (j' := 3) ?ht rfl ?_; (case ht => kernel_rfl)
  refine' v_load 1 rfl ?ht ?_; (case ht => kernel_rfl)
  refine' w_update (o' := ⟨(.type "dict"), none, (.dict #[⟨PyData.keyHash w.params (Str.ofString "__module__"), (.str (Str.ofString "__module__") (tf 0)), (.str (Str.ofString "law_oy0001_02") 211)⟩, ⟨PyData.keyHash w.params (Str.ofString "__qualname__"), (.str (Str.ofString "__qualname__") (tf 2)), (.str (Str.ofString "cmp_to_key.<locals>.K") (tf 1))⟩] 2), #[]⟩) ?ht 1 rfl ?hu rfl ?hn ?_; (case ht => with_unfolding_all rfl); (case hu => with_unfolding_all rfl); (case hn => dsimp only [List.set_cons_succ, List.set_cons_zero])
  refine' v_fresh (j' := 4) ?ht rfl ?_; (case ht => kernel_rfl)
  refine' v_load 1 rfl ?ht ?_; (case ht => kernel_rfl)
  refine' w_fresh (j' := 5) ?ht rfl ?_; (case ht => with_unfolding_all rfl)
  refine' v_load 1 rfl ?ht ?_; (case ht => kernel_rfl)
  refine' w_update (o' := ⟨(.type "dict"), none, (.dict #[⟨PyData.keyHash w.params (Str.ofString "__module__"), (.str (Str.ofString "__module__") (tf 0)), (.str (Str.ofString "law_oy0001_02") 211)⟩, ⟨PyData.keyHash w.params (Str.ofString "__qualname__"), (.str (Str.ofString "__qualname__") (tf 2)), (.str (Str.ofString "cmp_to_key.<locals>.K") (tf 1))⟩, ⟨PyData.keyHash w.params (Str.ofString "__firstlineno__"), (.str (Str.ofString "__firstlineno__") (tf 4)), (.int 4 (tf 3))⟩] 3), #[]⟩) ?ht 1 rfl ?hu rfl ?hn ?_; (case ht => with_unfolding_all rfl); (case hu => with_unfolding_all rfl); (case hn => dsimp only [List.set_cons_succ, List.set_cons_zero])
  refine' w_call ?ht ?_; (case ht => with_unfolding_all rfl)
  refine Wq.map (fun h tk D z => x_call z (by intro h; cases h)) ?_
  refine Wq.map (fun h tk D z => codeAny_body (by with_unfolding_all rfl) (by with_unfolding_all rfl) z) ?_
  refine' v_fresh (j' := 6) ?ht rfl ?_; (case ht => kernel_rfl)
  refine' v_load 1 rfl ?ht ?_; (case ht => kernel_rfl)
  refine' w_fresh (j' := 7) ?ht rfl ?_; (case ht => with_unfolding_all rfl)
  refine' v_load 1 rfl ?ht ?_; (case ht => kernel_rfl)
  refine' v_update (o' := ⟨(.type "dict"), none, (.dict #[⟨PyData.keyHash w.params (Str.ofString "__module__"), (.str (Str.ofString "__module__") (tf 0)), (.str (Str.ofString "cpy313.functools") (tf 5))⟩, ⟨PyData.keyHash w.params (Str.ofString "__qualname__"), (.str (Str.ofString "__qualname__") (tf 2)), (.str (Str.ofString "cmp_to_key.<locals>.K") (tf 1))⟩, ⟨PyData.keyHash w.params (Str.ofString "__firstlineno__"), (.str (Str.ofString "__firstlineno__") (tf 4)), (.int 4 (tf 3))⟩] 3), #[]⟩) 1 rfl ?ht rfl ?hn ?_; (case ht => kernel_rfl); (case hn => dsimp only [List.set_cons_succ, List.set_cons_zero])
  refine' w_fresh (j' := 8) ?ht rfl ?_; (case ht => with_unfolding_all rfl)
  refine' v_alloc (o := ⟨(.type "list"), none, (.seq #[(.str (Str.ofString "obj") (tf 7))] 0), #[]⟩) (i' := 2) ?ht rfl rfl ?_; (case ht => kernel_rfl)
  refine' v_load 2 rfl ?ht ?_; (case ht => kernel_rfl)
  refine' w_fresh (j' := 9) ?ht rfl ?_; (case ht => with_unfolding_all rfl)
  refine' v_load 2 rfl ?ht ?_; (case ht => kernel_rfl)
  refine' v_update (o' := ⟨(.type "dict"), none, (.dict #[⟨PyData.keyHash w.params (Str.ofString "__module__"), (.str (Str.ofString "__module__") (tf 0)), (.str (Str.ofString "cpy313.functools") (tf 5))⟩, ⟨PyData.keyHash w.params (Str.ofString "__qualname__"), (.str (Str.ofString "__qualname__") (tf 2)), (.str (Str.ofString "cmp_to_key.<locals>.K") (tf 1))⟩, ⟨PyData.keyHash w.params (Str.ofString "__firstlineno__"), (.str (Str.ofString "__firstlineno__") (tf 4)), (.int 4 (tf 3))⟩, ⟨PyData.keyHash w.params (Str.ofString "__slots__"), (.str (Str.ofString "__slots__") (tf 8)), (.ref (af 1))⟩] 4), #[]⟩) 2 rfl ?ht rfl ?hn ?_; (case ht => kernel_rfl); (case hn => dsimp only [List.set_cons_succ, List.set_cons_zero])
  refine' w_loadO ?ht hO72 rfl ?_; (case ht => with_unfolding_all rfl)
  refine' v_loadO hO71 rfl ?ht ?_; (case ht => kernel_rfl)
  refine' v_loadO hO3 rfl ?ht ?_; (case ht => kernel_rfl)
  refine' w_loadO ?ht hO4 rfl ?_; (case ht => with_unfolding_all rfl)
  refine' v_loadO hO3 rfl ?ht ?_; (case ht => kernel_rfl)
  refine' v_alloc (o := ⟨(.type "function"), none, (.func (fnD 2 "__init__" [] (.ref a80) .none)), #[]⟩) (i' := 3) ?ht rfl rfl ?_; (case ht => kernel_rfl)
  refine' w_load ?ht 3 rfl ?_; (case ht => with_unfolding_all rfl)
  refine' v_fresh (j' := 10) ?ht rfl ?_; (case ht => kernel_rfl)
  refine' v_load 3 rfl ?ht ?_; (case ht => kernel_rfl)
  refine' w_update (o' := ⟨(.type "dict"), none, (.dict #[⟨PyData.keyHash w.params (Str.ofString "__module__"), (.str (Str.ofString "__module__") (tf 0)), (.str (Str.ofString "cpy313.functools") (tf 5))⟩, ⟨PyData.keyHash w.params (Str.ofString "__qualname__"), (.str (Str.ofString "__qualname__") (tf 2)), (.str (Str.ofString "cmp_to_key.<locals>.K") (tf 1))⟩, ⟨PyData.keyHash w.params (Str.ofString "__firstlineno__"), (.str (Str.ofString "__firstlineno__") (tf 4)), (.int 4 (tf 3))⟩, ⟨PyData.keyHash w.params (Str.ofString "__slots__"), (.str (Str.ofString "__slots__") (tf 8)), (.ref (af 1))⟩, ⟨PyData.keyHash w.params (Str.ofString "__init__"), (.str (Str.ofString "__init__") (tf 9)), (.ref (af 2))⟩] 5), #[]⟩) ?ht 3 rfl ?hu rfl ?hn ?_; (case ht => with_unfolding_all rfl); (case hu => with_unfolding_all rfl); (case hn => dsimp only [List.set_cons_succ, List.set_cons_zero])
  refine' v_alloc (o := ⟨(.type "tuple"), none, (.seq #[(.ref a130)] 0), #[]⟩) (i' := 4) ?ht rfl rfl ?_; (case ht => kernel_rfl)
  refine' v_loadO hO72 rfl ?ht ?_; (case ht => kernel_rfl)
  refine' w_loadO ?ht hO71 rfl ?_; (case ht => with_unfolding_all rfl)
  refine' v_loadO hO3 rfl ?ht ?_; (case ht => kernel_rfl)
  refine' v_loadO hO4 rfl ?ht ?_; (case ht => kernel_rfl)
  refine' w_loadO ?ht hO3 rfl ?_; (case ht => with_unfolding_all rfl)
  refine' v_alloc (o := ⟨(.type "function"), none, (.func (fnD 3 "__lt__" [((Str.ofString "mycmp"), a130)] (.ref a88) (.ref (af 3)))), #[]⟩) (i' := 5) ?ht rfl rfl ?_; (case ht => kernel_rfl)
  refine' v_load 5 rfl ?ht ?_; (case ht => kernel_rfl)
  refine' w_fresh (j' := 11) ?ht rfl ?_; (case ht => with_unfolding_all rfl)
  refine' v_load 5 rfl ?ht ?_; (case ht => kernel_rfl)
  refine' v_update (o' := ⟨(.type "dict"), none, (.dict #[⟨PyData.keyHash w.params (Str.ofString "__module__"), (.str (Str.ofString "__module__") (tf 0)), (.str (Str.ofString "cpy313.functools") (tf 5))⟩, ⟨PyData.keyHash w.params (Str.ofString "__qualname__"), (.str (Str.ofString "__qualname__") (tf 2)), (.str (Str.ofString "cmp_to_key.<locals>.K") (tf 1))⟩, ⟨PyData.keyHash w.params (Str.ofString "__firstlineno__"), (.str (Str.ofString "__firstlineno__") (tf 4)), (.int 4 (tf 3))⟩, ⟨PyData.keyHash w.params (Str.ofString "__slots__"), (.str (Str.ofString "__slots__") (tf 8)), (.ref (af 1))⟩, ⟨PyData.keyHash w.params (Str.ofString "__init__"), (.str (Str.ofString "__init__") (tf 9)), (.ref (af 2))⟩, ⟨PyData.keyHash w.params (Str.ofString "__lt__"), (.str (Str.ofString "__lt__") (tf 10)), (.ref (af 4))⟩] 6), #[]⟩) 5 rfl ?ht rfl ?hn ?_; (case ht => kernel_rfl); (case hn => dsimp only [List.set_cons_succ, List.set_cons_zero])
  refine' w_alloc (o := ⟨(.type "tuple"), none, (.seq #[(.ref a130)] 0), #[]⟩) (i' := 6) ?ht rfl rfl ?_; (case ht => with_unfolding_all rfl)
  refine' v_loadO hO72 rfl ?ht ?_; (case ht => kernel_rfl)
  refine' v_loadO hO71 rfl ?ht ?_; (case ht => kernel_rfl)
  refine' w_loadO ?ht hO3 rfl ?_; (case ht => with_unfolding_all rfl)
  refine' v_loadO hO4 rfl ?ht ?_; (case ht => kernel_rfl)
  refine' v_loadO hO3 rfl ?ht ?_; (case ht => kernel_rfl)
  refine' w_alloc (o := ⟨(.type "function"), none, (.func (fnD 4 "__gt__" [((Str.ofString "mycmp"), a130)] (.ref a96) (.ref (af 5)))), #[]⟩) (i' := 7) ?ht rfl rfl ?_; (case ht => with_unfolding_all rfl)
  refine' v_load 7 rfl ?ht ?_; (case ht => kernel_rfl)
  refine' v_fresh (j' := 12) ?ht rfl ?_; (case ht => kernel_rfl)
  refine' w_load ?ht 7 rfl ?_; (case ht => with_unfolding_all rfl)
  refine' v_update (o' := ⟨(.type "dict"), none, (.dict #[⟨PyData.keyHash w.params (Str.ofString "__module__"), (.str (Str.ofString "__module__") (tf 0)), (.str (Str.ofString "cpy313.functools") (tf 5))⟩, ⟨PyData.keyHash w.params (Str.ofString "__qualname__"), (.str (Str.ofString "__qualname__") (tf 2)), (.str (Str.ofString "cmp_to_key.<locals>.K") (tf 1))⟩, ⟨PyData.keyHash w.params (Str.ofString "__firstlineno__"), (.str (Str.ofString "__firstlineno__") (tf 4)), (.int 4 (tf 3))⟩, ⟨PyData.keyHash w.params (Str.ofString "__slots__"), (.str (Str.ofString "__slots__") (tf 8)), (.ref (af 1))⟩, ⟨PyData.keyHash w.params (Str.ofString "__init__"), (.str (Str.ofString "__init__") (tf 9)), (.ref (af 2))⟩, ⟨PyData.keyHash w.params (Str.ofString "__lt__"), (.str (Str.ofString "__lt__") (tf 10)), (.ref (af 4))⟩, ⟨PyData.keyHash w.params (Str.ofString "__gt__"), (.str (Str.ofString "__gt__") (tf 11)), (.ref (af 6))⟩] 7), #[]⟩) 7 rfl ?ht rfl ?hn ?_; (case ht => kernel_rfl); (case hn => dsimp only [List.set_cons_succ, List.set_cons_zero])
  refine' v_alloc (o := ⟨(.type "tuple"), none, (.seq #[(.ref a130)] 0), #[]⟩) (i' := 8) ?ht rfl rfl ?_; (case ht => kernel_rfl)
  refine' w_loadO ?ht hO72 rfl ?_; (case ht => with_unfolding_all rfl)
  refine' v_loadO hO71 rfl ?ht ?_; (case ht => kernel_rfl)
  refine' v_loadO hO3 rfl ?ht ?_; (case ht => kernel_rfl)
  refine' w_loadO ?ht hO4 rfl ?_; (case ht => with_unfolding_all rfl)
  refine' v_loadO hO3 rfl ?ht ?_; (case ht => kernel_rfl)
  refine' v_alloc (o := ⟨(.type "function"), none, (.func (fnD 5 "__eq__" [((Str.ofString "mycmp"), a130)] (.ref a104) (.ref (af 7)))), #[]⟩) (i' := 9) ?ht rfl rfl ?_; (case ht => kernel_rfl)
  refine' w_load ?ht 9 rfl ?_; (case ht => with_unfolding_all rfl)
  refine' v_fresh (j' := 13) ?ht rfl ?_; (case ht => kernel_rfl)
  refine' v_load 9 rfl ?ht ?_; (case ht => kernel_rfl)
  refine' w_update (o' := ⟨(.type "dict"), none, (.dict #[⟨PyData.keyHash w.params (Str.ofString "__module__"), (.str (Str.ofString "__module__") (tf 0)), (.str (Str.ofString "cpy313.functools") (tf 5))⟩, ⟨PyData.keyHash w.params (Str.ofString "__qualname__"), (.str (Str.ofString "__qualname__") (tf 2)), (.str (Str.ofString "cmp_to_key.<locals>.K") (tf 1))⟩, ⟨PyData.keyHash w.params (Str.ofString "__firstlineno__"), (.str (Str.ofString "__firstlineno__") (tf 4)), (.int 4 (tf 3))⟩, ⟨PyData.keyHash w.params (Str.ofString "__slots__"), (.str (Str.ofString "__slots__") (tf 8)), (.ref (af 1))⟩, ⟨PyData.keyHash w.params (Str.ofString "__init__"), (.str (Str.ofString "__init__") (tf 9)), (.ref (af 2))⟩, ⟨PyData.keyHash w.params (Str.ofString "__lt__"), (.str (Str.ofString "__lt__") (tf 10)), (.ref (af 4))⟩, ⟨PyData.keyHash w.params (Str.ofString "__gt__"), (.str (Str.ofString "__gt__") (tf 11)), (.ref (af 6))⟩, ⟨PyData.keyHash w.params (Str.ofString "__eq__"), (.str (Str.ofString "__eq__") (tf 12)), (.ref (af 8))⟩] 8), #[]⟩) ?ht 9 rfl ?hu rfl ?hn ?_; (case ht => with_unfolding_all rfl); (case hu => with_unfolding_all rfl); (case hn => dsimp only [List.set_cons_succ, List.set_cons_zero])
  refine' v_alloc (o := ⟨(.type "tuple"), none, (.seq #[(.ref a130)] 0), #[]⟩) (i' := 10) ?ht rfl rfl ?_; (case ht => kernel_rfl)
  refine' v_loadO hO72 rfl ?ht ?_; (case ht => kernel_rfl)
  refine' w_loadO ?ht hO71 rfl ?_; (case ht => with_unfolding_all rfl)
  refine' v_loadO hO3 rfl ?ht ?_; (case ht => kernel_rfl)
  refine' v_loadO hO4 rfl ?ht ?_; (case ht => kernel_rfl)
  refine' w_loadO ?ht hO3 rfl ?_; (case ht => with_unfolding_all rfl)
  refine' v_alloc (o := ⟨(.type "function"), none, (.func (fnD 6 "__le__" [((Str.ofString "mycmp"), a130)] (.ref a112) (.ref (af 9)))), #[]⟩) (i' := 11) ?ht rfl rfl ?_; (case ht => kernel_rfl)
  refine' v_load 11 rfl ?ht ?_; (case ht => kernel_rfl)
  refine' w_fresh (j' := 14) ?ht rfl ?_; (case ht => with_unfolding_all rfl)
  refine' v_load 11 rfl ?ht ?_; (case ht => kernel_rfl)
  refine' v_update (o' := ⟨(.type "dict"), none, (.dict #[⟨PyData.keyHash w.params (Str.ofString "__module__"), (.str (Str.ofString "__module__") (tf 0)), (.str (Str.ofString "cpy313.functools") (tf 5))⟩, ⟨PyData.keyHash w.params (Str.ofString "__qualname__"), (.str (Str.ofString "__qualname__") (tf 2)), (.str (Str.ofString "cmp_to_key.<locals>.K") (tf 1))⟩, ⟨PyData.keyHash w.params (Str.ofString "__firstlineno__"), (.str (Str.ofString "__firstlineno__") (tf 4)), (.int 4 (tf 3))⟩, ⟨PyData.keyHash w.params (Str.ofString "__slots__"), (.str (Str.ofString "__slots__") (tf 8)), (.ref (af 1))⟩, ⟨PyData.keyHash w.params (Str.ofString "__init__"), (.str (Str.ofString "__init__") (tf 9)), (.ref (af 2))⟩, ⟨PyData.keyHash w.params (Str.ofString "__lt__"), (.str (Str.ofString "__lt__") (tf 10)), (.ref (af 4))⟩, ⟨PyData.keyHash w.params (Str.ofString "__gt__"), (.str (Str.ofString "__gt__") (tf 11)), (.ref (af 6))⟩, ⟨PyData.keyHash w.params (Str.ofString "__eq__"), (.str (Str.ofString "__eq__") (tf 12)), (.ref (af 8))⟩, ⟨PyData.keyHash w.params (Str.ofString "__le__"), (.str (Str.ofString "__le__") (tf 13)), (.ref (af 10))⟩] 9), #[]⟩) 11 rfl ?ht rfl ?hn ?_; (case ht => kernel_rfl); (case hn => dsimp only [List.set_cons_succ, List.set_cons_zero])
  refine' w_alloc (o := ⟨(.type "tuple"), none, (.seq #[(.ref a130)] 0), #[]⟩) (i' := 12) ?ht rfl rfl ?_; (case ht => with_unfolding_all rfl)
  refine' v_loadO hO72 rfl ?ht ?_; (case ht => kernel_rfl)
  refine' v_loadO hO71 rfl ?ht ?_; (case ht => kernel_rfl)
  refine' w_loadO ?ht hO3 rfl ?_; (case ht => with_unfolding_all rfl)
  refine' v_loadO hO4 rfl ?ht ?_; (case ht => kernel_rfl)
  refine' v_loadO hO3 rfl ?ht ?_; (case ht => kernel_rfl)
  refine' w_alloc (o := ⟨(.type "function"), none, (.func (fnD 7 "__ge__" [((Str.ofString "mycmp"), a130)] (.ref a120) (.ref (af 11)))), #[]⟩) (i' := 13) ?ht rfl rfl ?_; (case ht => with_unfolding_all rfl)
  refine' v_load 13 rfl ?ht ?_; (case ht => kernel_rfl)
  refine' v_fresh (j' := 15) ?ht rfl ?_; (case ht => kernel_rfl)
  refine' w_load ?ht 13 rfl ?_; (case ht => with_unfolding_all rfl)
  refine' v_update (o' := ⟨(.type "dict"), none, (.dict #[⟨PyData.keyHash w.params (Str.ofString "__module__"), (.str (Str.ofString "__module__") (tf 0)), (.str (Str.ofString "cpy313.functools") (tf 5))⟩, ⟨PyData.keyHash w.params (Str.ofString "__qualname__"), (.str (Str.ofString "__qualname__") (tf 2)), (.str (Str.ofString "cmp_to_key.<locals>.K") (tf 1))⟩, ⟨PyData.keyHash w.params (Str.ofString "__firstlineno__"), (.str (Str.ofString "__firstlineno__") (tf 4)), (.int 4 (tf 3))⟩, ⟨PyData.keyHash w.params (Str.ofString "__slots__"), (.str (Str.ofString "__slots__") (tf 8)), (.ref (af 1))⟩, ⟨PyData.keyHash w.params (Str.ofString "__init__"), (.str (Str.ofString "__init__") (tf 9)), (.ref (af 2))⟩, ⟨PyData.keyHash w.params (Str.ofString "__lt__"), (.str (Str.ofString "__lt__") (tf 10)), (.ref (af 4))⟩, ⟨PyData.keyHash w.params (Str.ofString "__gt__"), (.str (Str.ofString "__gt__") (tf 11)), (.ref (af 6))⟩, ⟨PyData.keyHash w.params (Str.ofString "__eq__"), (.str (Str.ofString "__eq__") (tf 12)), (.ref (af 8))⟩, ⟨PyData.keyHash w.params (Str.ofString "__le__"), (.str (Str.ofString "__le__") (tf 13)), (.ref (af 10))⟩, ⟨PyData.keyHash w.params (Str.ofString "__ge__"), (.str (Str.ofString "__ge__") (tf 14)), (.ref (af 12))⟩] 10), #[]⟩) 13 rfl ?ht rfl ?hn ?_; (case ht => kernel_rfl); (case hn => dsimp only [List.set_cons_succ, List.set_cons_zero])
  refine' v_load 13 rfl ?ht ?_; (case ht => kernel_rfl)
  refine' w_fresh (j' := 16) ?ht rfl ?_; (case ht => with_unfolding_all rfl)
  refine' v_load 13 rfl ?ht ?_; (case ht => kernel_rfl)
  refine' w_update (o' := ⟨(.type "dict"), none, (.dict #[⟨PyData.keyHash w.params (Str.ofString "__module__"), (.str (Str.ofString "__module__") (tf 0)), (.str (Str.ofString "cpy313.functools") (tf 5))⟩, ⟨PyData.keyHash w.params (Str.ofString "__qualname__"), (.str (Str.ofString "__qualname__") (tf 2)), (.str (Str.ofString "cmp_to_key.<locals>.K") (tf 1))⟩, ⟨PyData.keyHash w.params (Str.ofString "__firstlineno__"), (.str (Str.ofString "__firstlineno__") (tf 4)), (.int 4 (tf 3))⟩, ⟨PyData.keyHash w.params (Str.ofString "__slots__"), (.str (Str.ofString "__slots__") (tf 8)), (.ref (af 1))⟩, ⟨PyData.keyHash w.params (Str.ofString "__init__"), (.str (Str.ofString "__init__") (tf 9)), (.ref (af 2))⟩, ⟨PyData.keyHash w.params (Str.ofString "__lt__"), (.str (Str.ofString "__lt__") (tf 10)), (.ref (af 4))⟩, ⟨PyData.keyHash w.params (Str.ofString "__gt__"), (.str (Str.ofString "__gt__") (tf 11)), (.ref (af 6))⟩, ⟨PyData.keyHash w.params (Str.ofString "__eq__"), (.str (Str.ofString "__eq__") (tf 12)), (.ref (af 8))⟩, ⟨PyData.keyHash w.params (Str.ofString "__le__"), (.str (Str.ofString "__le__") (tf 13)), (.ref (af 10))⟩, ⟨PyData.keyHash w.params (Str.ofString "__ge__"), (.str (Str.ofString "__ge__") (tf 14)), (.ref (af 12))⟩, ⟨PyData.keyHash w.params (Str.ofString "__hash__"), (.str (Str.ofString "__hash__") (tf 15)), .none⟩] 11), #[]⟩) ?ht 13 rfl ?hu rfl ?hn ?_; (case ht => with_unfolding_all rfl); (case hu => with_unfolding_all rfl); (case hn => dsimp only [List.set_cons_succ, List.set_cons_zero])
  refine w_pure (by with_unfolding_all rfl) ?_
  refine Wq.map (fun h tk D z => wpAny_pure z) ?_
  refine' v_fresh (j' := 17) ?ht rfl ?_; (case ht => kernel_rfl)
  refine' v_alloc (o := ⟨(.type "tuple"), none, (.seq #[(.str (Str.ofString "obj") (tf 16))] 0), #[]⟩) (i' := 14) ?ht rfl rfl ?_; (case ht => kernel_rfl)
  refine' w_load ?ht 14 rfl ?_; (case ht => with_unfolding_all rfl)
  refine' v_fresh (j' := 18) ?ht rfl ?_; (case ht => kernel_rfl)
  refine' v_load 14 rfl ?ht ?_; (case ht => kernel_rfl)
  refine' w_update (o' := ⟨(.type "dict"), none, (.dict #[⟨PyData.keyHash w.params (Str.ofString "__module__"), (.str (Str.ofString "__module__") (tf 0)), (.str (Str.ofString "cpy313.functools") (tf 5))⟩, ⟨PyData.keyHash w.params (Str.ofString "__qualname__"), (.str (Str.ofString "__qualname__") (tf 2)), (.str (Str.ofString "cmp_to_key.<locals>.K") (tf 1))⟩, ⟨PyData.keyHash w.params (Str.ofString "__firstlineno__"), (.str (Str.ofString "__firstlineno__") (tf 4)), (.int 4 (tf 3))⟩, ⟨PyData.keyHash w.params (Str.ofString "__slots__"), (.str (Str.ofString "__slots__") (tf 8)), (.ref (af 1))⟩, ⟨PyData.keyHash w.params (Str.ofString "__init__"), (.str (Str.ofString "__init__") (tf 9)), (.ref (af 2))⟩, ⟨PyData.keyHash w.params (Str.ofString "__lt__"), (.str (Str.ofString "__lt__") (tf 10)), (.ref (af 4))⟩, ⟨PyData.keyHash w.params (Str.ofString "__gt__"), (.str (Str.ofString "__gt__") (tf 11)), (.ref (af 6))⟩, ⟨PyData.keyHash w.params (Str.ofString "__eq__"), (.str (Str.ofString "__eq__") (tf 12)), (.ref (af 8))⟩, ⟨PyData.keyHash w.params (Str.ofString "__le__"), (.str (Str.ofString "__le__") (tf 13)), (.ref (af 10))⟩, ⟨PyData.keyHash w.params (Str.ofString "__ge__"), (.str (Str.ofString "__ge__") (tf 14)), (.ref (af 12))⟩, ⟨PyData.keyHash w.params (Str.ofString "__hash__"), (.str (Str.ofString "__hash__") (tf 15)), .none⟩, ⟨PyData.keyHash w.params (Str.ofString "__static_attributes__"), (.str (Str.ofString "__static_attributes__") (tf 17)), (.ref (af 13))⟩] 12), #[]⟩) ?ht 14 rfl ?hu rfl ?hn ?_; (case ht => with_unfolding_all rfl); (case hu => with_unfolding_all rfl); (case hn => dsimp only [List.set_cons_succ, List.set_cons_zero])
  refine Wq.out (fun hE tkE Ds33 => ?_)
  refine' e_call ?ht ?_; (case ht => with_unfolding_all rfl)
  refine' typeCallT (Md.old Ds33 hO2 rfl) (Md.at Ds33 16 _ _ rfl) (Md.at Ds33 14 _ _ rfl) (Md.at Ds33 12 _ _ rfl) (Md.at Ds33 11 _ _ rfl) (Md.at Ds33 9 _ _ rfl) (Md.at Ds33 7 _ _ rfl) (Md.at Ds33 5 _ _ rfl) (Md.at Ds33 3 _ _ rfl) (Md.at Ds33 1 _ _ rfl) (Md.at Ds33 0 _ _ rfl) hn (fun a149 a150 a151 u98 u99 u100 h150 tk150 DT => ?_); (try exact [])
  have Ds34 := Md.trans Ds33 DT (fun _ hb => nomatch hb) (fun _ _ hb => nomatch hb); simp only [List.cons_append, List.nil_append] at Ds34; clear Ds33 DT
  refine Wq.enter Ds34 (fun ag tg => ?_)
  refine w_pure (a := Value.ref a150) (by with_unfolding_all rfl) ?_
  refine' v_fresh (j' := 1) ?ht rfl ?_; (case ht => kernel_rfl)
  refine' v_load 21 rfl ?ht ?_; (case ht => kernel_rfl)
  refine' w_update (o' := ⟨(.type "frame"), none, (.dict #[⟨PyData.keyHash w.params (Str.ofString "K"), (.str (Str.ofString "K") (tg 0)), (.ref a150)⟩] 1), #[]⟩) ?ht 21 rfl ?hu rfl ?hn ?_; (case ht => with_unfolding_all rfl); (case hu => with_unfolding_all rfl); (case hn => dsimp only [List.set_cons_succ, List.set_cons_zero])
  refine w_pure (a := Flow.next) (by with_unfolding_all rfl) ?_
  refine' w_load ?ht 21 rfl ?_; (case ht => with_unfolding_all rfl)
  refine w_pure (a := Flow.ret (.ref a150)) (by with_unfolding_all rfl) ?_
  refine Wq.out (fun hE tkE Ds35 => ?_)
  refine wpAny_pure ?_
  exact hret a130 a131 (af 1) (af 2) (af 3) (af 4) (af 5) (af 6) (af 7) (af 8) (af 9) (af 10) (af 11) (af 12) (af 13) a149 a150 a151 u78 (tf 0) (tf 1) (tf 3) (tf 4) (tf 5) (tf 8) (tf 9) (tf 10) (tf 11) (tf 12) (tf 13) (tf 14) (tf 15) (tf 17) u98 u99 u100 _ _ (Md.sub Ds35 (.cons_cons _ (.cons_cons _ (.cons_cons _ (.cons _ (.cons_cons _ (.cons _ (.cons_cons _ (.cons _ (.cons_cons _ (.cons _ (.cons_cons _ (.cons _ (.cons_cons _ (.cons _ (.cons_cons _ (.cons _ (.cons _ (.cons _ (.cons _ (.cons _ (.cons_cons _ (.cons _ .slnil)))))))))))))))))))))))
end Mine
end

section
-- KCz
open PySem PySem.W PyProof.Rows PySem.Builtin PySem.W.X
set_option maxRecDepth 100000
set_option maxHeartbeats 0
namespace Mine
abbrev nsO (w : World) (sl f0 f1 f2 f3 f4 f5 st md : Addr) (u80 u83 u84 u85 u88 u89 u90 u91 u92 u93 u94 u95 u97 u99 u100 : Tok) : Obj := ⟨(.type "dict"), none, (.dict #[⟨PyData.keyHash w.params (Str.ofString "__module__"), (.str (Str.ofString "__module__") u80), (.str (Str.ofString "cpy313.functools") u85)⟩, ⟨PyData.keyHash w.params (Str.ofString "__firstlineno__"), (.str (Str.ofString "__firstlineno__") u84), (.int 4 u83)⟩, ⟨PyData.keyHash w.params (Str.ofString "__slots__"), (.str (Str.ofString "__slots__") u88), (.ref sl)⟩, ⟨PyData.keyHash w.params (Str.ofString "__init__"), (.str (Str.ofString "__init__") u89), (.ref f0)⟩, ⟨PyData.keyHash w.params (Str.ofString "__lt__"), (.str (Str.ofString "__lt__") u90), (.ref f1)⟩, ⟨PyData.keyHash w.params (Str.ofString "__gt__"), (.str (Str.ofString "__gt__") u91), (.ref f2)⟩, ⟨PyData.keyHash w.params (Str.ofString "__eq__"), (.str (Str.ofString "__eq__") u92), (.ref f3)⟩, ⟨PyData.keyHash w.params (Str.ofString "__le__"), (.str (Str.ofString "__le__") u93), (.ref f4)⟩, ⟨PyData.keyHash w.params (Str.ofString "__ge__"), (.str (Str.ofString "__ge__") u94), (.ref f5)⟩, ⟨PyData.keyHash w.params (Str.ofString "__hash__"), (.str (Str.ofString "__hash__") u95), .none⟩, ⟨PyData.keyHash w.params (Str.ofString "__static_attributes__"), (.str (Str.ofString "__static_attributes__") u97), (.ref st)⟩, ⟨PyData.keyHash w.params (Str.ofString "obj"), (.str (Str.ofString "obj") u99), (.ref md)⟩, ⟨PyData.keyHash w.params (Str.ofString "__doc__"), (.str (Str.ofString "__doc__") u100), .none⟩] 3), #[]⟩
abbrev mdO (C : Addr) (u : Tok) : Obj := ⟨(.type "member_descriptor"), none, (.fields #[(.str (Str.ofString "obj") u), (.ref C), (.builtin "proto.slot"), (.builtin "proto.slot#set"), (.int 0 0)]), #[]⟩
abbrev cellO (v : Value) : Obj := ⟨.type "cell", none, .cell (some v), #[]⟩
abbrev fnO (i : Nat) (name : String) (clos : List (Str × Addr)) (code : Addr) (ct : Value) : Obj := ⟨(.type "function"), none, (.func (fnD i name clos (.ref code) ct)), #[]⟩
abbrev codeO (name : String) (line : Int) (b0 b1 b2 b3 b4 : Addr) (t0 t1 t2 t3 t4 : Tok) : Obj := ⟨(.type "code"), none, (.fields #[(.str (Str.ofString name) t0), (.str (Str.ofString "cmp_to_key.<locals>.K." ++ Str.ofString name) t1), (.str (Str.ofString "/claim/cut.py") t2), (.int line 0), (.int 2 0), (.int 0 0), (.int 0 0), (.int 19 0), (.ref b0), (.bool true), (.int 181 0), (.ref b1), .none, (.ref b2), (.ref b3), (.ref b4), (.int ((t3 : Nat) : Int) 0), (.int line 0), (.str (Str.ofString "/claim/cut.py") t4)]), #[]⟩
abbrev kcO (b0 kt : Addr) (t0 t1 t2 t3 t4 : Tok) : Obj := ⟨(.type "code"), none, (.fields #[(.str (Str.ofString "K") t0), (.str (Str.ofString "cmp_to_key.<locals>.K") t1), (.str (Str.ofString "/claim/cut.py") t2), (.int 4 0), (.int 0 0), (.int 0 0), (.int 0 0), (.int 0 0), (.ref b0), (.bool true), (.int 181 0), (.ref kt), .none, .none, .none, .none, (.int ((t3 : Nat) : Int) 0), (.int 4 0), (.str (Str.ofString "/claim/cut.py") t4)]), #[]⟩
abbrev ktO (c0 c1 c2 c3 c4 c5 : Addr) : Obj := ⟨.none, none, (.fields #[(.int 8 0), (.int 8 0), (.ref c0), (.int 11 0), (.int 8 0), (.ref c1), (.int 14 0), (.int 8 0), (.ref c2), (.int 17 0), (.int 8 0), (.ref c3), (.int 20 0), (.int 8 0), (.ref c4), (.int 23 0), (.int 8 0), (.ref c5)]), #[]⟩
abbrev tabO (vs : Array Value) : Obj := ⟨.none, none, .fields vs, #[]⟩
/-- the codes of the class and of its methods, made once -/
structure Codes where
  kc : Addr
  kt : Addr
  c0 : Addr
  c1 : Addr
  c2 : Addr
  c3 : Addr
  c4 : Addr
  c5 : Addr
def IsCodeO (h : Heap) (c : Addr) (name : String) (line : Int) : Prop := ∃ (b : Nat → Addr) (t : Nat → Tok), h.get? c = some (codeO name line (b 0) (b 1) (b 2) (b 3) (b 4) (t 0) (t 1) (t 2) (t 3) (t 4))
theorem IsCodeO.mk' {h : Heap} {c : Addr} {name : String} {line : Int} {b0 b1 b2 b3 b4 : Addr} {t0 t1 t2 t3 t4 : Tok} (q : h.get? c = some (codeO name line b0 b1 b2 b3 b4 t0 t1 t2 t3 t4)) : IsCodeO h c name line :=
  ⟨fun i => [b0, b1, b2, b3, b4].getD i 0, fun i => [t0, t1, t2, t3, t4].getD i 0, q⟩
structure KCodes (h : Heap) (k : Codes) : Prop where
  tab : h.get? 16 = some (tabO #[(.int 4 0), (.int 4 0), (.ref k.kc)])
  kc : ∃ b0 t0 t1 t2 t3 t4, h.get? k.kc = some (kcO b0 k.kt t0 t1 t2 t3 t4)
  kt : h.get? k.kt = some (ktO k.c0 k.c1 k.c2 k.c3 k.c4 k.c5)
  m0 : IsCodeO h k.c0 "__init__" 8
  m1 : IsCodeO h k.c1 "__lt__" 11
  m2 : IsCodeO h k.c2 "__gt__" 14
  m3 : IsCodeO h k.c3 "__eq__" 17
  m4 : IsCodeO h k.c4 "__le__" 20
  m5 : IsCodeO h k.c5 "__ge__" 23
/-- a class of cmp_to_key's at C, over the function v -/
def KCls (w : World) (h : Heap) (k : Codes) (C : Addr) (v : Value) : Prop := ∃ (ad : Nat → Addr) (ut : Nat → Tok),
  h.get? C = some (clsO C (ad 0) (ad 1) (ut 0) (ut 1)) ∧
  h.get? (ad 0) = some (nsO w (ad 2) (ad 5) (ad 6) (ad 7) (ad 8) (ad 9) (ad 10) (ad 3) (ad 4) (ut 3) (ut 4) (ut 5) (ut 6) (ut 7) (ut 8) (ut 9) (ut 10) (ut 11) (ut 12) (ut 13) (ut 14) (ut 15) (ut 16) (ut 17)) ∧
  h.get? (ad 4) = some (mdO C (ut 2)) ∧
  h.get? (ad 16) = some (cellO v) ∧
  h.get? (ad 5) = some (fnO 2 "__init__" [] k.c0 .none) ∧
  h.get? (ad 6) = some (fnO 3 "__lt__" [(Str.ofString "mycmp", (ad 16))] k.c1 (.ref (ad 11))) ∧
  h.get? (ad 7) = some (fnO 4 "__gt__" [(Str.ofString "mycmp", (ad 16))] k.c2 (.ref (ad 12))) ∧
  h.get? (ad 8) = some (fnO 5 "__eq__" [(Str.ofString "mycmp", (ad 16))] k.c3 (.ref (ad 13))) ∧
  h.get? (ad 9) = some (fnO 6 "__le__" [(Str.ofString "mycmp", (ad 16))] k.c4 (.ref (ad 14))) ∧
  h.get? (ad 10) = some (fnO 7 "__ge__" [(Str.ofString "mycmp", (ad 16))] k.c5 (.ref (ad 15)))
theorem KCls.mk' {w : World} {h : Heap} {k : Codes} {C : Addr} {v : Value} {NS bT sl st md f0 f1 f2 f3 f4 f5 g1 g2 g3 g4 g5 cell : Addr} {tn tq um u80 u83 u84 u85 u88 u89 u90 u91 u92 u93 u94 u95 u97 u99 u100 : Tok}
   (q0 : h.get? C = some (clsO C NS bT tn tq)) (q1 : h.get? NS = some (nsO w sl f0 f1 f2 f3 f4 f5 st md u80 u83 u84 u85 u88 u89 u90 u91 u92 u93 u94 u95 u97 u99 u100)) (q2 : h.get? md = some (mdO C um)) (q3 : h.get? cell = some (cellO v)) (q4 : h.get? f0 = some (fnO 2 "__init__" [] k.c0 .none)) (q5 : h.get? f1 = some (fnO 3 "__lt__" [(Str.ofString "mycmp", cell)] k.c1 (.ref g1))) (q6 : h.get? f2 = some (fnO 4 "__gt__" [(Str.ofString "mycmp", cell)] k.c2 (.ref g2))) (q7 : h.get? f3 = some (fnO 5 "__eq__" [(Str.ofString "mycmp", cell)] k.c3 (.ref g3))) (q8 : h.get? f4 = some (fnO 6 "__le__" [(Str.ofString "mycmp", cell)] k.c4 (.ref g4))) (q9 : h.get? f5 = some (fnO 7 "__ge__" [(Str.ofString "mycmp", cell)] k.c5 (.ref g5))) : KCls w h k C v :=
  ⟨fun i => [NS, bT, sl, st, md, f0, f1, f2, f3, f4, f5, g1, g2, g3, g4, g5, cell].getD i 0, fun i => [tn, tq, um, u80, u83, u84, u85, u88, u89, u90, u91, u92, u93, u94, u95, u97, u99, u100].getD i 0, q0, q1, q2, q3, q4, q5, q6, q7, q8, q9⟩
end Mine
end

section
-- KNz
open PySem PySem.W PyProof.Rows PySem.Builtin PySem.W.X
set_option maxRecDepth 100000
set_option maxHeartbeats 0
namespace Mine
abbrev insO (C dd : Addr) (x : Value) : Obj := ⟨.ref C, some dd, .plain, #[some x]⟩
theorem s_new {w : World} {A : Around} {Q : Result → Shared → Prop} {E : Value → Shared → Prop} {h : Heap} {d : Drawn} {tk : Nat} {os : OsState} {l : List Value} {k : Codes} {C : Addr} {v x : Value} (hc : KCls w h k C v) (hk : KCodes h k) (hO2 : h.get? 2 = some statO) (hdp : A.depth + 10 < recursionLimit)
   (hret : ∀ r dd h' tk', Md [] h h' [(r, insO C dd x)] → Q (.ok (.ret (.ref r))) ⟨h', #[], d, tk', os⟩) :
   wpAny (model PRG w) A (Sem.call (.call (.ref C) ⟨[x], []⟩) none false l Sem.pure) Q E ⟨h, #[], d, tk, os⟩ := by
  obtain ⟨kc, kt, c0, c1, c2, c3, c4, c5⟩ := k
  obtain ⟨ad, ut, hC, hNS, hmd, hcell, hf0, hf1, -⟩ := hc
  obtain ⟨cb, ct, hc0⟩ := hk.m0
  refine Wq.enter (Md.start0 (ex := []) (h := h)) (fun af tf => ?_)
  refine Wq.map (fun h tk D z => x_call (x_code z) (by intro h; cases h)) ?_
  refine' v_loadO hC rfl ?ht ?_; (case ht => kernel_rfl)
  refine' w_loadO ?ht hC rfl ?_; (case ht => with_unfolding_all rfl)
  refine w_pure (a := .again (.call (.builtin "type.__call__") ⟨[.ref C, x], []⟩)) (by with_unfolding_all rfl) ?_
  refine Wq.map (fun h tk D z => ⟨by kernel_rfl, codeAny_call_builtin_at (b := PySem.Builtin.«type.__call__») (by kernel_rfl) (entryFor_of_tree (by kernel_rfl)) z⟩) ?_
  refine' w_loadO ?ht hC rfl ?_; (case ht => with_unfolding_all rfl)
  refine w_pure (a := ()) (by with_unfolding_all rfl) ?_
  refine' v_loadO hC rfl ?ht ?_; (case ht => kernel_rfl)
  refine' v_loadO hC rfl ?ht ?_; (case ht => kernel_rfl)
  refine' w_loadO ?ht hC rfl ?_; (case ht => with_unfolding_all rfl)
  refine' w_call ?ht ?_; (case ht => with_unfolding_all rfl)
  refine Wq.map (fun h tk D z => x_call (codeAny_call_builtin_at (b := PySem.Builtin.«object.__new__») (by kernel_rfl) (entryFor_of_tree (by kernel_rfl)) z) (by intro h; cases h)) ?_
  refine' v_loadO hC rfl ?ht ?_; (case ht => kernel_rfl)
  refine' v_loadO hC rfl ?ht ?_; (case ht => kernel_rfl)
  refine' w_loadO ?ht hC rfl ?_; (case ht => with_unfolding_all rfl)
  refine' v_loadO hC rfl ?ht ?_; (case ht => kernel_rfl)
  refine' v_loadO hC rfl ?ht ?_; (case ht => kernel_rfl)
  refine' w_loadO ?ht hC rfl ?_; (case ht => with_unfolding_all rfl)
  refine' w_loadO ?ht hC rfl ?_; (case ht => with_unfolding_all rfl)
  refine w_pure (a := ()) (by with_unfolding_all rfl) ?_
  refine' v_loadO hC rfl ?ht ?_; (case ht => kernel_rfl)
  refine' v_loadO hC rfl ?ht ?_; (case ht => kernel_rfl)
  refine' w_loadO ?ht hC rfl ?_; (case ht => with_unfolding_all rfl)
  refine' v_loadO hC rfl ?ht ?_; (case ht => kernel_rfl)
  refine' v_loadO hC rfl ?ht ?_; (case ht => kernel_rfl)
  refine' w_loadO ?ht hC rfl ?_; (case ht => with_unfolding_all rfl)
  refine' v_loadO hC rfl ?ht ?_; (case ht => kernel_rfl)
  refine' v_loadO hC rfl ?ht ?_; (case ht => kernel_rfl)
  refine' w_loadO ?ht hC rfl ?_; (case ht => with_unfolding_all rfl)
  refine' v_loadO hC rfl ?ht ?_; (case ht => kernel_rfl)
  refine' v_loadO hNS rfl ?ht ?_; (case ht => kernel_rfl)
  refine' w_loadO ?ht hC rfl ?_; (case ht => with_unfolding_all rfl)
  refine' v_alloc (o := ⟨.type "dict", none, .dict #[] 0, #[]⟩) (i' := 1) ?ht rfl rfl ?_; (case ht => kernel_rfl)
  refine' v_alloc (o := ⟨.ref C, some (af 0), .plain, #[]⟩) (i' := 2) ?ht rfl rfl ?_; (case ht => kernel_rfl)
  refine' w_loadO ?ht hC rfl ?_; (case ht => with_unfolding_all rfl)
  refine w_pure (a := .done (.ret (.ref (af 1)))) (by with_unfolding_all rfl) ?_
  refine Wq.map (fun h tk D z => wpAny_pure z) ?_
  refine' v_load 0 rfl ?ht ?_; (case ht => kernel_rfl)
  refine' w_loadO ?ht hC rfl ?_; (case ht => with_unfolding_all rfl)
  refine w_step (a := true) (Eq.trans (b := Sem.pure (List.contains [Value.ref C, Value.type "object"] (Value.ref C))) (by with_unfolding_all rfl) (congrArg Sem.pure (by simp))) ?_
  refine' v_load 0 rfl ?ht ?_; (case ht => kernel_rfl)
  refine' v_loadO hC rfl ?ht ?_; (case ht => kernel_rfl)
  refine' w_loadO ?ht hC rfl ?_; (case ht => with_unfolding_all rfl)
  refine' v_loadO hNS rfl ?ht ?_; (case ht => kernel_rfl)
  refine' w_loadO ?ht hf0 rfl ?_; (case ht => with_unfolding_all rfl)
  refine' w_call ?ht ?_; (case ht => with_unfolding_all rfl)
  refine Wq.map (fun h tk D z => x_call (codeAny_call_function (Nat.lt_of_le_of_lt (m := A.depth + 1) (by first | exact Nat.le_refl _ | exact Nat.le_succ _) (by omega)) (Md.old D hf0 rfl) (by with_unfolding_all rfl) (by with_unfolding_all rfl) (by with_unfolding_all rfl) (by with_unfolding_all rfl) ⟨c0, _, _, _, by with_unfolding_all rfl, Md.old D hc0 rfl, by with_unfolding_all rfl, by with_unfolding_all rfl⟩ z) (by intro h; cases h)) ?_
  refine w_pure (by with_unfolding_all rfl) ?_
  refine' v_alloc (o := ⟨.type "frame", none, .dict #[] 0, #[]⟩) (i' := 3) ?ht rfl rfl ?_; (case ht => kernel_rfl)
  refine' v_fresh (j' := 1) ?ht rfl ?_; (case ht => kernel_rfl)
  refine' w_load ?ht 0 rfl ?_; (case ht => with_unfolding_all rfl)
  refine' v_update (o' := ⟨.type "frame", none, .dict #[⟨PyData.keyHash w.params (Str.ofString "self"), (.str (Str.ofString "self") (tf 0)), (.ref (af 1))⟩] 1, #[]⟩) 0 rfl ?ht rfl ?hn ?_; (case ht => kernel_rfl); (case hn => dsimp only [List.set_cons_succ, List.set_cons_zero])
  refine' v_fresh (j' := 2) ?ht rfl ?_; (case ht => kernel_rfl)
  refine' w_load ?ht 0 rfl ?_; (case ht => with_unfolding_all rfl)
  refine' w_update (o' := ⟨.type "frame", none, .dict #[⟨PyData.keyHash w.params (Str.ofString "self"), (.str (Str.ofString "self") (tf 0)), (.ref (af 1))⟩, ⟨PyData.keyHash w.params (Str.ofString "obj"), (.str (Str.ofString "obj") (tf 1)), x⟩] 2, #[]⟩) ?ht 0 rfl ?hu rfl ?hn ?_; (case ht => with_unfolding_all rfl); (case hu => with_unfolding_all rfl); (case hn => dsimp only [List.set_cons_succ, List.set_cons_zero])
  refine w_pure (by with_unfolding_all rfl) ?_
  refine Wq.map (fun h tk D z => ⟨noLimit_of (Md.old D hO2 rfl), codeAny_func z⟩) ?_
  refine Wq.map (fun h tk D z => wpAny_execs_cons (plainObj_wpAny_Assign_Attribute z)) ?_
  refine' w_load ?ht 0 rfl ?_; (case ht => with_unfolding_all rfl)
  refine w_pure (a := x) (by with_unfolding_all rfl) ?_
  refine' w_load ?ht 0 rfl ?_; (case ht => with_unfolding_all rfl)
  refine w_pure (a := .ref (af 1)) (by with_unfolding_all rfl) ?_
  refine' v_fresh (j' := 3) ?ht rfl ?_; (case ht => kernel_rfl)
  refine' v_load 1 rfl ?ht ?_; (case ht => kernel_rfl)
  refine' w_loadO ?ht hC rfl ?_; (case ht => with_unfolding_all rfl)
  refine' v_loadO hC rfl ?ht ?_; (case ht => kernel_rfl)
  refine' w_loadO ?ht hNS rfl ?_; (case ht => with_unfolding_all rfl)
  refine' w_call ?ht ?_; (case ht => with_unfolding_all rfl)
  refine Wq.map (fun h tk D z => x_call (codeAny_call_builtin_at (b := PySem.Builtin.«object.__setattr__») (by kernel_rfl) (entryFor_of_tree (by kernel_rfl)) z) (by intro h; cases h)) ?_
  refine' v_load 1 rfl ?ht ?_; (case ht => kernel_rfl)
  refine' w_loadO ?ht hC rfl ?_; (case ht => with_unfolding_all rfl)
  refine w_pure (a := ()) (by with_unfolding_all rfl) ?_
  refine' v_load 1 rfl ?ht ?_; (case ht => kernel_rfl)
  refine' v_loadO hC rfl ?ht ?_; (case ht => kernel_rfl)
  refine' w_load ?ht 1 rfl ?_; (case ht => with_unfolding_all rfl)
  refine' v_loadO hC rfl ?ht ?_; (case ht => kernel_rfl)
  refine' v_loadO hC rfl ?ht ?_; (case ht => kernel_rfl)
  refine' w_loadO ?ht hNS rfl ?_; (case ht => with_unfolding_all rfl)
  refine' v_loadO hmd rfl ?ht ?_; (case ht => kernel_rfl)
  refine' w_loadO ?ht hmd rfl ?_; (case ht => with_unfolding_all rfl)
  refine' w_call ?ht ?_; (case ht => with_unfolding_all rfl)
  refine Wq.map (fun h tk D z => x_call (codeAny_call_builtin_at (b := PySem.Builtin.«member_descriptor.__set__») (by kernel_rfl) (entryFor_of_tree (by kernel_rfl)) z) (by intro h; cases h)) ?_
  refine' w_loadO ?ht hmd rfl ?_; (case ht => with_unfolding_all rfl)
  refine w_pure (a := ()) (by with_unfolding_all rfl) ?_
  refine' v_loadO hmd rfl ?ht ?_; (case ht => kernel_rfl)
  refine' v_loadO hmd rfl ?ht ?_; (case ht => kernel_rfl)
  refine' w_load ?ht 1 rfl ?_; (case ht => with_unfolding_all rfl)
  refine' w_loadO ?ht hC rfl ?_; (case ht => with_unfolding_all rfl)
  refine Wq.map (fun h tk D z => wpAny_bind z) ?_
  refine w_step (a := true) (Eq.trans (b := Sem.pure (List.contains [Value.ref C, Value.type "object"] (Value.ref C))) (by with_unfolding_all rfl) (congrArg Sem.pure (by simp))) ?_
  refine w_pure (by with_unfolding_all rfl) ?_
  refine' v_loadO hmd rfl ?ht ?_; (case ht => kernel_rfl)
  refine' w_loadO ?ht hmd rfl ?_; (case ht => with_unfolding_all rfl)
  refine w_pure (a := .again (.builtin "proto.slot#set" ⟨[.ref (af 1), x, .ref (ad 4)], []⟩)) (by with_unfolding_all rfl) ?_
  refine Wq.map (fun h tk D z => ⟨by kernel_rfl, codeAny_builtin (b := PySem.Builtin.«proto.slot#set») (entryFor_of_tree (by kernel_rfl)) z⟩) ?_
  refine' v_loadO hmd rfl ?ht ?_; (case ht => kernel_rfl)
  refine' v_loadO hmd rfl ?ht ?_; (case ht => kernel_rfl)
  refine' w_load ?ht 1 rfl ?_; (case ht => with_unfolding_all rfl)
  refine' v_loadO hC rfl ?ht ?_; (case ht => kernel_rfl)
  refine' w_update (o' := insO C (af 0) x) ?ht 1 rfl ?hu rfl ?hn ?_; (case ht => with_unfolding_all rfl); (case hu => with_unfolding_all rfl); (case hn => dsimp only [List.set_cons_succ, List.set_cons_zero])
  refine w_pure (by with_unfolding_all rfl) ?_
  refine w_pure (by with_unfolding_all rfl) ?_
  refine w_pure (by with_unfolding_all rfl) ?_
  refine w_pure (by with_unfolding_all rfl) ?_
  refine w_pure (by with_unfolding_all rfl) ?_
  refine w_pure (by with_unfolding_all rfl) ?_
  refine w_pure (by with_unfolding_all rfl) ?_
  refine w_pure (by with_unfolding_all rfl) ?_
  refine w_pure (by with_unfolding_all rfl) ?_
  exact Wq.out (fun hE tkE D => hret _ _ _ _ (Md.sub D (.cons _ (.cons_cons _ (.cons _ .slnil)))))
end Mine
end

section
-- KGz
open PySem PySem.W PyProof.Rows PySem.Builtin PySem.W.X
set_option maxRecDepth 100000
set_option maxHeartbeats 0
namespace Mine
theorem s_getobj {w : World} {A : Around} {Q : Result → Shared → Prop} {E : Value → Shared → Prop} {h : Heap} {d : Drawn} {tk : Nat} {os : OsState} {l : List Value} {k : Codes} {C i dd : Addr} {v x : Value} {u : Tok} (hc : KCls w h k C v) (hi : h.get? i = some (insO C dd x))
   (hret : ∀ tk', Q (.ok (.ret x)) ⟨h, #[], d, tk', os⟩) :
   wpAny (model PRG w) A (Sem.call (.builtin "proto.getattr_hooked" ⟨[.ref i, .str (Str.ofString "obj") u], []⟩) none false l Sem.pure) Q E ⟨h, #[], d, tk, os⟩ := by
  obtain ⟨ad, ut, hC, hNS, hmd, -⟩ := hc
  refine x_call (codeAny_builtin (b := PySem.Builtin.«proto.getattr_hooked») (entryFor_of_tree (by kernel_rfl)) ?_) (by intro h; cases h)
  refine' f_load ?ht hi ?_; (case ht => kernel_rfl)
  refine' f_load ?ht hC ?_; (case ht => kernel_rfl)
  refine' f_load ?ht hC ?_; (case ht => kernel_rfl)
  refine' e_load ?ht hNS ?_; (case ht => with_unfolding_all rfl)
  refine' f_load ?ht hmd ?_; (case ht => kernel_rfl)
  refine' f_load ?ht hmd ?_; (case ht => kernel_rfl)
  refine' f_load ?ht hC ?_; (case ht => kernel_rfl)
  refine' e_load ?ht hC ?_; (case ht => with_unfolding_all rfl)
  refine' e_load ?ht hNS ?_; (case ht => with_unfolding_all rfl)
  refine' e_call ?ht ?_; (case ht => with_unfolding_all rfl)
  refine x_call (codeAny_call_builtin_at (b := PySem.Builtin.«member_descriptor.__get__») (by kernel_rfl) (entryFor_of_tree (by kernel_rfl)) ?_) (by intro h; cases h)
  refine' e_load ?ht hmd ?_; (case ht => with_unfolding_all rfl)
  refine e_pure (a := ()) (by with_unfolding_all rfl) ?_
  refine' f_load ?ht hmd ?_; (case ht => kernel_rfl)
  refine' f_load ?ht hmd ?_; (case ht => kernel_rfl)
  refine' f_load ?ht hi ?_; (case ht => kernel_rfl)
  refine' e_load ?ht hC ?_; (case ht => with_unfolding_all rfl)
  refine wpAny_bind ?_
  refine e_step (a := true) (Eq.trans (b := Sem.pure (List.contains [Value.ref C, Value.type "object"] (Value.ref C))) (by with_unfolding_all rfl) (congrArg Sem.pure (by simp))) ?_
  refine e_pure (by with_unfolding_all rfl) ?_
  refine' f_load ?ht hmd ?_; (case ht => kernel_rfl)
  refine' e_load ?ht hmd ?_; (case ht => with_unfolding_all rfl)
  refine e_pure (a := .again (.builtin "proto.slot" ⟨[.ref i, .ref (ad 4)], []⟩)) (by with_unfolding_all rfl) ?_
  refine ⟨by kernel_rfl, codeAny_builtin (b := PySem.Builtin.«proto.slot») (entryFor_of_tree (by kernel_rfl)) ?_⟩
  refine' f_load ?ht hmd ?_; (case ht => kernel_rfl)
  refine' f_load ?ht hmd ?_; (case ht => kernel_rfl)
  refine' f_load ?ht hi ?_; (case ht => kernel_rfl)
  refine' e_load ?ht hC ?_; (case ht => with_unfolding_all rfl)
  refine' e_load ?ht hi ?_; (case ht => with_unfolding_all rfl)
  refine e_pure (by with_unfolding_all rfl) ?_
  refine e_pure (by with_unfolding_all rfl) ?_
  refine e_pure (by with_unfolding_all rfl) ?_
  refine e_pure (by with_unfolding_all rfl) ?_
  exact hret _
end Mine
end

section
-- PL
open PySem PySem.W PyProof.Rows PySem.Spec PySem.Calls
set_option maxRecDepth 100000
namespace Mine
def Kept (h h' : Heap) : Prop := ∀ b o, h.get? b = some o → h'.get? b = some o
theorem Kept.refl (h : Heap) : Kept h h := fun _ _ e => e
theorem Kept.trans {a b c : Heap} (x : Kept a b) (y : Kept b c) : Kept a c := fun p o e => y p o (x p o e)
theorem Kept.push (h : Heap) (o : Obj) : Kept h (h.push o) := fun _ _ e => Heap.get?_push_of_some _ e
/-- lists, tuples, functions, instances, classes: what no statement of ours changes -/
def plainD : Data → Bool
  | .seq .. => true
  | .func .. => true
  | .plain => true
  | .cls .. => true
  | _ => false
def Stay (h h' : Heap) : Prop := ∀ b o, h.get? b = some o → plainD o.data = true → h'.get? b = some o
theorem Stay.trans {a b c : Heap} (x : Stay a b) (y : Stay b c) : Stay a c := fun p o e q => y p o (x p o e q) q
theorem Kept.stay {a b : Heap} (x : Kept a b) : Stay a b := fun p o e _ => x p o e
structure Cx where
  prog : Program
  w : World
  A : Around
  g : Array GenState
  d : Drawn
  os : OsState
  X : List Addr := []
abbrev Cx.sh (c : Cx) (h : Heap) (tk : Nat) : Shared := ⟨h, c.g, c.d, tk, c.os⟩
abbrev Cx.M (c : Cx) : Model := model c.prog c.w
/-- room for n calls within each other -/
structure Room (A : Around) (n : Nat) : Prop where
  handled : A.handled = none
  depth : A.depth + n < recursionLimit
  units : A.units + 8 * n < cLine
theorem Room.le {A : Around} {n m : Nat} (r : Room A n) (h : m ≤ n) : Room A m := ⟨r.handled, by have := r.depth; omega, by have := r.units; omega⟩
/-- the heap that is spoken of: some addresses (lists in the making) are hidden -/
def lg (c : Cx) (h : Heap) : Heap := hideAll h c.X
section
variable {c : Cx} {h h1 h2 : Heap}
theorem lg_sub : Kept (lg c h) h := fun _ _ e => of_hideAll _ e
theorem lg_get {b : Addr} {o : Obj} (e : h.get? b = some o) (q : b ∉ c.X) : (lg c h).get? b = some o := hideAll_get _ e q
theorem lg_not {b : Addr} {o : Obj} (e : (lg c h).get? b = some o) : b ∉ c.X := fun q => by
  have z : (hideAll h c.X).get? b = none := hideAll_none _ q
  rw [show (hideAll h c.X).get? b = some o from e] at z; cases z
theorem Kept.lg (k : Kept h1 h2) : Kept (lg c h1) (lg c h2) := fun b o e => lg_get (k b o (lg_sub b o e)) (lg_not e)
/-- h1 is a later heap of the one spoken of -/
structure Lt (c : Cx) (h h1 : Heap) : Prop where
  keep : Kept h (Mine.lg c h1)
  old : ∀ x ∈ c.X, ∃ o, h1.get? x = some o
theorem Lt.top (l : Lt c h h1) : Kept h h1 := l.keep.trans lg_sub
theorem Lt.trans (l : Lt c h h1) (k : Kept h1 h2) : Lt c h h2 := ⟨l.keep.trans k.lg, fun x hx => let ⟨o, e⟩ := l.old x hx; ⟨o, k x o e⟩⟩
theorem Lt.lg (l : Lt c h h1) : Lt c (Mine.lg c h1) h1 := ⟨Kept.refl _, l.old⟩
theorem Lt.low (l : Lt c h2 h1) (k : Kept h h2) : Lt c h h1 := ⟨k.trans l.keep, l.old⟩
theorem Lt.new (l : Lt c h h1) {a : Addr} (ha : h1.get? a = none) : a ∉ c.X := fun q => by obtain ⟨o, e⟩ := l.old a q; rw [ha] at e; cases e
end
/-- a tree that ends, at every later heap, in a value of which P holds; all that stood stands -/
structure Pu {α : Type} (c : Cx) (t : Sem α) (h : Heap) (P : α → Heap → Prop) : Prop where
  run : ∀ h1 tk (Q : α → Shared → Prop) (E : Value → Shared → Prop), Lt c h h1 → (∀ v h2 tk2, Kept h1 h2 → P v (lg c h2) → Q v (c.sh h2 tk2)) → wpAny c.M c.A t Q E (c.sh h1 tk)
instance {α : Type} {c : Cx} {t : Sem α} {h : Heap} {P : α → Heap → Prop} : CoeFun (Pu c t h P) fun _ => ∀ h1 tk (Q : α → Shared → Prop) (E : Value → Shared → Prop), Lt c h h1 → (∀ v h2 tk2, Kept h1 h2 → P v (lg c h2) → Q v (c.sh h2 tk2)) → wpAny c.M c.A t Q E (c.sh h1 tk) := ⟨Pu.run⟩
section
variable {α β : Type} {c : Cx} {h h' : Heap} {P : α → Heap → Prop} {R : β → Heap → Prop}
theorem Pu.later {t : Sem α} (x : Pu c t h P) (k : Kept h h') : Pu c t h' P := Pu.mk fun h1 tk Q E k1 hq => x h1 tk Q E (k1.low k) hq
theorem Pu.mono {P' : α → Heap → Prop} {t : Sem α} (x : Pu c t h P) (hp : ∀ v h', Kept h h' → P v h' → P' v h') : Pu c t h P' :=
  Pu.mk fun h1 tk Q E k hq => x h1 tk Q E k fun v h2 tk2 k2 p => hq v h2 tk2 k2 (hp v _ (k.trans k2).keep p)
end
abbrev VP := Value → Heap → Prop
/-- what is told of a value stays told -/
class Mo (P : VP) : Prop where
  mo : ∀ {v h h'}, P v h → Stay h h' → P v h'
def isI (z : Int) : VP := fun v _ => ∃ t, v = .int z t
def isB (b : Bool) : VP := fun v _ => v = .bool b
def isN : VP := fun v _ => v = .none
def isV (x : Value) : VP := fun v _ => v = x
instance {z} : Mo (isI z) := ⟨fun x _ => x⟩
instance {z} : Mo (isB z) := ⟨fun x _ => x⟩
instance : Mo isN := ⟨fun x _ => x⟩
instance {z} : Mo (isV z) := ⟨fun x _ => x⟩
/-- the values vs are told by xs, one by one -/
structure Are {α : Type} (R : α → VP) (xs : List α) (vs : List Value) (h : Heap) : Prop where
  len : vs.length = xs.length
  at' : ∀ (i : Nat) (x : α) (v : Value), xs[i]? = some x → vs[i]? = some v → R x v h
/-- a list or a tuple -/
def isS {α : Type} (T : String) (R : α → VP) (xs : List α) : VP := fun v h => ∃ a vs n, v = .ref a ∧ h.get? a = some { cls := .type T, data := .seq vs.toArray n } ∧ Are R xs vs h
abbrev isL {α : Type} (R : α → VP) (xs : List α) : VP := isS "list" R xs
abbrev isT {α : Type} (R : α → VP) (xs : List α) : VP := isS "tuple" R xs
section
variable {α β : Type} {R : α → VP} {xs : List α} {vs : List Value} {h h' : Heap}
theorem Are.stay [∀ x, Mo (R x)] (a : Are R xs vs h) (s : Stay h h') : Are R xs vs h' := ⟨a.len, fun i x v hx hv => Mo.mo (a.at' i x v hx hv) s⟩
instance {T : String} [∀ x, Mo (R x)] : Mo (isS T R xs) := ⟨fun ⟨a, vs, n, e, ho, r⟩ s => ⟨a, vs, n, e, s _ _ ho rfl, r.stay s⟩⟩
theorem Are.get (a : Are R xs vs h) {i : Nat} {x : α} (hx : xs[i]? = some x) : ∃ v, vs[i]? = some v ∧ R x v h := by
  have hl : i < vs.length := by rw [a.len]; exact (List.getElem?_eq_some_iff.mp hx).1
  exact ⟨vs[i], List.getElem?_eq_getElem hl, a.at' i x _ hx (List.getElem?_eq_getElem hl)⟩
theorem Are.nil : Are R [] [] h := ⟨rfl, fun i x v hx => by simp at hx⟩
theorem Are.cons {x : α} {v : Value} (a : R x v h) (b : Are R xs vs h) : Are R (x :: xs) (v :: vs) h := by
  refine ⟨by simp [b.len], fun i y u hy hu => ?_⟩
  cases i with
  | zero => simp at hy hu; subst hy hu; exact a
  | succ i => simp at hy hu; exact b.at' i y u hy hu
theorem Are.uncons {x : α} (b : Are R (x :: xs) vs h) : ∃ v vs', vs = v :: vs' ∧ R x v h ∧ Are R xs vs' h := by
  cases vs with
  | nil => have := b.len; simp at this
  | cons v vs => exact ⟨v, vs, rfl, b.at' 0 x v rfl rfl, by have := b.len; simpa using this, fun i y u hy hu => b.at' (i + 1) y u (by simpa using hy) (by simpa using hu)⟩
theorem Are.append {ys : List α} {ws : List Value} : ∀ {xs : List α} {vs : List Value}, Are R xs vs h → Are R ys ws h → Are R (xs ++ ys) (vs ++ ws) h
  | [], vs, a, b => by
    have := a.len; cases vs with
    | nil => exact b
    | cons _ _ => simp at this
  | x :: xs, vs, a, b => by
    obtain ⟨v, vs', rfl, p, q⟩ := a.uncons
    exact Are.cons p (Are.append q b)
theorem Are.snoc {x : α} {v : Value} (a : Are R xs vs h) (b : R x v h) : Are R (xs ++ [x]) (vs ++ [v]) h := a.append (Are.cons b Are.nil)
end
abbrev Ev (c : Cx) (env : Env) (e : Expr) (h : Heap) (P : VP) : Prop := Pu c (eval e env) h P
section
variable {c : Cx} {env : Env} {h : Heap} {P P1 P2 : VP}
theorem Ev.cint {i k pos} : Ev c env (.Constant (.int i) k pos) h (isI i) := Pu.mk fun h1 tk _ _ _ hq => wpAny_Constant_int (hq _ h1 (tk + 1) (Kept.refl _) ⟨_, rfl⟩)
theorem Ev.cbool {i k pos} : Ev c env (.Constant (.bool i) k pos) h (isB i) := Pu.mk fun h1 tk _ _ _ hq => wpAny_Constant_bool (hq _ h1 _ (Kept.refl _) rfl)
theorem Ev.bin {l op r pos} [Mo P1] (hl : Ev c env l h P1) (hr : Ev c env r h P2) (hop : ∀ a b h', Kept h h' → P1 a h' → P2 b h' → Pu c (binaryOp op a b) h' P) : Ev c env (.BinOp l op r pos) h P :=
  Pu.mk fun h1 tk Q E k hq => wpAny_BinOp (hl h1 tk _ E k fun a h2 tk2 k2 p => hr h2 tk2 _ E (k.trans k2) fun b h3 tk3 k3 q =>
    hop a b _ ((k.trans k2).trans k3).keep (Mo.mo p k3.lg.stay) q h3 tk3 Q E ((k.trans k2).trans k3).lg fun v h4 tk4 k4 r => hq v h4 tk4 ((k2.trans k3).trans k4) r)
theorem Ev.add {l r pos} {x y : Int} (hl : Ev c env l h (isI x)) (hr : Ev c env r h (isI y)) : Ev c env (.BinOp l .Add r pos) h (isI (x + y)) :=
  Ev.bin hl hr fun a b _ _ ⟨_, ea⟩ ⟨_, eb⟩ => Pu.mk fun h1 tk Q E _ hq => by subst ea eb; exact wpAny_add_int (hq _ h1 _ (Kept.refl _) ⟨_, rfl⟩)
theorem Ev.sub {l r pos} {x y : Int} (hl : Ev c env l h (isI x)) (hr : Ev c env r h (isI y)) : Ev c env (.BinOp l .Sub r pos) h (isI (x - y)) :=
  Ev.bin hl hr fun a b _ _ ⟨_, ea⟩ ⟨_, eb⟩ => Pu.mk fun h1 tk Q E _ hq => by subst ea eb; exact PyProof.Rows.sub_int (hq _ h1 _ (Kept.refl _) ⟨_, rfl⟩)
end
end Mine
end

section
-- PL2
open PySem PySem.W PyProof.Rows PySem.Spec PySem.Calls
set_option maxRecDepth 100000
namespace Mine
theorem isS.list {α : Type} {R : α → VP} {xs : List α} {v : Value} {h : Heap} (x : isL R xs v h) : ∃ a vs, v = .ref a ∧ h.IsList a vs.toArray ∧ Are R xs vs h :=
  let ⟨a, vs, n, e, ho, r⟩ := x; ⟨a, vs, e, ⟨_, ho, rfl, n, rfl⟩, r⟩
theorem isS.tup {α : Type} {R : α → VP} {xs : List α} {v : Value} {h : Heap} (x : isT R xs v h) : ∃ a vs, v = .ref a ∧ IsTup h a vs.toArray ∧ Are R xs vs h :=
  let ⟨a, vs, n, e, ho, r⟩ := x; ⟨a, vs, e, ⟨_, ho, rfl, n, rfl⟩, r⟩
section
variable {c : Cx} {env : Env} {h : Heap} {P P1 P2 : VP}
theorem Ev.mod {l r pos} {x y : Int} (hl : Ev c env l h (isI x)) (hr : Ev c env r h (isI y)) (hy : y ≠ 0) : Ev c env (.BinOp l .Mod r pos) h (isI (x.fmod y)) :=
  Ev.bin hl hr fun a b _ _ ⟨_, ea⟩ ⟨_, eb⟩ => Pu.mk fun h1 tk Q E _ hq => by subst ea eb; exact PyProof.Rows.mod_int' hy (hq _ h1 _ (Kept.refl _) ⟨_, rfl⟩)
theorem Ev.neg {e pos} {x : Int} (hl : Ev c env e h (isI x)) : Ev c env (.UnaryOp .USub e pos) h (isI (-x)) :=
  Pu.mk fun h1 tk Q E k hq => wpAny_UnaryOp (hl h1 tk _ E k fun a h2 tk2 k2 ⟨_, ea⟩ => by subst ea; exact PyProof.Rows.neg_int (hq _ h2 _ k2 ⟨_, rfl⟩))
/-- a comparison of two -/
theorem Ev.cmp {l op r pos} {z : Bool} [Mo P1] (hl : Ev c env l h P1) (hr : Ev c env r h P2) (hop : ∀ a b h', Kept h h' → P1 a h' → P2 b h' → Pu c (compareOp op a b) h' (isB z))
    (hm : behindInMarks op r = false := by with_unfolding_all rfl) : Ev c env (.Compare l [op] [r] pos) h (isB z) :=
  Pu.mk fun h1 tk Q E k hq => wpAny_Compare1 (hl h1 tk _ E k fun a h2 tk2 k2 p => hr h2 tk2 _ E (k.trans k2) fun b h3 tk3 k3 q =>
    hop a b _ ((k.trans k2).trans k3).keep (Mo.mo p k3.lg.stay) q h3 tk3 Q E ((k.trans k2).trans k3).lg fun v h4 tk4 k4 r => hq v h4 tk4 ((k2.trans k3).trans k4) r) hm
theorem cmp_lt {a b : Value} {x y : Int} (ha : isI x a h) (hb : isI y b h) : Pu c (compareOp .Lt a b) h (isB (decide (x < y))) := by
  obtain ⟨_, rfl⟩ := ha; obtain ⟨_, rfl⟩ := hb; exact Pu.mk fun h1 tk Q E _ hq => PyProof.Rows.lt_int (hq _ h1 _ (Kept.refl _) rfl)
theorem cmp_gt {a b : Value} {x y : Int} (ha : isI x a h) (hb : isI y b h) : Pu c (compareOp .Gt a b) h (isB (decide (y < x))) := by
  obtain ⟨_, rfl⟩ := ha; obtain ⟨_, rfl⟩ := hb; exact Pu.mk fun h1 tk Q E _ hq => PyProof.Rows.gt_int (hq _ h1 _ (Kept.refl _) rfl)
theorem cmp_le {a b : Value} {x y : Int} (ha : isI x a h) (hb : isI y b h) : Pu c (compareOp .LtE a b) h (isB (decide (x ≤ y))) := by
  obtain ⟨_, rfl⟩ := ha; obtain ⟨_, rfl⟩ := hb; exact Pu.mk fun h1 tk Q E _ hq => PyProof.Rows.le_int (hq _ h1 _ (Kept.refl _) rfl)
theorem cmp_ge {a b : Value} {x y : Int} (ha : isI x a h) (hb : isI y b h) : Pu c (compareOp .GtE a b) h (isB (decide (y ≤ x))) := by
  obtain ⟨_, rfl⟩ := ha; obtain ⟨_, rfl⟩ := hb; exact Pu.mk fun h1 tk Q E _ hq => PyProof.Rows.ge_int (hq _ h1 _ (Kept.refl _) rfl)
theorem cmp_eq {a b : Value} {x y : Int} (ha : isI x a h) (hb : isI y b h) : Pu c (compareOp .Eq a b) h (isB (x == y)) := by
  obtain ⟨_, rfl⟩ := ha; obtain ⟨_, rfl⟩ := hb; exact Pu.mk fun h1 tk Q E _ hq => PyProof.Rows.eq_int (hq _ h1 _ (Kept.refl _) rfl)
theorem cmp_ne {a b : Value} {x y : Int} (ha : isI x a h) (hb : isI y b h) : Pu c (compareOp .NotEq a b) h (isB (x != y)) := by
  obtain ⟨_, rfl⟩ := ha; obtain ⟨_, rfl⟩ := hb; exact Pu.mk fun h1 tk Q E _ hq => PyProof.Rows.ne_int (hq _ h1 _ (Kept.refl _) rfl)
section
variable {l r : Expr} {pos : Pos} {x y : Int}
theorem Ev.lt (hl : Ev c env l h (isI x)) (hr : Ev c env r h (isI y)) (hm : behindInMarks .Lt r = false := by with_unfolding_all rfl) : Ev c env (.Compare l [.Lt] [r] pos) h (isB (decide (x < y))) := Ev.cmp hl hr (fun _ _ _ _ p q => cmp_lt p q) hm
theorem Ev.gt (hl : Ev c env l h (isI x)) (hr : Ev c env r h (isI y)) (hm : behindInMarks .Gt r = false := by with_unfolding_all rfl) : Ev c env (.Compare l [.Gt] [r] pos) h (isB (decide (y < x))) := Ev.cmp hl hr (fun _ _ _ _ p q => cmp_gt p q) hm
theorem Ev.le (hl : Ev c env l h (isI x)) (hr : Ev c env r h (isI y)) (hm : behindInMarks .LtE r = false := by with_unfolding_all rfl) : Ev c env (.Compare l [.LtE] [r] pos) h (isB (decide (x ≤ y))) := Ev.cmp hl hr (fun _ _ _ _ p q => cmp_le p q) hm
theorem Ev.ge (hl : Ev c env l h (isI x)) (hr : Ev c env r h (isI y)) (hm : behindInMarks .GtE r = false := by with_unfolding_all rfl) : Ev c env (.Compare l [.GtE] [r] pos) h (isB (decide (y ≤ x))) := Ev.cmp hl hr (fun _ _ _ _ p q => cmp_ge p q) hm
theorem Ev.eq (hl : Ev c env l h (isI x)) (hr : Ev c env r h (isI y)) (hm : behindInMarks .Eq r = false := by with_unfolding_all rfl) : Ev c env (.Compare l [.Eq] [r] pos) h (isB (x == y)) := Ev.cmp hl hr (fun _ _ _ _ p q => cmp_eq p q) hm
end
/-- a test -/
abbrev Tst (c : Cx) (env : Env) (e : Expr) (h : Heap) (z : Bool) : Prop := Pu c (isTrue e env (eval e env)) h fun b _ => b = z
theorem Tst.of {e : Expr} {z : Bool} (x : Ev c env e h (isB z)) (he : ∀ whole, isTrue e env whole = (do let v ← whole; standAt e.pos; holding [v] (truthy v)) := by intro _; rfl) : Tst c env e h z :=
  Pu.mk fun h1 tk Q E k hq => wpAny_isTrue_value (x h1 tk _ E k fun v h2 tk2 k2 e => by cases e; exact wpAny_truthy_bool (hq _ h2 tk2 k2 rfl)) (he _)
theorem Tst.cmp {l op r pos} {z : Bool} [Mo P1] (hl : Ev c env l h P1) (hr : Ev c env r h P2) (hop : ∀ a b h', Kept h h' → P1 a h' → P2 b h' → Pu c (compareOp op a b) h' (isB z))
    (hm : behindInMarks op r = false := by with_unfolding_all rfl) : Tst c env (.Compare l [op] [r] pos) h z :=
  Pu.mk fun h1 tk Q E k hq => wpAny_isTrue_Compare1 (hl h1 tk _ E k fun a h2 tk2 k2 p => hr h2 tk2 _ E (k.trans k2) fun b h3 tk3 k3 q =>
    hop a b _ ((k.trans k2).trans k3).keep (Mo.mo p k3.lg.stay) q h3 tk3 _ E ((k.trans k2).trans k3).lg fun v h4 tk4 k4 e => by cases e; exact wpAny_truthy_bool (hq _ h4 tk4 ((k2.trans k3).trans k4) rfl)) hm
section
variable {l r : Expr} {pos : Pos} {x y : Int}
theorem Tst.lt (hl : Ev c env l h (isI x)) (hr : Ev c env r h (isI y)) (hm : behindInMarks .Lt r = false := by with_unfolding_all rfl) : Tst c env (.Compare l [.Lt] [r] pos) h (decide (x < y)) := Tst.cmp hl hr (fun _ _ _ _ p q => cmp_lt p q) hm
theorem Tst.eq (hl : Ev c env l h (isI x)) (hr : Ev c env r h (isI y)) (hm : behindInMarks .Eq r = false := by with_unfolding_all rfl) : Tst c env (.Compare l [.Eq] [r] pos) h (x == y) := Tst.cmp hl hr (fun _ _ _ _ p q => cmp_eq p q) hm
theorem Tst.ne (hl : Ev c env l h (isI x)) (hr : Ev c env r h (isI y)) (hm : behindInMarks .NotEq r = false := by with_unfolding_all rfl) : Tst c env (.Compare l [.NotEq] [r] pos) h (x != y) := Tst.cmp hl hr (fun _ _ _ _ p q => cmp_ne p q) hm
end
theorem Ev.ifexp {t a b : Expr} {pos : Pos} {z : Bool} (ht : Tst c env t h z) (ha : z = true → Ev c env a h P) (hb : z = false → Ev c env b h P) : Ev c env (.IfExp t a b pos) h P :=
  Pu.mk fun h1 tk Q E k hq => wpAny_IfExp (ht h1 tk _ E k fun v h2 tk2 k2 e => by
    subst e
    cases v with
    | true => exact ha rfl h2 tk2 Q E (k.trans k2) fun v h3 tk3 k3 p => hq v h3 tk3 (k2.trans k3) p
    | false => exact hb rfl h2 tk2 Q E (k.trans k2) fun v h3 tk3 k3 p => hq v h3 tk3 (k2.trans k3) p)
theorem Ev.ifI {t a b : Expr} {pos : Pos} {z : Bool} {x y : Int} (ht : Tst c env t h z) (ha : z = true → Ev c env a h (isI x)) (hb : z = false → Ev c env b h (isI y)) : Ev c env (.IfExp t a b pos) h (isI (if z then x else y)) :=
  Ev.ifexp ht (fun e => by subst e; exact ha rfl) (fun e => by subst e; exact hb rfl)
/-! names -/
theorem Ev.loc {x : Str} {pos : Pos} {m : Str → Option Value} {v : Value} (hn : h.Ns env.locals m) (hv : m x = some v) (hp : ∀ h', Kept h h' → P v h') (hk : env.scope.kind = .function := by rfl) (hl : env.kindOf x = some .local := by rfl)
    (hd : (x == ("__debug__" : Str)) = false := by decide) : Ev c env (.Name x pos) h P :=
  Pu.mk fun h1 tk Q E k hq => wpAny_Name (wpAny_loadName_local hk hl (hn.keeps k.top) hv (hq v h1 tk (Kept.refl _) (hp _ k.keep))) hd
theorem Ev.cell {x : Str} {pos : Pos} {a : Addr} {v : Value} (hc : h.IsCell a (some v)) (hp : ∀ h', Kept h h' → P v h') (ha : env.cells.lookup x = some a) (hk : env.scope.kind = .function := by rfl) (hl : env.kindOf x = some .cell := by rfl)
    (hd : (x == ("__debug__" : Str)) = false := by decide) : Ev c env (.Name x pos) h P :=
  Pu.mk fun h1 tk Q E k hq => wpAny_Name (wpAny_loadName_cell hk hl ha (hc.keeps k.top) (hq v h1 tk (Kept.refl _) (hp _ k.keep))) hd
theorem Ev.free {x : Str} {pos : Pos} {a : Addr} {v : Value} (hc : h.IsCell a (some v)) (hp : ∀ h', Kept h h' → P v h') (ha : env.cells.lookup x = some a) (hk : env.scope.kind = .function := by rfl) (hl : env.kindOf x = some .free := by rfl)
    (hd : (x == ("__debug__" : Str)) = false := by decide) (hn : (x == ("__classdict__" : Str)) = false := by decide) : Ev c env (.Name x pos) h P :=
  Pu.mk fun h1 tk Q E k hq => wpAny_Name (wpAny_loadName_free hk hl ha (hc.keeps k.top) (hq v h1 tk (Kept.refl _) (hp _ k.keep)) hn) hd
theorem Ev.glob {x : Str} {pos : Pos} {mg : Str → Option Value} {v : Value} (hg : h.Ns env.globals mg) (hv : mg x = some v) (hk : env.scope.kind = .function := by rfl) (hl : env.kindOf x = some .globalImplicit := by rfl)
    (hd : (x == ("__debug__" : Str)) = false := by decide) : Ev c env (.Name x pos) h (isV v) :=
  Pu.mk fun h1 tk Q E k hq => Name_function_global hk hl (loadGlobal_global (hg.keeps k.top) hv (hq v h1 tk (Kept.refl _) rfl)) hd
theorem Ev.built {x : Str} {pos : Pos} {mg mb : Str → Option Value} {v : Value} (hg : h.Ns env.globals mg) (hm : mg x = none) (hb : h.Ns env.builtins mb) (hv : mb x = some v) (hk : env.scope.kind = .function := by rfl) (hl : env.kindOf x = some .globalImplicit := by rfl)
    (hd : (x == ("__debug__" : Str)) = false := by decide) : Ev c env (.Name x pos) h (isV v) :=
  Pu.mk fun h1 tk Q E k hq => Name_function_global hk hl (loadGlobal_builtin (hg.keeps k.top) hm (hb.keeps k.top) hv (hq v h1 tk (Kept.refl _) rfl)) hd
/-! items -/
theorem Ev.item {α : Type} {R : α → VP} [∀ x, Mo (R x)] {xs : List α} {value slice : Expr} {pos : Pos} {k : Int} {x : α} (hv : Ev c env value h (isL R xs)) (hi : Ev c env slice h (isI k)) (h0 : 0 ≤ k) (hhi : k < 2 ^ 63) (hx : xs[k.toNat]? = some x)
    (hs : ∀ t u, subscripted slice false (.ref t) (.int k u) = operate [.ref t, .int k u] (getItem (.ref t) (.int k u)) := by intro _ _; with_unfolding_all rfl) : Ev c env (.Subscript value slice pos) h (R x) :=
  Pu.mk fun h1 tk Q E k1 hq => Subscript_ (hv h1 tk _ E k1 fun o h2 tk2 k2 p => hi h2 tk2 _ E (k1.trans k2) fun i h3 tk3 k3 q => by
    obtain ⟨u, rfl⟩ := q
    obtain ⟨a, vs, rfl, hl, r⟩ := (Mo.mo p k3.lg.stay : isL R xs o (lg c h3)).list
    obtain ⟨v, hvx, hr⟩ := r.get hx
    have hl : h3.IsList a vs.toArray := let ⟨o, ho, q⟩ := hl; ⟨o, lg_sub _ _ ho, q⟩
    exact tail_any (s := c.sh h3 tk3) hl.typeIs slot_list_getitem.lookup (wpAny_getItem_list hl h0 hhi (by simpa using hvx) (hq v h3 tk3 (k2.trans k3) hr)) (hs _ _))
end
end Mine
end

section
-- PL3
open PySem PySem.W PyProof.Rows PySem.Spec PySem.Calls
set_option maxRecDepth 100000
namespace Mine
/-- the values of the names -/
abbrev Vs := Str → Option Value
abbrev upd (m : Vs) (x : Str) (v : Value) : Vs := fun y => if y = x then some v else m y
/-- a name of the frame's own -/
def isOwn (env : Env) (x : Str) : Bool := match env.kindOf x with
  | some .local => true
  | some .cell => (env.cells.lookup x).isSome
  | _ => false
theorem own_of {env : Env} {x : Str} (h : isOwn env x = true) : env.kindOf x = some .local ∨ (env.kindOf x = some .cell ∧ (env.cells.lookup x).isSome = true) := by
  unfold isOwn at h
  split at h
  · next e => exact .inl e
  · next e => exact .inr ⟨e, h⟩
  · cases h
/-- what a frame's statements write -/
def Wr (env : Env) (b : Addr) : Prop := b = env.locals ∨ ∃ n, env.cells.lookup n = some b
def KB (W : Addr → Prop) (h h' : Heap) : Prop := ∀ b o, h.get? b = some o → ¬ W b → h'.get? b = some o
theorem KB.trans {W} {a b c : Heap} (x : KB W a b) (y : KB W b c) : KB W a c := fun p o e q => y p o (x p o e q) q
theorem Kept.kb {W} {a b : Heap} (x : Kept a b) : KB W a b := fun p o e _ => x p o e
theorem KB.mono {W W' : Addr → Prop} {a b : Heap} (x : KB W a b) (hw : ∀ p, W p → W' p) : KB W' a b := fun p o e q => x p o e fun z => q (hw p z)
/-- a frame: what is below is kept, the names have the values V -/
structure Fm (h0 : Heap) (env : Env) (h : Heap) (V : Vs) : Prop where
  kind : env.scope.kind = .function
  loc : ∃ m, h.Ns env.locals m ∧ ∀ x, env.kindOf x = some .local → m x = V x
  kept : Kept h0 h
  newL : h0.get? env.locals = none
  cell : ∀ n a, env.cells.lookup n = some a → h.IsCell a (V n)
  apart : env.cells.Pairwise fun x y => x.2 ≠ y.2
  newC : ∀ n a, env.cells.lookup n = some a → h0.get? a = none
  ne : ∀ n a, env.cells.lookup n = some a → a ≠ env.locals
  kinds : ∀ n a, env.cells.lookup n = some a → env.kindOf n = some .cell
  mem : ∀ n a, (n, a) ∈ env.cells → env.cells.lookup n = some a
section
variable {h0 h h' : Heap} {env : Env} {V : Vs}
theorem Fm.at (F : Fm h0 env h V) (k : Kept h h') : Fm h0 env h' V :=
  ⟨F.kind, let ⟨m, f, e⟩ := F.loc; ⟨m, f.keeps k, e⟩, F.kept.trans k, F.newL, fun n a e => (F.cell n a e).keeps k, F.apart, F.newC, F.ne, F.kinds, F.mem⟩
/-- what is written is no plain object -/
theorem Fm.notWr (F : Fm h0 env h V) {a : Addr} {o : Obj} (e : h.get? a = some o) (hd : (∀ es n, o.data ≠ .dict es n) ∧ ∀ v, o.data ≠ .cell v) : ¬ Wr env a := by
  rintro (rfl | ⟨n, hn⟩)
  · obtain ⟨m, f, _⟩ := F.loc
    obtain ⟨o', es, ep, e', hd', _⟩ := f
    rw [e] at e'; cases e'; exact hd.1 _ _ hd'
  · obtain ⟨o', e', hd'⟩ := F.cell n a hn
    rw [e] at e'; cases e'; exact hd.2 _ hd'
theorem Fm.stay (F : Fm h0 env h V) (k : KB (Wr env) h h') : Stay h h' := fun b o e p => k b o e (F.notWr e ⟨fun _ _ q => (by rw [q] at p; cases p), fun _ q => (by rw [q] at p; cases p)⟩)
/-- the written addresses are none of the heap below -/
theorem Fm.newWr (F : Fm h0 env h V) {a : Addr} (w : Wr env a) : h0.get? a = none := by
  rcases w with rfl | ⟨n, hn⟩
  · exact F.newL
  · exact F.newC n a hn
theorem Fm.wrObj (F : Fm h0 env h V) {a : Addr} (w : Wr env a) : ∃ o, h.get? a = some o ∧ plainD o.data = false := by
  rcases w with rfl | ⟨n, hn⟩
  · obtain ⟨m, ⟨o, es, ep, e, hd, _⟩, _⟩ := F.loc
    exact ⟨o, e, by rw [hd]; rfl⟩
  · obtain ⟨o, e, hd⟩ := F.cell n a hn
    exact ⟨o, e, by rw [hd]; rfl⟩
theorem Ev.var {c : Cx} {P : VP} [Mo P] {x : Str} {pos : Pos} {v : Value} (F : Fm h0 env h V) (hX : ∀ x, Wr env x → x ∉ c.X) (hv : V x = some v) (hp : P v (lg c h)) (hk : env.kindOf x = some .local ∨ (env.kindOf x = some .cell ∧ (env.cells.lookup x).isSome = true) := by exact own_of (by rfl))
    (hd : (x == ("__debug__" : Str)) = false := by decide) : Ev c env (.Name x pos) (lg c h) P := by
  rcases hk with hl | ⟨hl, hc⟩
  · obtain ⟨m, f, e⟩ := F.loc
    refine Ev.loc (f.at' fun o eo => lg_get eo (hX _ (.inl rfl))) ((e x hl).trans hv) (fun h' k => Mo.mo hp k.stay) F.kind hl hd
  · obtain ⟨a, ha⟩ := Option.isSome_iff_exists.mp hc
    obtain ⟨o, eo, hd'⟩ := hv ▸ F.cell x a ha
    exact Ev.cell ⟨o, lg_get eo (hX _ (.inr ⟨x, ha⟩)), hd'⟩ (fun h' k => Mo.mo hp k.stay) ha F.kind hl hd
/-- storing -/
theorem Fm.store {M : Model} {A : Around} {Q : Unit → Shared → Prop} {E : Value → Shared → Prop} {s : Shared} {x : Str} {v : Value} (F : Fm h0 env s.heap V)
    (hk : env.kindOf x = some .local ∨ (env.kindOf x = some .cell ∧ (env.cells.lookup x).isSome = true))
    (h : ∀ h' tk', Fm h0 env h' (upd V x v) → KB (Wr env) s.heap h' → Q () { s with heap := h', toks := tk' }) : wpAny M A (storeName env x v) Q E s := by
  obtain ⟨m, f, e⟩ := F.loc
  have old : ∀ {a h'}, Heap.SameBut a s.heap h' → h0.get? a = none → Kept h0 h' := fun hs ha b o eb => hs.extBut b o (fun q => by rw [q, ha] at eb; cases eb) (F.kept b o eb)
  rcases hk with hl | ⟨hl, hc⟩
  · refine wpAny_storeName_local hl f (fun h' hn hs => h h' _ ⟨F.kind, ⟨_, hn, fun y hy => ?_⟩, old hs F.newL, F.newL, fun n a ea => ?_, F.apart, F.newC, F.ne, F.kinds, F.mem⟩ fun b o eb wb => ?_) (by rw [F.kind]; rfl)
    · show (if y = x then some v else m y) = (if y = x then some v else V y)
      split
      · rfl
      · exact e y hy
    · have hnx : n ≠ x := fun q => by rw [q] at ea; have := F.kinds x a ea; rw [hl] at this; cases this
      show h'.IsCell a (if n = x then some v else V n)
      rw [if_neg hnx]
      exact (F.cell n a ea).sameBut hs (F.ne n a ea)
    · exact hs.extBut b o (fun q => wb (.inl q)) eb
  · obtain ⟨a, ha⟩ := Option.isSome_iff_exists.mp hc
    have ha0 : h0.get? a = none := F.newWr (.inr ⟨x, ha⟩)
    refine wpAny_storeName_cell F.kind hl ha (F.cell x a ha) fun h' hc' hs => h h' s.toks ⟨F.kind, ⟨m, f.sameBut hs (Ne.symm (F.ne x a ha)), fun y hy => ?_⟩, old hs ha0, F.newL, fun n b eb => ?_, F.apart, F.newC, F.ne, F.kinds, F.mem⟩ fun b o eb wb => ?_
    · show m y = if y = x then some v else V y
      rw [if_neg (fun q => by rw [q, hl] at hy; cases hy)]; exact e y hy
    · by_cases hnx : n = x
      · subst hnx
        rw [ha] at eb; cases eb
        show h'.IsCell a (if n = n then some v else V n)
        rw [if_pos rfl]; exact hc'
      · show h'.IsCell b (if n = x then some v else V n)
        rw [if_neg hnx]
        exact (F.cell n b eb).sameBut hs fun q => hnx (name_of_addr F.apart (mem_of_lookup eb) (q ▸ mem_of_lookup ha))
    · exact hs.extBut b o (fun q => wb (.inr ⟨x, q ▸ ha⟩)) eb
end
/-- statements: they go on (N), or return a value of which P holds -/
structure Ex (c : Cx) (env : Env) (h0 : Heap) (ss : List Stmt) (h : Heap) (N : Heap → Prop) (P : VP) : Prop where
  run : ∀ tk (Q : Flow → Shared → Prop) (E : Value → Shared → Prop), (∀ h' tk', N h' → Q .next (c.sh h' tk')) → (∀ v h' tk', Kept h0 h' → P v (lg c h') → Q (.ret v) (c.sh h' tk')) → wpAny c.M c.A (execs ss env) Q E (c.sh h tk)
/-- the frame; what is hidden is none of its own names -/
structure Fx (c : Cx) (h0 : Heap) (env : Env) (h : Heap) (V : Vs) : Prop extends Fm h0 env h V where
  hid : ∀ x ∈ c.X, ¬ Wr env x ∧ ∃ o, h.get? x = some o
section
variable {c : Cx} {env : Env} {h0 h h' : Heap} {V : Vs} {N : Heap → Prop} {P P1 : VP} {rest : List Stmt}
theorem Fx.lt (F : Fx c h0 env h V) : Lt c (lg c h) h := ⟨Kept.refl _, fun x hx => (F.hid x hx).2⟩
theorem Fx.noX (F : Fx c h0 env h V) {x : Addr} (w : Wr env x) : x ∉ c.X := fun q => (F.hid x q).1 w
theorem Fx.next {V2 : Vs} (F : Fx c h0 env h V) (F2 : Fm h0 env h' V2) (kb : KB (Wr env) h h') : Fx c h0 env h' V2 := ⟨F2, fun x hx => let ⟨w, o, e⟩ := F.hid x hx; ⟨w, o, kb x o e w⟩⟩
theorem Fx.at (F : Fx c h0 env h V) (k : Kept h h') : Fx c h0 env h' V := F.next (F.toFm.at k) k.kb
theorem Fx.stay (F : Fx c h0 env h V) (k : KB (Wr env) h h') : Stay (lg c h) (lg c h') := fun b o e p => lg_get (F.toFm.stay k b o (lg_sub _ _ e) p) (lg_not e)
theorem Fx.var [Mo P] {x : Str} {v : Value} (F : Fx c h0 env h V) (hv : V x = some v) (hp : P v (lg c h)) (hk : env.kindOf x = some .local ∨ (env.kindOf x = some .cell ∧ (env.cells.lookup x).isSome = true) := by exact own_of (by rfl))
    (hd : (x == ("__debug__" : Str)) = false := by decide) (pos : Pos) : Ev c env (.Name x pos) (lg c h) P := Ev.var F.toFm (fun _ w => F.noX w) hv hp hk hd
theorem Ex.nil (x : N h) : Ex c env h0 [] h N P := Ex.mk fun tk Q E hn hr => wpAny_execs_nil (hn h tk x)
/-- one statement -/
instance {c : Cx} {env : Env} {h0 h : Heap} {ss : List Stmt} {N : Heap → Prop} {P : VP} : CoeFun (Ex c env h0 ss h N P) fun _ => ∀ tk (Q : Flow → Shared → Prop) (E : Value → Shared → Prop), (∀ h' tk', N h' → Q .next (c.sh h' tk')) → (∀ v h' tk', Kept h0 h' → P v (lg c h') → Q (.ret v) (c.sh h' tk')) → wpAny c.M c.A (execs ss env) Q E (c.sh h tk) := ⟨Ex.run⟩
structure Sx (c : Cx) (env : Env) (h0 : Heap) (st : Stmt) (h : Heap) (N : Heap → Prop) (P : VP) : Prop where
  run : ∀ tk (Q : Flow → Shared → Prop) (E : Value → Shared → Prop), (∀ h' tk', N h' → Q .next (c.sh h' tk')) → (∀ v h' tk', Kept h0 h' → P v (lg c h') → Q (.ret v) (c.sh h' tk')) → wpAny c.M c.A (exec st env) Q E (c.sh h tk)
theorem Ex.cons {st : Stmt} (x : ∀ tk (Q : Flow → Shared → Prop) (E : Value → Shared → Prop), (∀ h' tk', Ex c env h0 rest h' N P → Q .next (c.sh h' tk')) → (∀ v h' tk', Kept h0 h' → P v (lg c h') → Q (.ret v) (c.sh h' tk')) → wpAny c.M c.A (exec st env) Q E (c.sh h tk)) :
    Ex c env h0 (st :: rest) h N P := Ex.mk fun tk Q E hn hr => wpAny_execs_cons (x tk _ E (fun h' tk' y => y tk' Q E hn hr) fun v h' tk' k p => hr v h' tk' k p)
theorem Ex.of {st : Stmt} (x : Sx c env h0 st h (fun h1 => Ex c env h0 rest h1 N P) P) : Ex c env h0 (st :: rest) h N P := Ex.cons x.run
/-- x = e -/
theorem Ex.assign {x : Str} {e : Expr} {p1 p2 : Pos} (F : Fx c h0 env h V) (he : Ev c env e (lg c h) P1) [Mo P1] (hr : ∀ v h', Fx c h0 env h' (upd V x v) → KB (Wr env) h h' → Stay (lg c h) (lg c h') → P1 v (lg c h') → Ex c env h0 rest h' N P)
    (hk : env.kindOf x = some .local ∨ (env.kindOf x = some .cell ∧ (env.cells.lookup x).isSome = true) := by exact own_of (by rfl)) (hs : swapsWith e (some (.Name x p1)) p2.line env = pure false := by rfl) : Ex c env h0 (.Assign [.Name x p1] e p2 :: rest) h N P :=
  Ex.cons fun tk Q E hn _ => wpAny_Assign_Name (he h tk _ E F.lt fun v h1 tk1 k p => (F.toFm.at k).store (s := c.sh h1 tk1) hk fun h2 tk2 F2 kb =>
    have kb' : KB (Wr env) h h2 := k.kb.trans kb
    hn h2 tk2 (hr v h2 (F.next F2 kb') kb' (F.stay kb') (Mo.mo p ((F.at k).stay kb)))) hs
/-- return e -/
theorem Ex.ret {e : Expr} {p : Pos} (F : Fx c h0 env h V) (he : Ev c env e (lg c h) P) : Ex c env h0 (.Return (some e) p :: rest) h N P :=
  Ex.cons fun tk Q E _ hr => wpAny_Return_some (he h tk _ E F.lt fun v h1 tk1 k p => hr v h1 tk1 (F.kept.trans k) p)
/-- if t: .. -/
theorem Ex.ite {t : Expr} {a b : List Stmt} {p : Pos} {z : Bool} (F : Fx c h0 env h V) (ht : Tst c env t (lg c h) z) (ha : z = true → ∀ h', Kept h h' → Ex c env h0 a h' (fun h2 => Ex c env h0 rest h2 N P) P)
    (hb : z = false → ∀ h', Kept h h' → Ex c env h0 b h' (fun h2 => Ex c env h0 rest h2 N P) P) : Ex c env h0 (.If t a b p :: rest) h N P :=
  Ex.cons fun tk Q E hn hr => wpAny_If (ht h tk _ E F.lt fun v h1 tk1 k e => by
    subst e
    cases v with
    | true => exact ha rfl h1 k tk1 Q E hn hr
    | false => exact hb rfl h1 k tk1 Q E hn hr)
end
end Mine
end

section
-- PL4
open PySem PySem.W PyProof.Rows PySem.Spec PySem.Calls
set_option maxRecDepth 100000
namespace Mine
/-! entry of a def -/
def Vof (binds : List (Str × Value)) : Vs := binds.foldl (fun m p => upd m p.1 p.2) fun _ => none
theorem bindL_V {kd : Str → Option NameKind} : ∀ (r : List (Str × Value)) (m m' : Vs), (∀ y, kd y = some .local → m y = m' y) → ∀ y, kd y = some .local → bindL kd r m y = r.foldl (fun m p => upd m p.1 p.2) m' y
  | [], m, m', h, y, hy => h y hy
  | (n, v) :: r, m, m', h, y, hy => by
    show bindL kd r (if kd n = some .local then fun y => if y = n then some v else m y else m) y = r.foldl _ (upd m' n v) y
    refine bindL_V r _ _ (fun z hz => ?_) y hy
    show (if kd n = some .local then fun y => if y = n then some v else m y else m) z = if z = n then some v else m' z
    split
    · show (if z = n then some v else m z) = _
      split
      · rfl
      · exact h z hz
    · next q => rw [if_neg (fun e : z = n => q (e ▸ hz))]; exact h z hz
theorem bindC_V {kd : Str → Option NameKind} : ∀ (r : List (Str × Value)) (m m' : Vs), (∀ y, kd y ≠ some .local → m y = m' y) → ∀ y, kd y ≠ some .local → bindC kd r m y = r.foldl (fun m p => upd m p.1 p.2) m' y
  | [], m, m', h, y, hy => h y hy
  | (n, v) :: r, m, m', h, y, hy => by
    show bindC kd r (if kd n = some .local then m else fun y => if y = n then some v else m y) y = r.foldl _ (upd m' n v) y
    refine bindC_V r _ _ (fun z hz => ?_) y hy
    show (if kd n = some .local then m else fun y => if y = n then some v else m y) z = if z = n then some v else m' z
    split
    · next q => rw [if_neg (fun e : z = n => hz (e ▸ q))]; exact h z hz
    · show (if z = n then some v else m z) = _
      split
      · rfl
      · exact h z hz
section
variable {c : Cx} {h : Heap} {P : VP}
theorem cellsFrom_kinds {names : List (Str × NameKind)} {lo : Nat} (hck : (((cellsFrom 0 names []).map (·.1)).all fun n => names.lookup n == some .cell) = true) : ∀ n a, (cellsFrom lo names []).lookup n = some a → names.lookup n = some .cell := fun n a e => by
  have hm : n ∈ (cellsFrom lo names []).map (·.1) := List.mem_map.mpr ⟨(n, a), mem_of_lookup e, rfl⟩
  rw [cellsFrom_names names lo 0 [] [] rfl] at hm
  exact eq_of_beq (List.all_eq_true.mp hck n hm)
theorem Pu.enter {name qual : Str} {params : Arguments} {body : List Stmt} {scope : Scope} {dV kV doc pm cdv ct : Value} {an : Option Addr} {fo : Obj} {f : Addr} {vs : List Value} {binds : List (Str × Value)}
    (ho : h.get? f = some fo) (hd : fo.data = .func (fnX name qual params body scope [] dV kV doc pm an cdv ct)) (hcd : h.CodeRec cdv qual) (hlim : h.NoLimit) (hroom : Room c.A 1)
    (hbind : ∀ s : Shared, Kept h s.heap → BindsTo s (fnX name qual params body scope [] dV kV doc pm an cdv ct) ⟨vs, []⟩ binds)
    (hkind : (binds.all fun y => scope.names.lookup y.1 == some .local || scope.names.lookup y.1 == some .cell) = true)
    (hck : (((cellsFrom 0 scope.names []).map (·.1)).all fun n => scope.names.lookup n == some .cell) = true) (hnd : ((cellsFrom 0 scope.names []).map (·.1)).Nodup)
    (hb : ∀ h1 h2 L, Kept h (lg c h1) → Fx { c with A := c.A.deeper (envOfC qual scope L f cdv) } h1 (envOfC qual scope L f cdv) h2 (Vof binds) →
      Ex { c with A := c.A.deeper (envOfC qual scope L f cdv) } (envOfC qual scope L f cdv) h1 body h2 (fun _ => False) P)
    (hco : scope.isCoroutine = false := by rfl) (hgen : scope.isGenerator = false := by rfl) (hk : scope.kind = .function := by rfl) : Pu c (call (.ref f) vs) h P := by
  refine Pu.mk fun h1 tk Q E k hq => ?_
  refine wpAny_call ?_
  refine codeAny_call_function (Nat.lt_of_succ_lt (hroom.depth : c.A.depth + 1 < recursionLimit)) (k.top _ _ ho) hd hco hgen rfl (hcd.keeps k.top) (hbind _ k.top _ _ _ _ ?_)
  refine wpAny_newFunctionEnv_cells hk (kindsX hkind _) fun env' he s' x => ?_
  subst he
  have hk1 := x.toInCall.keep
  refine ⟨hlim.keeps (k.top.trans hk1), codeAny_func ?_⟩
  obtain ⟨h2, tk2, rfl, _⟩ := x.done
  have F : Fm h1 (envOfC qual scope (c.sh h1 tk).heap.objs.size f cdv) h2 (Vof binds) := by
    have hb : ∀ n a, (cellsFrom ((c.sh h1 tk).heap.objs.size + 1) scope.names []).lookup n = some a → (c.sh h1 tk).heap.objs.size < a := fun n a e => x.above n a (mem_of_lookup e)
    refine ⟨hk, ⟨_, x.toInCall.ns, fun y hy => ?_⟩, x.toInCall.keep, Heap.get?_none_of_le (Nat.le_refl _), fun n a e => ?_, x.apart, fun n a e => Heap.get?_none_of_le (Nat.le_of_lt (hb n a e)), fun n a e => Nat.ne_of_gt (hb n a e), cellsFrom_kinds hck,
      fun n a e => lookup_of_mem_nodup (cellsFrom_names scope.names 0 ((c.sh h1 tk).heap.objs.size + 1) [] [] rfl ▸ hnd) e⟩
    · exact bindL_V binds _ _ (fun _ _ => rfl) y hy
    · have := x.cell n a e
      have hkn := cellsFrom_kinds hck n a e
      rwa [bindC_V binds _ _ (fun _ _ => rfl) n (by intro q; have q' : scope.names.lookup n = some .local := q; rw [hkn] at q'; cases q')] at this
  refine hb h1 h2 _ k.keep ⟨F, fun x hx => let ⟨o, e⟩ := k.old x hx; ⟨fun w => (by have := F.newWr w; rw [e] at this; cases this), o, F.kept _ _ e⟩⟩ tk2 _ _ (fun _ _ q => q.elim) (fun v h3 tk3 k3 p => ?_)
  exact hq v h3 tk3 k3 p
theorem Room.deeper {A : Around} {n : Nat} (r : Room A (n + 1)) (env : Env) : Room (A.deeper env) n := ⟨r.handled, by have := r.depth; show A.depth + 1 + n < _; omega, by have := r.units; show A.units + 3 + 8 * n < _; omega⟩
theorem Room.in1 {A : Around} {n : Nat} (r : Room A (n + 1)) : Room A.in1 n := ⟨r.handled, by have := r.depth; show A.depth + n < _; omega, by have := r.units; show A.units + 1 + 8 * n < _; omega⟩
end
/-! arguments, displays, calls -/
def AllP : List VP → List Value → Heap → Prop
  | [], [], _ => True
  | P :: Ps, v :: vs, h => P v h ∧ AllP Ps vs h
  | _, _, _ => False
section
variable {c : Cx} {env : Env} {h : Heap} {P P1 P2 : VP} {pos : Pos}
abbrev EA (c : Cx) (env : Env) (pos : Pos) (es : List Expr) (h : Heap) (Ps : List VP) : Prop := Pu c (spliced (backTo pos (starEach es env))) h (AllP Ps)
theorem EA.nil : EA c env pos [] h [] := Pu.mk fun h1 tk Q E k hq => args_nil (hq [] h1 tk (Kept.refl _) trivial)
theorem EA.cons {e : Expr} {es : List Expr} {Ps : List VP} [Mo P] (he : Ev c env e h P) (hr : EA c env pos es h Ps) (hs : starEach (e :: es) env = (false, eval e env) :: starEach es env := by rfl) : EA c env pos (e :: es) h (P :: Ps) :=
  Pu.mk fun h1 tk Q E k hq => args_cons (he h1 tk _ E k fun v h2 tk2 k2 p => hr h2 tk2 _ E (k.trans k2) fun vs h3 tk3 k3 ps => hq (v :: vs) h3 tk3 (k2.trans k3) ⟨Mo.mo p k3.lg.stay, ps⟩) hs
theorem AllP.one {v : List Value} (x : AllP [P] v h) : ∃ a, v = [a] ∧ P a h := by
  match v, x with
  | [a], ⟨p, _⟩ => exact ⟨a, rfl, p⟩
theorem AllP.two {v : List Value} (x : AllP [P, P1] v h) : ∃ a b, v = [a, b] ∧ P a h ∧ P1 b h := by
  match v, x with
  | [a, b], ⟨p, q, _⟩ => exact ⟨a, b, rfl, p, q⟩
theorem AllP.three {v : List Value} (x : AllP [P, P1, P2] v h) : ∃ a b d, v = [a, b, d] ∧ P a h ∧ P1 b h ∧ P2 d h := by
  match v, x with
  | [a, b, d], ⟨p, q, r, _⟩ => exact ⟨a, b, d, rfl, p, q, r⟩
/-- items of a display, all told alike -/
abbrev EL {α : Type} (c : Cx) (env : Env) (pos : Pos) (es : List Expr) (h : Heap) (R : α → VP) (xs : List α) : Prop := Pu c (spliced (backTo pos (starEach es env))) h (Are R xs)
theorem EL.nil {α : Type} {R : α → VP} : EL c env pos [] h R [] := Pu.mk fun h1 tk Q E k hq => args_nil (hq [] h1 tk (Kept.refl _) Are.nil)
theorem EL.cons {α : Type} {R : α → VP} [∀ x, Mo (R x)] {e : Expr} {es : List Expr} {x : α} {xs : List α} (he : Ev c env e h (R x)) (hr : EL c env pos es h R xs) (hs : starEach (e :: es) env = (false, eval e env) :: starEach es env := by rfl) : EL c env pos (e :: es) h R (x :: xs) :=
  Pu.mk fun h1 tk Q E k hq => args_cons (he h1 tk _ E k fun v h2 tk2 k2 p => hr h2 tk2 _ E (k.trans k2) fun vs h3 tk3 k3 ps => hq (v :: vs) h3 tk3 (k2.trans k3) (Are.cons (Mo.mo p k3.lg.stay) ps)) hs
theorem Ev.list {α : Type} {R : α → VP} [∀ x, Mo (R x)] {es : List Expr} {xs : List α} (he : EL c env pos es h R xs) (hsz : xs.length ≤ sizeLine := by exact Nat.le_of_ble_eq_true rfl) : Ev c env (.List es pos) h (isL R xs) :=
  Pu.mk fun h1 tk Q E k hq => List_ (he h1 tk _ E k fun vs h2 tk2 k2 a => wpAny_newList (s := c.sh h2 tk2) (hq _ _ tk2 (k2.trans (Kept.push _ _)) ⟨_, vs, 0, rfl, lg_get (Heap.get?_push_size _ rfl) ((k.trans k2).new (Heap.get?_none_of_le (Nat.le_refl _))), a.stay (Kept.push _ _).lg.stay⟩) (by rw [a.len]; exact hsz))
theorem Ev.tuple {α : Type} {R : α → VP} [∀ x, Mo (R x)] {es : List Expr} {xs : List α} {k : Nat} (he : EL c env pos es h R xs) (hsz : xs.length ≤ sizeLine := by exact Nat.le_of_ble_eq_true rfl) : Ev c env (.Tuple es k pos) h (isT R xs) :=
  Pu.mk fun h1 tk Q E k hq => Tuple_ (he h1 tk _ E k fun vs h2 tk2 k2 a => wpAny_newTuple (s := c.sh h2 tk2) (hq _ _ tk2 (k2.trans (Kept.push _ _)) ⟨_, vs, 0, rfl, lg_get (Heap.get?_push_size _ rfl) ((k.trans k2).new (Heap.get?_none_of_le (Nat.le_refl _))), a.stay (Kept.push _ _).lg.stay⟩) (by rw [a.len]; exact hsz))
/-- a built-in function called -/
theorem Ev.callB {id : String} {fe e : Expr} {es : List Expr} {Ps : List VP} (hf : Ev c env fe h (isV (.builtin id))) (ha : EA c env pos (e :: es) h Ps) (hc : ∀ vs h', Kept h h' → AllP Ps vs h' → Pu c (call (.builtin id) vs) h' P)
    (hs : starEach (e :: es) env = (false, eval e env) :: starEach es env := by rfl) (hplain : (backTo pos (starEach es env)).any (·.1) = false := by rfl)
    (he : eval (.Call fe (e :: es) [] pos) env = (do callWith pos (← eval fe env) [] (backTo pos (starEach (e :: es) env)) (backToKw pos (keywordEach [] env))) := by rfl) : Ev c env (.Call fe (e :: es) [] pos) h P :=
  Pu.mk fun h1 tk Q E k hq => Call_ (hf h1 tk _ E k fun f h2 tk2 k2 ef => by
    cases ef
    exact callWith_builtin1 (ha h2 tk2 _ E (k.trans k2) fun vs h3 tk3 k3 ps => hc vs _ ((k.trans k2).trans k3).keep ps h3 tk3 Q E ((k.trans k2).trans k3).lg fun v h4 tk4 k4 p => hq v h4 tk4 ((k2.trans k3).trans k4) p) hs hplain) he
theorem Ev.callT {T : String} {fe e : Expr} {es : List Expr} {Ps : List VP} (hf : Ev c env fe h (isV (.type T))) (ha : EA c env pos (e :: es) h Ps) (hc : ∀ vs h', Kept h h' → AllP Ps vs h' → Pu c (call (.type T) vs) h' P)
    (hs : starEach (e :: es) env = (false, eval e env) :: starEach es env := by rfl) (hplain : (backTo pos (starEach es env)).any (·.1) = false := by rfl)
    (he : eval (.Call fe (e :: es) [] pos) env = (do callWith pos (← eval fe env) [] (backTo pos (starEach (e :: es) env)) (backToKw pos (keywordEach [] env))) := by rfl) : Ev c env (.Call fe (e :: es) [] pos) h P :=
  Pu.mk fun h1 tk Q E k hq => Call_ (hf h1 tk _ E k fun f h2 tk2 k2 ef => by
    cases ef
    exact PyProof.Rows.callWith_type1 (ha h2 tk2 _ E (k.trans k2) fun vs h3 tk3 k3 ps => hc vs _ ((k.trans k2).trans k3).keep ps h3 tk3 Q E ((k.trans k2).trans k3).lg fun v h4 tk4 k4 p => hq v h4 tk4 ((k2.trans k3).trans k4) p) hs hplain) he
/-- a def called -/
theorem Ev.callF {f : Addr} {o : Obj} {fd : FuncData} {fe e : Expr} {es : List Expr} {Ps : List VP} (hf : Ev c env fe h (isV (.ref f))) (ho : h.get? f = some o) (hd : o.data = .func fd) (ha : EA c env pos (e :: es) h Ps) (hc : ∀ vs h', Kept h h' → AllP Ps vs h' → Pu c (call (.ref f) vs) h' P)
    (hs : starEach (e :: es) env = (false, eval e env) :: starEach es env := by rfl)
    (he : eval (.Call fe (e :: es) [] pos) env = (do callWith pos (← eval fe env) [] (backTo pos (starEach (e :: es) env)) (backToKw pos (keywordEach [] env))) := by rfl) : Ev c env (.Call fe (e :: es) [] pos) h P :=
  Pu.mk fun h1 tk Q E k hq => Call_ (hf h1 tk _ E k fun f h2 tk2 k2 ef => by
    cases ef
    exact callWith_def hd (ha h2 tk2 _ E (k.trans k2) fun vs h3 tk3 k3 ps => ⟨((k.trans k2).trans k3).top _ _ ho, hc vs _ ((k.trans k2).trans k3).keep ps h3 tk3 Q E ((k.trans k2).trans k3).lg fun v h4 tk4 k4 p => hq v h4 tk4 ((k2.trans k3).trans k4) p⟩) hs) he
/-! built-ins -/
theorem b_max2 {x y : Int} (hR : c.A.handled = none) {vs : List Value} (a : AllP [isI x, isI y] vs h) : Pu c (call (.builtin "max") vs) h (isI (max x y)) := by
  obtain ⟨u, v, rfl, ⟨t, rfl⟩, ⟨t', rfl⟩⟩ := a.two
  refine Pu.mk fun h1 tk Q E k hq => ?_
  refine max_two_ints (s := c.sh h1 tk) hR fun h2 tk2 k2 => hq _ h2 tk2 k2 ?_
  split
  · next q => exact ⟨_, by rw [show max x y = y by omega]⟩
  · next q => exact ⟨_, by rw [show max x y = x by omega]⟩
theorem Ev.max2 {fe a b : Expr} {x y : Int} (hR : c.A.handled = none) (hf : Ev c env fe h (isV (.builtin "max"))) (ha : Ev c env a h (isI x)) (hb : Ev c env b h (isI y))
    (hs : starEach [a, b] env = (false, eval a env) :: starEach [b] env := by rfl) (hs2 : starEach [b] env = (false, eval b env) :: starEach [] env := by rfl) (hplain : (backTo pos (starEach [b] env)).any (·.1) = false := by rfl)
    (he : eval (.Call fe [a, b] [] pos) env = (do callWith pos (← eval fe env) [] (backTo pos (starEach [a, b] env)) (backToKw pos (keywordEach [] env))) := by rfl) : Ev c env (.Call fe [a, b] [] pos) h (isI (max x y)) :=
  Ev.callB hf (EA.cons ha (EA.cons hb EA.nil hs2) hs) (fun vs h' _ p => b_max2 hR p) hs hplain he
theorem b_len {α : Type} {R : α → VP} {xs : List α} {vs : List Value} (hx : xs.length ≤ sizeLine) (a : AllP [isL R xs] vs h) : Pu c (call (.builtin "len") vs) h (isI (xs.length : Int)) := by
  obtain ⟨u, rfl, p⟩ := a.one
  obtain ⟨l, ws, rfl, hl, r⟩ := p.list
  refine Pu.mk fun h1 tk Q E k hq => ?_
  have e : ws.toArray.size = xs.length := by rw [List.size_toArray]; exact r.len
  have hl' : h1.IsList l ws.toArray := let ⟨o, ho, q⟩ := hl; ⟨o, k.top _ _ ho, q⟩
  refine call_len_list (s := c.sh h1 tk) hl' ?_ (hq _ h1 (tk + 1 + 1) (Kept.refl _) ⟨tk + 1, by rw [e]⟩)
  rw [e]; unfold sizeLine at hx; omega
end
end Mine
end

section
-- PL5
open PySem PySem.W PyProof.Rows PySem.Spec PySem.Calls
set_option maxRecDepth 100000
namespace Mine
def iterT : Value → Bool
  | .type T => T == "list_iterator" || T == "tuple_iterator" || T == "range_iterator"
  | _ => false
/-- kept by whatever a walk of an iterator and a store do -/
def strongO (o : Obj) : Bool := match o.data with
  | .dict .. => false
  | .cell .. => false
  | .fields _ => !iterT o.cls
  | _ => true
theorem plain_strong {o : Obj} (h : plainD o.data = true) : strongO o = true := by
  unfold strongO; unfold plainD at h
  split <;> simp_all
def Strg (h h' : Heap) : Prop := ∀ b o, h.get? b = some o → strongO o = true → h'.get? b = some o
theorem Strg.stay {a b : Heap} (x : Strg a b) : Stay a b := fun p o e q => x p o e (plain_strong q)
theorem Stay.lg {c : Cx} {a b : Heap} (x : Stay a b) : Stay (lg c a) (lg c b) := fun p o e q => lg_get (x p o (lg_sub _ _ e) q) (lg_not e)
theorem Strg.trans {a b c : Heap} (x : Strg a b) (y : Strg b c) : Strg a c := fun p o e q => y p o (x p o e q) q
theorem Kept.str {a b : Heap} (x : Kept a b) : Strg a b := fun p o e _ => x p o e
theorem Strg.lg {c : Cx} {a b : Heap} (x : Strg a b) : Strg (lg c a) (lg c b) := fun p o e q => lg_get (x p o (lg_sub _ _ e) q) (lg_not e)
theorem Fm.str {h0 h h' : Heap} {env : Env} {V : Vs} (F : Fm h0 env h V) (k : KB (Wr env) h h') : Strg h h' := fun b o e p => k b o e (F.notWr e ⟨fun _ _ q => (by
    unfold strongO at p; rw [q] at p; simp at p), fun _ q => (by unfold strongO at p; rw [q] at p; simp at p)⟩)
def IterO (o : Obj) : Prop := (∃ vs, o.data = .fields vs) ∧ iterT o.cls = true
theorem IterO.weak {o : Obj} (x : IterO o) : strongO o = false := by
  obtain ⟨⟨vs, hd⟩, ht⟩ := x
  unfold strongO; rw [hd]; simp [ht]
theorem iter_fields {o : Obj} {T : String} {vs : Array Value} (hc : o.cls = .type T) (hd : o.data = .fields vs) (hT : iterT (.type T) = true := by decide) : IterO o := ⟨⟨vs, hd⟩, by rw [hc]; exact hT⟩
/-- an iterator over xs, at I -/
structure Wk (c : Cx) (A : Around) {α : Type} (R : α → VP) (xs : List α) (h : Heap) (I : Addr) (h' : Heap) (fp : List Addr) (P : Nat → Value → Prop) (St : Nat → Heap → Prop) : Prop where
  W : Walks c.prog c.w A I fp [I] xs.length P St
  st : St 0 h'
  it : ∀ i u x, P i u → xs[i]? = some x → R x u (lg c h)
  fpo : ∀ b ∈ fp, b ≠ I → ∃ o, (lg c h).get? b = some o ∧ plainD o.data = true
  obj : ∀ i g, St i g → ∃ o, g.get? I = some o ∧ IterO o
  new : h.get? I = none
  kept : Kept h h'
def Itb (c : Cx) {α : Type} (R : α → VP) (xs : List α) : VP := fun v h => ∀ (s : Shared) (A : Around) (Q : Value → Shared → Prop) (E : Value → Shared → Prop), A.handled = none → Lt c h s.heap →
  (∀ I h' fp P St, Wk c A R xs s.heap I h' fp P St → Q (.ref I) { s with heap := h' }) → wpAny c.M A (pyIter v) Q E s
theorem push_new {h : Heap} {a : Addr} (ha : h.objs.size ≤ a) : h.get? a = none := Heap.get?_none_of_le ha
section
variable {c : Cx} {α : Type} {R : α → VP} {xs : List α} {v : Value} {h : Heap}
theorem isS.itL [∀ x, Mo (R x)] (x : isL R xs v h) : Itb c R xs v h := fun s A Q E hh k hq => by
  obtain ⟨a, vs, rfl, hll, r⟩ := isS.list (Mo.mo x k.keep.stay : isL R xs v (lg c s.heap))
  obtain ⟨o, hol, hcl, n, hd⟩ := id hll
  have hl : s.heap.IsList a vs.toArray := ⟨o, lg_sub _ _ hol, hcl, n, hd⟩
  have ho := lg_sub _ _ hol
  have hlt : a < s.heap.objs.size := Heap.lt_size ho
  have W := Walks.list (prog := c.prog) (w := c.w) hh s.heap.objs.size a (Nat.ne_of_lt hlt) vs.toArray
  rw [show vs.toArray.size = xs.length by rw [List.size_toArray]; exact r.len] at W
  refine wpAny_pyIter_list hl (hq _ _ _ _ _ ⟨W, ⟨⟨_, Heap.get?_push_size _ rfl, rfl, rfl⟩, hl.push _⟩, fun i u y hp hy => ?_, fun b hb hne => ?_, fun i g st => ?_, push_new (Nat.le_refl _), Kept.push _ _⟩)
  · exact r.at' i y u hy (by simpa using hp)
  · simp at hb
    rcases hb with rfl | rfl
    · exact absurd rfl hne
    · exact ⟨o, hol, by rw [hd]; rfl⟩
  · obtain ⟨o', e, hc', hd'⟩ := st.1
    exact ⟨o', e, iter_fields hc' hd'⟩
/-- a range of n ints from a by d -/
def rangeL (a d : Int) (n : Nat) : List Int := (List.range n).map fun i : Nat => a + (i : Int) * d
def isR (a b d : Int) (n : Nat) : VP := fun v h => ∃ r t u w, v = .ref r ∧ IsRange h r a b d t u w ∧ Builtin.Range.small a b d = true ∧ Builtin.Range.rangeSize a b d = (n : Int)
theorem isR.it {a b d : Int} {n : Nat} (x : isR a b d n v h) : Itb c isI (rangeL a d n) v h := fun s A Q E hh k hq => by
  obtain ⟨r, t, u, w, rfl, hr, hsm, hn⟩ := x
  have hr' : IsRange s.heap r a b d t u w := k.top _ _ hr
  have W := (Walks.range (prog := c.prog) (w := c.w) hh s.heap.objs.size a d n).bound
  have hlen : (rangeL a d n).length = n := by unfold rangeL; simp
  refine wpAny_pyIter_range hr' hsm (hq _ _ [s.heap.objs.size] _ _ ⟨hlen ▸ W, ?_, fun i u y hp hy => ?_, fun b hb hne => absurd (List.mem_singleton.mp hb) hne, fun i g st => ⟨_, st, iter_fields rfl rfl⟩, push_new (Nat.le_refl _), Kept.push _ _⟩)
  · show IsRangeIter _ _ _ _ _
    rw [hn]; show (s.heap.push _).get? _ = _; rw [Heap.get?_push_size _ rfl]; simp [hlen]
  · obtain ⟨hi, t, rfl⟩ := hp
    unfold rangeL at hy
    rw [List.getElem?_map, List.getElem?_range (by simpa [hlen] using hi)] at hy
    simp at hy
    exact ⟨t, by rw [← hy]⟩
end
/-- what stands when all but one new address is kept -/
theorem Fm.but {h0 h h1 h2 : Heap} {env : Env} {V V' : Vs} {I : Addr} (F : Fm h0 env h V') (F1 : Fm h0 env h1 V) (hI : h.get? I = none) (k : ∀ b o, b ∉ [I] → h1.get? b = some o → h2.get? b = some o) : Fm h0 env h2 V := by
  have k' : ∀ b o, b ≠ I → h1.get? b = some o → h2.get? b = some o := fun b o q e => k b o (by simpa using q) e
  refine ⟨F1.kind, ?_, fun b o eo => k' b o (fun q => ?_) (F1.kept b o eo), F1.newL, fun n a e => ?_, F1.apart, F1.newC, F1.ne, F1.kinds, F1.mem⟩
  · obtain ⟨m, f, e⟩ := F1.loc
    obtain ⟨m', f', _⟩ := F.loc
    have hL : env.locals ≠ I := fun q => by obtain ⟨o, _, _, eo, _⟩ := f'; rw [q, hI] at eo; cases eo
    exact ⟨m, f.at' fun o eo => k' _ o hL eo, e⟩
  · have := F.kept b o eo; rw [q, hI] at this; cases this
  · obtain ⟨o, eo, hd⟩ := F1.cell n a e
    obtain ⟨o', eo', _⟩ := F.cell n a e
    exact ⟨o, k' a o (fun q => by rw [q, hI] at eo'; cases eo') eo, hd⟩
theorem but_kb {W : Addr → Prop} {h h1 h2 : Heap} {I : Addr} (hI : h.get? I = none) (x : KB W h h1) (k : ∀ b o, b ∉ [I] → h1.get? b = some o → h2.get? b = some o) : KB W h h2 :=
  fun b o e w => k b o (fun q => by rw [List.mem_singleton.mp q, hI] at e; cases e) (x b o e w)
theorem but_str {h1 h2 : Heap} {I : Addr} {oI : Obj} (e1 : h1.get? I = some oI) (s : strongO oI = false) (k : ∀ b o, b ∉ [I] → h1.get? b = some o → h2.get? b = some o) : Strg h1 h2 :=
  fun b o e q => k b o (fun z => by rw [List.mem_singleton.mp z, e1] at e; cases e; rw [s] at q; cases q) e
section
variable {c : Cx} {env : Env} {h0 h : Heap} {V : Vs} {N : Heap → Prop} {P : VP} {rest : List Stmt}
/-- for x in it: body -/
theorem Sx.for_ {x : Str} {it : Expr} {body : List Stmt} {px pos : Pos} {α : Type} {R : α → VP} [∀ x, Mo (R x)] {xs : List α} (hh : c.A.handled = none) (F : Fx c h0 env h V) (hit : Ev c env it (lg c h) (Itb c R xs))
    (W : Addr → Prop) (hW : ∀ a, Wr env a → W a) (hWo : ∀ a, W a → ∃ o, h.get? a = some o ∧ (plainD o.data = false ∨ a ∈ c.X))
    (J : Nat → Vs → Heap → Prop) (hJ0 : ∀ h', Kept h h' → J 0 V h') (hJs : ∀ i V1 h1 h2, J i V1 h1 → Strg h1 h2 → J i V1 h2)
    (turn : ∀ i y v V1 h1, xs[i]? = some y → J i V1 h1 → R y v (lg c h1) → Fx c h0 env h1 (upd V1 x v) → KB W h h1 → Stay (lg c h) (lg c h1) → Ex c env h0 body h1 (fun h2 => ∃ V2, Fx c h0 env h2 V2 ∧ J (i + 1) V2 h2 ∧ KB W h1 h2) P)
    (done : ∀ V1 h1, J xs.length V1 h1 → Fx c h0 env h1 V1 → KB W h h1 → Stay (lg c h) (lg c h1) → N h1)
    (hk : env.kindOf x = some .local ∨ (env.kindOf x = some .cell ∧ (env.cells.lookup x).isSome = true) := by exact own_of (by rfl))
    (hs : ∀ y, foldedSetIterable it env y = pure y := by intro _; rfl) (ht : ∀ i v, letOwnedTupleGo (.Name x px) i v = pure () := by intro _ _; rfl) : Sx c env h0 (.For (.Name x px) it body [] pos) h N P :=
  Sx.mk fun tk Q E hn hr => wpAny_For (hit h tk _ E F.lt fun v hv tkv kv itb => itb (c.sh hv tkv) c.A _ E hh (F.lt.trans kv).lg fun I ha fp Pi St k => by
    have hI' : hv.get? I = none := k.new
    have hI : h.get? I = none := by
      cases q : h.get? I with
      | none => rfl
      | some o => have := hI'; rw [kv _ _ q] at this; cases this
    have hWI : ¬ W I := fun q => by obtain ⟨o, eo, _⟩ := hWo I q; rw [hI] at eo; cases eo
    have hWp : ∀ b o, (lg c hv).get? b = some o → plainD o.data = true → ¬ W b := fun b o e q w => by
      obtain ⟨o', eo', hp⟩ := hWo b w
      have := kv _ _ eo'
      rw [lg_sub _ _ e] at this; cases this
      rcases hp with hp | hp
      · rw [hp] at q; cases q
      · exact lg_not e hp
    have hfp : ∀ b ∈ fp, ¬ W b := fun b hb w => by
      by_cases hbI : b = I
      · exact hWI (hbI ▸ w)
      · obtain ⟨o', eo', hp⟩ := k.fpo b hb hbI
        exact hWp b o' eo' hp w
    have hXI : I ∉ c.X := fun q => by obtain ⟨_, o, e⟩ := F.hid I q; rw [hI] at e; cases e
    refine codeAny_forLoop (fun n s => ∃ i V1 h1 tk1, s = c.sh h1 tk1 ∧ i ≤ xs.length ∧ n = xs.length + 1 - i ∧ St i h1 ∧ J i V1 h1 ∧ Fx c h0 env h1 V1 ∧ KB W hv h1) ?_ (xs.length + 1)
      ⟨0, V, ha, tkv, rfl, Nat.zero_le _, rfl, k.st, hJ0 _ (kv.trans k.kept), F.at (kv.trans k.kept), k.kept.kb⟩ (fun v => ht _ v)
    rintro n s ⟨i, V1, h1, tk1, rfl, hi, rfl, hst, hJ, F1, kb1⟩
    obtain ⟨oI, eI, sI⟩ := k.obj i h1 hst
    by_cases hlt : i < xs.length
    · refine k.W.item i (c.sh h1 tk1) _ _ hlt hst fun u h2 tk2 hP hst2 hk2 => ?_
      have F2 : Fx c h0 env h2 V1 := ⟨F.toFm.but F1.toFm hI hk2, fun z hz => let ⟨w, o, e⟩ := F1.hid z hz; ⟨w, o, hk2 z o (fun q => hXI (List.mem_singleton.mp q ▸ hz)) e⟩⟩
      refine wpAny_assign_Name (F2.toFm.store (s := c.sh h2 tk2) hk fun h3 tk3 F3 kb3 => ?_)
      have st12 : Strg h1 h2 := but_str eI sI.weak hk2
      have st23 : Strg h2 h3 := F2.toFm.str kb3
      obtain ⟨y, hy⟩ : ∃ y, xs[i]? = some y := ⟨xs[i], List.getElem?_eq_getElem hlt⟩
      have hR0 : R y u (lg c hv) := k.it i u y hP hy
      have kbv2 : KB W hv h2 := but_kb hI' kb1 hk2
      have kbv3 : KB W hv h3 := fun b o e w => kb3 b o (kbv2 b o e w) fun z => w (hW b z)
      have syv : Stay (lg c hv) (lg c h3) := fun b o e q => lg_get (kbv3 b o (lg_sub _ _ e) (hWp b o e q)) (lg_not e)
      have hst3 : St (i + 1) h3 := k.W.frame _ _ _ hst2 fun b hb o e => kb3 b o e fun w => hfp b hb (hW b w)
      refine turn i y u V1 h3 hy (hJs _ _ _ _ hJ (st12.trans st23)) (Mo.mo hR0 syv) (F2.next F3 kb3) (kv.kb.trans kbv3) (kv.lg.stay.trans syv) tk3 _ _ (fun h4 tk4 ⟨V2, F4, hJ4, kb4⟩ => ?_) (fun v h4 tk4 k4 p => hr v h4 tk4 k4 p)
      refine ⟨xs.length + 1 - (i + 1), by omega, i + 1, V2, h4, tk4, rfl, hlt, rfl, ?_, hJ4, F4, kbv3.trans kb4⟩
      exact k.W.frame _ _ _ hst3 fun b hb o e => kb4 b o e (hfp b hb)
    · obtain rfl : i = xs.length := Nat.le_antisymm hi (Nat.not_lt.mp hlt)
      refine k.W.done (c.sh h1 tk1) _ _ hst fun h2 tk2 hk2 => ?_
      have kbv2 : KB W hv h2 := but_kb hI' kb1 hk2
      refine wpAny_execs_nil (hn h2 tk2 (done V1 h2 (hJs _ _ _ _ hJ (but_str eI sI.weak hk2)) ⟨F.toFm.but F1.toFm hI hk2, fun z hz => let ⟨w, o, e⟩ := F1.hid z hz; ⟨w, o, hk2 z o (fun q => hXI (List.mem_singleton.mp q ▸ hz)) e⟩⟩ (kv.kb.trans kbv2) (kv.lg.stay.trans fun b o e q => lg_get (kbv2 b o (lg_sub _ _ e) (hWp b o e q)) (lg_not e))))) hs
theorem Ex.for_ {x : Str} {it : Expr} {body : List Stmt} {px pos : Pos} {α : Type} {R : α → VP} [∀ x, Mo (R x)] {xs : List α} (hh : c.A.handled = none) (F : Fx c h0 env h V) (hit : Ev c env it (lg c h) (Itb c R xs))
    (W : Addr → Prop) (hW : ∀ a, Wr env a → W a) (hWo : ∀ a, W a → ∃ o, h.get? a = some o ∧ plainD o.data = false)
    (J : Nat → Vs → Heap → Prop) (hJ0 : ∀ h', Kept h h' → J 0 V h') (hJs : ∀ i V1 h1 h2, J i V1 h1 → Strg h1 h2 → J i V1 h2)
    (turn : ∀ i y v V1 h1, xs[i]? = some y → J i V1 h1 → R y v (lg c h1) → Fx c h0 env h1 (upd V1 x v) → KB W h h1 → Stay (lg c h) (lg c h1) → Ex c env h0 body h1 (fun h2 => ∃ V2, Fx c h0 env h2 V2 ∧ J (i + 1) V2 h2 ∧ KB W h1 h2) P)
    (done : ∀ V1 h1, J xs.length V1 h1 → Fx c h0 env h1 V1 → KB W h h1 → Stay (lg c h) (lg c h1) → Ex c env h0 rest h1 N P)
    (hk : env.kindOf x = some .local ∨ (env.kindOf x = some .cell ∧ (env.cells.lookup x).isSome = true) := by exact own_of (by rfl))
    (hs : ∀ y, foldedSetIterable it env y = pure y := by intro _; rfl) (ht : ∀ i v, letOwnedTupleGo (.Name x px) i v = pure () := by intro _ _; rfl) : Ex c env h0 (.For (.Name x px) it body [] pos :: rest) h N P :=
  Ex.of (Sx.for_ hh F hit W hW (fun a w => let ⟨o, e, p⟩ := hWo a w; ⟨o, e, .inl p⟩) J hJ0 hJs turn done hk hs ht)
end
end Mine
end

section
-- PL6
open PySem PySem.W PyProof.Rows PySem.Spec PySem.Calls
set_option maxRecDepth 100000
namespace Mine
/-! comprehensions -/
def slotsKey : Str := "__slots__"
/-- kept by a comprehension's own doings: iterators and its dict of names change; so may code tables -/
def cstO (o : Obj) : Bool := match o.data with
  | .dict es _ => es.any fun e => e.key.isStr slotsKey
  | .fields _ => !iterT o.cls && (match o.cls with | .none => false | _ => true)
  | _ => true
def cst2O (o : Obj) : Bool := cstO o || (match o.data, o.cls with | .fields _, .none => true | _, _ => false)
def Cst (h h' : Heap) : Prop := ∀ b o, h.get? b = some o → cstO o = true → h'.get? b = some o
def Cst2 (h h' : Heap) : Prop := ∀ b o, h.get? b = some o → cst2O o = true → h'.get? b = some o
theorem Cst2.cst {a b : Heap} (x : Cst2 a b) : Cst a b := fun p o e q => x p o e (by unfold cst2O; rw [q]; rfl)
theorem Cst2.trans {a b c : Heap} (x : Cst2 a b) (y : Cst2 b c) : Cst2 a c := fun p o e q => y p o (x p o e q) q
theorem Kept.cst2 {a b : Heap} (x : Kept a b) : Cst2 a b := fun p o e _ => x p o e
theorem Cst.stay {a b : Heap} (x : Cst a b) : Stay a b := fun p o e q => x p o e (by unfold cstO; unfold plainD at q; split <;> simp_all)
theorem Cst2.lg {c : Cx} {a b : Heap} (x : Cst2 a b) : Cst2 (lg c a) (lg c b) := fun p o e q => lg_get (x p o (lg_sub _ _ e) q) (lg_not e)
theorem cst_but {h1 h2 : Heap} {I : Addr} {oI : Obj} (e1 : h1.get? I = some oI) (s : cst2O oI = false) (k : ∀ b o, b ≠ I → h1.get? b = some o → h2.get? b = some o) : Cst2 h1 h2 :=
  fun b o e q => k b o (fun z => by rw [z, e1] at e; cases e; rw [s] at q; cases q) e
theorem IterO.weak2 {o : Obj} (x : IterO o) : cst2O o = false := by
  obtain ⟨⟨vs, hd⟩, ht⟩ := x
  unfold cst2O cstO
  rw [hd]
  cases hc : o.cls <;> rw [hc] at ht <;> simp [iterT] at ht ⊢
  rcases ht with (h | h) | h <;> simp [h]
theorem ns_weak {h : Heap} {C : Addr} {m : Vs} (x : h.Ns C m) (hm : m slotsKey = none) : ∃ o, h.get? C = some o ∧ cst2O o = false := by
  obtain ⟨o, es, ep, e, hd, _, hf⟩ := x
  refine ⟨o, e, ?_⟩
  have := hf slotsKey
  rw [hm] at this
  unfold nsFind findBy at this
  rw [Option.map_eq_none_iff] at this
  have z : (es.any fun e => e.key.isStr slotsKey) = false := by
    rw [Array.any_eq_false]
    intro i hi
    have := Array.find?_eq_none.mp this (es[i]) (Array.getElem_mem hi)
    simpa using this
  unfold cst2O cstO
  rw [hd]; simp [z]
/-- the comprehension's own context: its list is hidden -/
abbrev Cx.hide (c : Cx) (D : Addr) : Cx := { c with X := D :: c.X }
theorem lg_hide {c : Cx} {D : Addr} {h h' : Heap} (hs : Heap.SameBut D h h') : Kept (lg (c.hide D) h) (lg (c.hide D) h') := fun b o e => lg_get (hs.extBut b o (fun q => lg_not e (q ▸ List.mem_cons_self)) (lg_sub _ _ e)) (lg_not e)
theorem lg_hide_sub {c : Cx} {D : Addr} {h : Heap} : Kept (lg (c.hide D) h) (lg c h) := fun b o e => lg_get (lg_sub _ _ e) fun q => lg_not e (List.mem_cons_of_mem _ q)
abbrev lst (ys : List Value) : Obj := { cls := .type "list", data := .seq ys.toArray ys.length }
section
variable {c : Cx} {env : Env}
theorem comp_block {elt iter : Expr} {ifs : List Expr} {x : Str} {px pos : Pos} {scope : Scope} {cl : List (Str × Addr)} {α β : Type} {R : α → VP} [∀ x, Mo (R x)] {S : β → VP} {xs : List α} {hs ha : Heap} {I : Addr} {fp : List Addr} {Pi : Nat → Value → Prop} {St : Nat → Heap → Prop} {tka : Nat} {E : Value → Shared → Prop}
    {RR : Value → Addr → Result → Shared → Prop}
    (k : Wk c c.A R xs hs I ha fp Pi St) (hX : ∀ x ∈ c.X, ∃ o, hs.get? x = some o)
    (hcell : ∀ y ∈ scope.names, y.2 ≠ .cell) (hkind : scope.kind = .function) (hx : scope.names.lookup x = some .local) (hxs : x ≠ slotsKey) (hsz : xs.length ≤ sizeLine)
    (W : Addr → Prop) (hWo : ∀ a, W a → ∃ o, hs.get? a = some o ∧ plainD o.data = false) (hXW : ∀ y ∈ c.X, ¬ W y)
    (J : Nat → Heap → Prop) (hJ0 : ∀ D h', Kept (lg c hs) (lg (c.hide D) h') → J 0 (lg (c.hide D) h')) (hJs : ∀ i h1 h2, J i h1 → Cst2 h1 h2 → J i h2)
    (hSs : ∀ y v h1 h2, S y v h1 → Cst h1 h2 → S y v h2) (p : α → Bool) (f : α → β)
    (test : ∀ i y u C D m h1, xs[i]? = some y → R y u (lg (c.hide D) h1) → J i (lg (c.hide D) h1) → h1.Ns C m → m x = some u → hs.get? C = none → hs.get? D = none → C ≠ D → KB W hs h1 → Lt (c.hide D) (lg (c.hide D) h1) h1 →
      Pu (c.hide D) (forIn ifs true fun t r => if r = true then do let ok ← isTrue t (compEnvC scope cl C env) (eval t (compEnvC scope cl C env)); pure (ForInStep.yield ok) else pure (ForInStep.yield r)) (lg (c.hide D) h1) fun b _ => b = p y)
    (skip : ∀ i y h1, xs[i]? = some y → p y = false → J i h1 → J (i + 1) h1)
    (elem : ∀ i y u C D m h1, xs[i]? = some y → p y = true → R y u (lg (c.hide D) h1) → J i (lg (c.hide D) h1) → h1.Ns C m → m x = some u → hs.get? C = none → hs.get? D = none → C ≠ D → KB W hs h1 → Lt (c.hide D) (lg (c.hide D) h1) h1 →
      ∀ tk (Q : Value → Shared → Prop) (E : Value → Shared → Prop), (∀ v h2 tk2, KB W h1 h2 → Cst (lg (c.hide D) h1) (lg (c.hide D) h2) → S (f y) v (lg (c.hide D) h2) → J (i + 1) (lg (c.hide D) h2) → Q v (c.sh h2 tk2)) →
      wpAny c.M c.A (eval elt (compEnvC scope cl C env)) Q E (c.sh h1 tk))
    (hRR : ∀ D C h' tk' m vs, KB W hs h' → Are S ((xs.filter p).map f) vs (lg c h') → h'.get? D = some (lst vs) → hs.get? D = none → hs.get? C = none → C ≠ D → h'.Ns C m → m slotsKey = none → J xs.length (lg (c.hide D) h') → RR (.ref D) C (.ok .next) (c.sh h' tk')) :
    wpAny c.M c.A (newList []) (fun acc s₃ => wpAny c.M c.A (newFunctionEnv scope env.globals cl [] env.qual none .none (some env)) (fun cenv s₄ =>
      codeAny c.M c.A (.compStart (.ListComp elt [⟨.Name x px, iter, ifs, 0⟩] scope pos) 0 (.ref I) acc { cenv with scope := relabel scope env }) (RR acc cenv.locals) s₄) E s₃) E (c.sh ha tka) := by
  refine wpAny_newObj_type (wpAny_newFunctionEnv hcell (by intro y hy; simp at hy) (fun h₁ hns₁ hsb₁ => ?_) hkind)
  dsimp only at hns₁ hsb₁ ⊢
  generalize hH2 : ha.push { cls := .type "list", dict := none, data := .seq ([] : List Value).toArray } = H2 at hns₁ hsb₁ ⊢
  have hC : H2.objs.size = ha.objs.size + 1 := by rw [← hH2, Heap.size_push]
  have kpush : Kept ha H2 := hH2 ▸ Kept.push _ _
  have hnoC : H2.get? H2.objs.size = none := Heap.get?_none_of_le (Nat.le_refl _)
  have hnoD : ha.get? ha.objs.size = none := Heap.get?_none_of_le (Nat.le_refl _)
  have k01 : Kept ha h₁ := fun b o e => hsb₁.extBut b o (fun q => by have := kpush b o e; rw [q, hnoC] at this; cases this) (Heap.get?_push_of_some _ (kpush b o e))
  have hDC : H2.objs.size ≠ ha.objs.size := by rw [hC]; exact Nat.ne_of_gt (Nat.lt_succ_self _)
  generalize hDe : ha.objs.size = D at *
  generalize hCe : H2.objs.size = C at *
  have hD0 : h₁.get? D = some (lst []) := hsb₁.extBut _ _ (Ne.symm hDC) (Heap.get?_push_of_some _ (by rw [← hH2, ← hDe]; exact Heap.get?_push_size _ rfl))
  have hDs : hs.get? D = none := by
    cases q : hs.get? D with
    | none => rfl
    | some o => have := k.kept _ _ q; rw [hnoD] at this; cases this
  have hCs : hs.get? C = none := by
    cases q : hs.get? C with
    | none => rfl
    | some o => have := kpush _ _ (k.kept _ _ q); rw [hnoC] at this; cases this
  have hDI : D ≠ I := fun q => by obtain ⟨o, e, _⟩ := k.obj 0 _ k.st; rw [← q, hnoD] at e; cases e
  have hCI : C ≠ I := fun q => by obtain ⟨o, e, _⟩ := k.obj 0 _ k.st; have := kpush _ _ e; rw [← q, hnoC] at this; cases this
  have hWn : ∀ b, hs.get? b = none → ¬ W b := fun b e w => by obtain ⟨o, eo, _⟩ := hWo b w; rw [e] at eo; cases eo
  have hWp : ∀ b o, hs.get? b = some o → plainD o.data = true → ¬ W b := fun b o e q w => by
    obtain ⟨o', eo', hp⟩ := hWo b w
    rw [e] at eo'; cases eo'; rw [hp] at q; cases q
  have hXD : D ∉ c.X := fun q => by obtain ⟨o, e⟩ := hX D q; rw [hDs] at e; cases e
  have fpn : ∀ b ∈ fp, b ≠ I → b ≠ C ∧ b ≠ D ∧ ¬ W b := fun b hb hne => by
    obtain ⟨o, e, hp⟩ := k.fpo b hb hne
    have e := lg_sub _ _ e
    exact ⟨fun q => (by rw [q, hCs] at e; cases e), fun q => (by rw [q, hDs] at e; cases e), hWp b o e hp⟩
  have ltD : ∀ h, (∀ b o, hs.get? b = some o → ∃ o', h.get? b = some o') → (∃ o, h.get? D = some o) → Lt (c.hide D) (lg (c.hide D) h) h := fun h hk hd => ⟨Kept.refl _, fun y hy => by
    rcases List.mem_cons.mp hy with rfl | hy
    · exact hd
    · obtain ⟨o, e⟩ := hX y hy; exact hk _ _ e⟩
  have hWI : ¬ W I := hWn I k.new
  have hWC : ¬ W C := hWn C hCs
  have hWD : ¬ W D := hWn D hDs
  have ltD' : ∀ h, KB W hs h → (∃ o, h.get? D = some o) → Lt (c.hide D) (lg (c.hide D) h) h := fun h kb hd => ⟨Kept.refl _, fun y hy => by
    rcases List.mem_cons.mp hy with rfl | hy
    · exact hd
    · obtain ⟨o, e⟩ := hX y hy; exact ⟨o, kb _ _ e (hXW y hy)⟩⟩
  have areC : ∀ {ys : List β} {vs : List Value} {h h' : Heap}, Are S ys vs h → Cst h h' → Are S ys vs h' := fun a q => ⟨a.len, fun i y v hy hv => hSs _ _ _ _ (a.at' i y v hy hv) q⟩
  have loop : ∀ s₃ : Shared, s₃ = c.sh h₁ (tka + ([] : List (Str × Value)).length) →
      codeAny c.M c.A (.compLoop (.ListComp elt [⟨.Name x px, iter, ifs, 0⟩] scope pos) 0 (.ref I) (.ref D) (compEnvC scope cl C env)) (RR (.ref D) C) s₃ := by
    rintro s₃ rfl
    refine codeAny_compLoop_tests (fun n s' => ∃ i h1 tk1 m vs, s' = c.sh h1 tk1 ∧ i ≤ xs.length ∧ n = xs.length + 1 - i ∧ St i h1 ∧ KB W hs h1 ∧ h1.get? D = some (lst vs) ∧ Are S (((xs.take i).filter p).map f) vs (lg (c.hide D) h1) ∧ h1.Ns C m ∧ m slotsKey = none ∧ J i (lg (c.hide D) h1)) ?_ (xs.length + 1)
      ⟨0, h₁, _, _, [], rfl, Nat.zero_le _, rfl, k.W.frame _ _ _ k.st fun b _ o e => k01 b o e, (k.kept.trans k01).kb, hD0, by simpa using Are.nil, hns₁, rfl,
        hJ0 D _ fun b o e => lg_get (k01 _ _ (k.kept _ _ (lg_sub _ _ e))) fun q => (by
          rcases List.mem_cons.mp q with rfl | q
          · rw [lg_sub _ _ e] at hDs; cases hDs
          · exact lg_not e q)⟩
    rintro n s ⟨i, h1, tk1, m, vs, rfl, hi, rfl, hst, kb, hD1, ar, hns, hms, hJ⟩
    obtain ⟨oI, eI, sI⟩ := k.obj i h1 hst
    by_cases hlt : i < xs.length
    · refine k.W.item i (c.sh h1 tk1) _ _ hlt hst fun u h2 tk2 hP hst2 hk2 => ?_
      have hk2' : ∀ b o, b ≠ I → h1.get? b = some o → h2.get? b = some o := fun b o q e => hk2 b o (by simpa using q) e
      have hns2 : h2.Ns C m := hns.at' fun o e => hk2' C o hCI e
      refine wpAny_assign_Name (wpAny_storeName_local (s := c.sh h2 tk2) (lookup_relabel_local hx) hns2 (fun h3 hn3 hs3 => ?_) (by simp [compEnvC, relabel, hkind]))
      obtain ⟨oC, eC, wC⟩ := ns_weak hns2 hms
      have c12 : Cst2 h1 h2 := cst_but eI sI.weak2 hk2'
      have c23 : Cst2 h2 h3 := cst_but eC wC fun b o q e => hs3.extBut b o q e
      have c13 := (c12.trans c23).lg (c := c.hide D)
      have kb2 : KB W hs h2 := but_kb k.new kb hk2
      have kb3 : KB W hs h3 := fun b o e w => hs3.extBut b o (fun q => by
        have q' : b = C := q
        rw [q', hCs] at e; cases e) (kb2 b o e w)
      have hD3 : h3.get? D = some (lst vs) := hs3.extBut D _ (fun q => hDC (by
        have q' : D = C := q
        exact q'.symm)) (hk2' D _ hDI hD1)
      have hst3 : St (i + 1) h3 := k.W.frame _ _ _ hst2 fun b hb o e => hs3.extBut b o (fun q => by
        have q' : b = C := q
        by_cases hbI : b = I
        · exact hCI (q'.symm.trans hbI)
        · exact (fpn b hb hbI).1 q') e
      obtain ⟨y, hy⟩ : ∃ y, xs[i]? = some y := ⟨xs[i], List.getElem?_eq_getElem hlt⟩
      have hR : R y u (lg (c.hide D) h3) := Mo.mo (k.it i u y hP hy) fun b o e q => lg_get (kb3 b o (lg_sub _ _ e) (hWp b o (lg_sub _ _ e) q)) fun z => by
        rcases List.mem_cons.mp z with rfl | z
        · rw [lg_sub _ _ e] at hDs; cases hDs
        · exact lg_not e z
      have lt3 := ltD' h3 kb3 ⟨_, hD3⟩
      have hmx : (fun y => if y = x then some u else m y) x = some u := by simp
      have hJ3 := hJs _ _ _ hJ c13
      have htk : xs.take (i + 1) = xs.take i ++ [y] := by rw [List.take_add_one, hy]; rfl
      refine test i y u C D _ h3 hy hR hJ3 hn3 hmx hCs hDs hDC kb3 lt3 h3 _ _ _ lt3 fun ok h4 tk4 k4 e4 => ?_
      have kb4 : KB W hs h4 := kb3.trans k4.kb
      have ar4 : Are S (((xs.take i).filter p).map f) vs (lg (c.hide D) h4) := areC (areC ar c13.cst) k4.lg.cst2.cst
      have hD4 := k4 _ _ hD3
      have hn4 := hn3.keeps k4
      have hst4 : St (i + 1) h4 := k.W.frame _ _ _ hst3 fun b _ o e => k4 b o e
      have hJ4 := hJs _ _ _ hJ3 k4.lg.cst2
      have hms' : (fun y => if y = x then some u else m y) slotsKey = none := by
        show (if slotsKey = x then some u else m slotsKey) = none
        rw [if_neg (fun q => hxs q.symm)]; exact hms
      cases ok with
      | true =>
        rw [if_pos rfl]
        refine elem i y u C D _ h4 hy e4.symm (Mo.mo hR k4.lg.stay) hJ4 hn4 hmx hCs hDs hDC kb4 (ltD' h4 kb4 ⟨_, hD4⟩) tk4 _ _ fun v h5 tk5 kb5 c5 s5 j5 => ?_
        have hD5 : h5.get? D = some (lst vs) := kb5 _ _ hD4 hWD
        have hvl : vs.length ≤ xs.length := by
          rw [ar4.len, List.length_map]
          exact Nat.le_trans (List.length_filter_le _ _) (by rw [List.length_take]; exact Nat.min_le_right _ _)
        refine append_at (s := c.sh h5 tk5) (hsz := by show vs.toArray.size ≤ sizeLine; rw [List.size_toArray]; exact Nat.le_trans hvl hsz) hD5 fun h6 hs6 hD6 => ?_
        refine ⟨xs.length + 1 - (i + 1), by omega, i + 1, h6, tk5, fun z => if z = x then some u else m z, vs ++ [v], rfl, hlt, rfl, ?_, ?_, ?_, ?_, ?_, hms', ?_⟩
        · refine k.W.frame _ _ _ (k.W.frame _ _ _ hst4 fun b hb o e => kb5 b o e ?_) fun b hb o e => hs6.extBut b o ?_ e
          · by_cases hbI : b = I
            · rw [hbI]; exact hWI
            · exact (fpn b hb hbI).2.2
          · intro q
            have q' : b = D := q
            by_cases hbI : b = I
            · exact hDI (q'.symm.trans hbI)
            · exact (fpn b hb hbI).2.1 q'
        · exact fun b o e w => hs6.extBut b o (fun q => by
            have q' : b = D := q
            rw [q', hDs] at e; cases e) (kb5 b o (kb4 b o e w) w)
        · rw [hD6]
          show some _ = some _
          congr 1
          show ({ cls := .type "list", data := .seq (vs.toArray.push v) (vs.length + 1) } : Obj) = { cls := .type "list", data := .seq (vs ++ [v]).toArray (vs ++ [v]).length }
          rw [List.length_append, List.length_singleton, List.push_toArray]
        · rw [htk, List.filter_append, List.map_append]
          have e1 : (List.filter p [y]).map f = [f y] := by simp [← e4]
          rw [e1]
          have kl : Kept (lg (c.hide D) h5) (lg (c.hide D) h6) := lg_hide hs6
          exact (areC (areC ar4 c5) kl.cst2.cst).snoc (hSs _ _ _ _ s5 kl.cst2.cst)
        · exact (hn4.at' fun o e => kb5 C o e hWC).sameBut hs6 (by
            intro q
            have q' : C = D := q
            exact hDC q')
        · exact hJs _ _ _ j5 (lg_hide hs6).cst2
      | false =>
        rw [if_neg (by simp)]
        refine ⟨xs.length + 1 - (i + 1), by omega, i + 1, h4, tk4, fun z => if z = x then some u else m z, vs, rfl, hlt, rfl, hst4, kb4, hD4, ?_, hn4, hms', skip i y _ hy e4.symm hJ4⟩
        rw [htk, List.filter_append, List.map_append]
        have e1 : (List.filter p [y]).map f = [] := by simp [← e4]
        rw [e1, List.append_nil]
        exact ar4
    · obtain rfl : i = xs.length := Nat.le_antisymm hi (Nat.not_lt.mp hlt)
      refine k.W.done (c.sh h1 tk1) _ _ hst fun h2 tk2 hk2 => ?_
      have hk2' : ∀ b o, b ≠ I → h1.get? b = some o → h2.get? b = some o := fun b o q e => hk2 b o (by simpa using q) e
      have c12 : Cst2 (lg (c.hide D) h1) (lg (c.hide D) h2) := (cst_but eI sI.weak2 hk2').lg
      rw [List.take_length] at ar
      exact hRR D C h2 tk2 m vs (but_kb k.new kb hk2) (areC (areC ar c12.cst) lg_hide_sub.cst2.cst) (hk2' D _ hDI hD1) hDs hCs hDC (hns.at' fun o e => hk2' C o hCI e) hms (hJs _ _ _ hJ c12)
  exact codeAny_compStart_list (loop _ rfl) (k.W.self 0 _ _ _ (k.W.frame _ _ _ k.st fun b _ o e => k01 b o e) (loop _ rfl))
abbrev tests (ifs : List Expr) (env : Env) : Sem Bool := forIn ifs true fun t r => if r = true then do let ok ← isTrue t env (eval t env); pure (ForInStep.yield ok) else pure (ForInStep.yield r)
theorem comp_any {elt iter : Expr} {ifs : List Expr} {x : Str} {px pos : Pos} {scope : Scope} {cl : List (Str × Addr)} {α β : Type} {R : α → VP} [∀ x, Mo (R x)] {S : β → VP} [∀ y, Mo (S y)] {xs : List α} {h h1 : Heap} {tk : Nat} {Q : Value → Shared → Prop} {E : Value → Shared → Prop}
    (hh : c.A.handled = none) (hit : Ev c env iter h (Itb c R xs)) (p : α → Bool) (f : α → β)
    (test : ∀ y u C D m h1, y ∈ xs → R y u h1 → Kept h h1 → h1.Ns C m → m x = some u → Pu (c.hide D) (tests ifs (compEnvC scope cl C env)) h1 fun b _ => b = p y)
    (elem : ∀ y u C D m h1, y ∈ xs → p y = true → R y u h1 → Kept h h1 → h1.Ns C m → m x = some u → Ev (c.hide D) (compEnvC scope cl C env) elt h1 (S (f y)))
    (hclos : closureFor scope env = pure cl) (hcell : ∀ y ∈ scope.names, y.2 ≠ .cell) (hkind : scope.kind = .function) (hnames : ∀ y ∈ scope.names, y.2 = .local → scope.names.lookup y.1 = some .local) (hx : scope.names.lookup x = some .local) (hxs : x ≠ slotsKey) (hsz : xs.length ≤ sizeLine)
    (hs : ∀ x, foldedSetIterable iter env x = pure x) (l : Lt c h h1) (use : Option (Value → Sem Unit))
    (fin : ∀ D C h2 tk2 m, Kept h1 h2 → isL S ((xs.filter p).map f) (.ref D) (lg c h2) → h1.get? C = none → h2.Ns C m → m slotsKey = none → compPost c.M c.A E use Q (.ref D) C (.ok .next) (c.sh h2 tk2)) :
    wpAny c.M c.A (comprehension (.ListComp elt [⟨.Name x px, iter, ifs, 0⟩] scope pos) scope env (firstIterPos [⟨.Name x px, iter, ifs, 0⟩] pos) (newList []) false (eval iter env) use) Q E (c.sh h1 tk) := by
  refine wpAny_comprehension_free (use := use) rfl hs hclos hkind hnames (hit h1 tk _ E l fun xv hv tkv kv itb => ?_)
  have lv := l.trans kv
  refine itb (c.sh hv tkv) c.A _ E hh lv.lg fun I ha fp Pi St k => ?_
  have base : ∀ {h' : Heap} {C D : Addr}, hv.get? D = none → Kept hv h' → Kept h (lg (c.hide D) h') := fun hd kk b o e => lg_get (kk _ _ (lg_sub _ _ (lv.keep b o e))) fun q => by
    rcases List.mem_cons.mp q with rfl | q
    · have := lg_sub _ _ (lv.keep b o e); rw [hd] at this; cases this
    · exact lg_not (lv.keep b o e) q
  refine comp_block (S := S) k (fun y hy => lv.old y hy) hcell hkind hx hxs hsz (fun _ => False) (fun _ w => w.elim) (fun _ _ w => w) (fun _ _ => True) (fun _ _ _ => trivial) (fun _ _ _ _ _ => trivial) (fun y v g g' q cc => Mo.mo q cc.stay) p f ?_ (fun _ _ _ _ _ _ => trivial) ?_ ?_
  · intro i y u C D m h3 hy hr _ hn hm hC hD hDC kb lt3
    have k3 : Kept hv h3 := fun b o e => kb b o e id
    refine test y u C D m _ (List.mem_of_getElem? hy) hr (base (C := C) hD k3) (hn.at' fun o e => lg_get e fun q => ?_) hm
    rcases List.mem_cons.mp q with q | q
    · exact hDC q
    · obtain ⟨o', e'⟩ := lv.old C q; rw [hC] at e'; cases e'
  · intro i y u C D m h3 hy hp hr _ hn hm hC hD hDC kb lt3 tk3 Q3 E3 hq3
    have k3 : Kept hv h3 := fun b o e => kb b o e id
    refine elem y u C D m _ (List.mem_of_getElem? hy) hp hr (base (C := C) hD k3) (hn.at' fun o e => lg_get e fun q => ?_) hm h3 tk3 _ _ lt3 fun v h4 tk4 k4 s4 => hq3 v h4 tk4 k4.kb k4.lg.cst2.cst s4 trivial
    rcases List.mem_cons.mp q with q | q
    · exact hDC q
    · obtain ⟨o', e'⟩ := lv.old C q; rw [hC] at e'; cases e'
  · intro D C h' tk' m vs kb ar hD hDs hCs hDC hn hms _
    have k' : Kept hv h' := fun b o e => kb b o e id
    refine fin D C h' tk' m (kv.trans k') ⟨D, vs, _, rfl, lg_get hD fun q => ?_, ar⟩ ?_ hn hms
    · obtain ⟨o', e'⟩ := lv.old D q; rw [hDs] at e'; cases e'
    · cases q : h1.get? C with
      | none => rfl
      | some o => have := kv _ _ q; rw [hCs] at this; cases this
theorem tests_nil {h : Heap} : Pu c (tests [] env) h fun b _ => b = true := Pu.mk fun h1 tk Q E l hq => wpAny_tests_nil (hq true h1 tk (Kept.refl _) rfl)
theorem Ev.compT {elt iter : Expr} {ifs : List Expr} {x : Str} {px pos : Pos} {scope : Scope} {cl : List (Str × Addr)} {α β : Type} {R : α → VP} [∀ x, Mo (R x)] {S : β → VP} [∀ y, Mo (S y)] {xs : List α} {h : Heap}
    (hh : c.A.handled = none) (hit : Ev c env iter h (Itb c R xs)) (p : α → Bool) (f : α → β)
    (test : ∀ y u C D m h1, y ∈ xs → R y u h1 → Kept h h1 → h1.Ns C m → m x = some u → Pu (c.hide D) (tests ifs (compEnvC scope cl C env)) h1 fun b _ => b = p y)
    (elem : ∀ y u C D m h1, y ∈ xs → p y = true → R y u h1 → Kept h h1 → h1.Ns C m → m x = some u → Ev (c.hide D) (compEnvC scope cl C env) elt h1 (S (f y)))
    (hsz : xs.length ≤ sizeLine) (hclos : closureFor scope env = pure cl) (hcell : ∀ y ∈ scope.names, y.2 ≠ .cell := by decide) (hkind : scope.kind = .function := by rfl) (hnames : ∀ y ∈ scope.names, y.2 = .local → scope.names.lookup y.1 = some .local := by decide) (hx : scope.names.lookup x = some .local := by rfl) (hxs : x ≠ slotsKey := by decide)
    (hs : ∀ x, foldedSetIterable iter env x = pure x := by intro _; rfl) : Ev c env (.ListComp elt [⟨.Name x px, iter, ifs, 0⟩] scope pos) h (isL S ((xs.filter p).map f)) := Pu.mk fun h1 tk Q E l hq => by
  rw [eval_ListComp]
  refine comp_any hh hit p f test elem hclos hcell hkind hnames hx hxs hsz hs l none fun D C h2 tk2 m k hv hC hn hms => ⟨m, hn, fun h' hs' => ?_⟩
  obtain ⟨oC, eC, wC⟩ := ns_weak hn hms
  exact hq _ h' tk2 (fun b o e => hs'.extBut b o (fun q => by
    have q' : b = C := q
    rw [q', hC] at e; cases e) (k b o e)) (Mo.mo hv (cst_but eC wC fun b o q e => hs'.extBut b o q e).lg.cst.stay)
theorem filter_tt {α : Type} (xs : List α) : xs.filter (fun _ => true) = xs := List.filter_eq_self.mpr fun _ _ => rfl
theorem Ev.comp {elt iter : Expr} {x : Str} {px pos : Pos} {scope : Scope} {cl : List (Str × Addr)} {α β : Type} {R : α → VP} [∀ x, Mo (R x)] {S : β → VP} [∀ y, Mo (S y)] {xs : List α} {h : Heap}
    (hh : c.A.handled = none) (hit : Ev c env iter h (Itb c R xs)) (f : α → β)
    (elem : ∀ y u C D m h1, y ∈ xs → R y u h1 → Kept h h1 → h1.Ns C m → m x = some u → Ev (c.hide D) (compEnvC scope cl C env) elt h1 (S (f y)))
    (hsz : xs.length ≤ sizeLine) (hclos : closureFor scope env = pure cl) (hcell : ∀ y ∈ scope.names, y.2 ≠ .cell := by decide) (hkind : scope.kind = .function := by rfl) (hnames : ∀ y ∈ scope.names, y.2 = .local → scope.names.lookup y.1 = some .local := by decide) (hx : scope.names.lookup x = some .local := by rfl) (hxs : x ≠ slotsKey := by decide)
    (hs : ∀ x, foldedSetIterable iter env x = pure x := by intro _; rfl) : Ev c env (.ListComp elt [⟨.Name x px, iter, [], 0⟩] scope pos) h (isL S (xs.map f)) := by
  have := Ev.compT (pos := pos) (px := px) hh hit (fun _ => true) f (fun _ _ _ _ _ _ _ _ _ _ _ => tests_nil) (fun y u C D m h1 hy _ => elem y u C D m h1 hy) hsz hclos hcell hkind hnames hx hxs hs
  rwa [filter_tt] at this
/-- y = [elt for x in iter if ..] -/
theorem Ex.assignComp {h0 h : Heap} {V : Vs} {N : Heap → Prop} {P : VP} {rest : List Stmt} {elt iter : Expr} {ifs : List Expr} {x y : Str} {px py pos spos : Pos} {scope : Scope} {cl : List (Str × Addr)} {α β : Type} {R : α → VP} [∀ x, Mo (R x)] {S : β → VP} [∀ y, Mo (S y)] {xs : List α}
    (F : Fx c h0 env h V) (hh : c.A.handled = none) (hit : Ev c env iter (lg c h) (Itb c R xs)) (p : α → Bool) (f : α → β)
    (test : ∀ y u C D m h1, y ∈ xs → R y u h1 → Kept (lg c h) h1 → h1.Ns C m → m x = some u → Pu (c.hide D) (tests ifs (compEnvC scope cl C env)) h1 fun b _ => b = p y)
    (elem : ∀ y u C D m h1, y ∈ xs → p y = true → R y u h1 → Kept (lg c h) h1 → h1.Ns C m → m x = some u → Ev (c.hide D) (compEnvC scope cl C env) elt h1 (S (f y)))
    (hsz : xs.length ≤ sizeLine) (hclos : closureFor scope env = pure cl) (hr : ∀ v h', Fx c h0 env h' (upd V y v) → KB (Wr env) h h' → Stay (lg c h) (lg c h') → isL S ((xs.filter p).map f) v (lg c h') → Ex c env h0 rest h' N P)
    (hcell : ∀ y ∈ scope.names, y.2 ≠ .cell := by decide) (hkind : scope.kind = .function := by rfl) (hnames : ∀ y ∈ scope.names, y.2 = .local → scope.names.lookup y.1 = some .local := by decide) (hx : scope.names.lookup x = some .local := by rfl) (hxs : x ≠ slotsKey := by decide)
    (hk : env.kindOf y = some .local ∨ (env.kindOf y = some .cell ∧ (env.cells.lookup y).isSome = true) := by exact own_of (by rfl))
    (hsw : swapsWith (.ListComp elt [⟨.Name x px, iter, ifs, 0⟩] scope pos) (some (.Name y py)) spos.line env = pure true := by with_unfolding_all rfl)
    (hs : ∀ x, foldedSetIterable iter env x = pure x := by intro _; rfl) : Ex c env h0 (.Assign [.Name y py] (.ListComp elt [⟨.Name x px, iter, ifs, 0⟩] scope pos) spos :: rest) h N P :=
  Ex.cons fun tk Q E hn _ => by
    rw [exec_Assign_Name_used _ _ _ _ hsw]
    refine wpAny_bind (wpAny_standAt (wpAny_bind ?_))
    show wpAny _ c.A (do let _ ← comprehension (.ListComp elt [⟨.Name x px, iter, ifs, 0⟩] scope pos) scope env _ (newList []) false (eval iter env) (some (PySem.assign (.Name y py) env))) _ _ _
    refine wpAny_bind (wpAny_mono (comp_any (Q := fun _ s' => Q .next s') hh hit p f test elem hclos hcell hkind hnames hx hxs hsz hs F.lt (some (PySem.assign (.Name y py) env)) fun D C h2 tk2 m k hv hC hns hms => ?_) (fun _ s' hq => wpAny_pure (wpAny_pure hq)) fun _ _ e => e)
    have F2 := F.at k
    refine wpAny_assign_Name (F2.toFm.store (s := c.sh h2 tk2) hk fun h3 tk3 F3 kb3 => ?_)
    have hCw : ¬ Wr env C := fun w => by obtain ⟨o, e, _⟩ := F.toFm.wrObj w; rw [hC] at e; cases e
    have hns3 : h3.Ns C m := hns.at' fun o e => kb3 C o e hCw
    refine ⟨m, hns3, fun h' hs' => ?_⟩
    obtain ⟨oC, eC, wC⟩ := ns_weak hns3 hms
    have hb : ∀ b o, b ∉ [C] → h3.get? b = some o → h'.get? b = some o := fun b o q e => hs'.extBut b o (fun z => q (List.mem_singleton.mpr z)) e
    have s3 : Stay (lg c h3) (lg c h') := (cst_but eC wC fun b o q e => hs'.extBut b o q e).lg.cst.stay
    have kb' : KB (Wr env) h h' := but_kb hC (k.kb.trans kb3) hb
    exact hn h' tk3 (hr _ h' (F.next (F.toFm.but F3 hC hb) kb') kb' (F.stay kb') (Mo.mo hv ((F2.stay kb3).trans s3)))
end
end Mine
end

section
-- PL7
open PySem PySem.W PyProof.Rows PySem.Spec PySem.Calls
set_option maxRecDepth 100000
namespace Mine
section
variable {c : Cx} {env : Env} {h : Heap} {P P1 P2 : VP} {pos : Pos}
theorem Ev.itL {α : Type} {R : α → VP} [∀ x, Mo (R x)] {xs : List α} {e : Expr} (x : Ev c env e h (isL R xs)) : Ev c env e h (Itb c R xs) := x.mono fun _ _ _ y => y.itL
theorem alloc_is {o : Obj} {h1 h2 : Heap} {a : Addr} (l : Lt c h h1) (hf : o.isFreed = false) : (lg c (h1.push o)).get? h1.objs.size = some o := lg_get (Heap.get?_push_size _ hf) (l.new (Heap.get?_none_of_le (Nat.le_refl _)))
/-! ranges -/
theorem b_range1 {n : Nat} {vs : List Value} (hn : n ≤ 2 ^ 24) (a : AllP [isI (n : Int)] vs h) : Pu c (call (.type "range") vs) h (isR 0 n 1 n) := by
  obtain ⟨u, rfl, ⟨t, rfl⟩⟩ := a.one
  refine Pu.mk fun h1 tk Q E l hq => ?_
  refine call_range_1 (s := c.sh h1 tk) (hq _ _ (tk + 1 + 1) (Kept.push _ _) ⟨_, _, _, _, rfl, alloc_is (h2 := h1) (a := 0) l rfl, small_one (by omega) (by omega) (by omega) (by omega), ?_⟩)
  rw [rangeSize_one]; split <;> omega
theorem Ev.range {fe a : Expr} {n : Nat} (hf : Ev c env fe h (isV (.type "range"))) (ha : Ev c env a h (isI (n : Int))) (hn : n ≤ 2 ^ 24) (hs : starEach [a] env = (false, eval a env) :: starEach [] env := by rfl) (hplain : (backTo pos (starEach ([] : List Expr) env)).any (·.1) = false := by rfl)
    (he : eval (.Call fe [a] [] pos) env = (do callWith pos (← eval fe env) [] (backTo pos (starEach [a] env)) (backToKw pos (keywordEach [] env))) := by rfl) : Ev c env (.Call fe [a] [] pos) h (isR 0 n 1 n) :=
  Ev.callT hf (EA.cons ha EA.nil hs) (fun vs h' _ p => b_range1 hn p) hs hplain he
theorem Ev.itR {a b d : Int} {n : Nat} {e : Expr} (x : Ev c env e h (isR a b d n)) : Ev c env e h (Itb c isI (rangeL a d n)) := x.mono fun _ _ _ y => y.it
theorem rangeL_one (n : Nat) : rangeL 0 1 n = (List.range n).map fun i : Nat => (i : Int) := by unfold rangeL; simp
theorem rangeL_at {a d : Int} {n i : Nat} {y : Int} (h : (rangeL a d n)[i]? = some y) : i < n ∧ y = a + i * d := by
  unfold rangeL at h
  rw [List.getElem?_map, Option.map_eq_some_iff] at h
  obtain ⟨j, hj, rfl⟩ := h
  obtain ⟨hl, e⟩ := List.getElem?_eq_some_iff.mp hj
  rw [List.getElem_range] at e
  rw [List.length_range] at hl
  exact ⟨hl, by rw [e]⟩
theorem rangeL_mem {a d : Int} {n : Nat} {y : Int} (h : y ∈ rangeL a d n) : ∃ i : Nat, i < n ∧ y = a + i * d := by
  obtain ⟨i, hi⟩ := List.getElem?_of_mem h
  exact ⟨i, rangeL_at hi⟩
theorem rangeL_len {a d : Int} {n : Nat} : (rangeL a d n).length = n := by unfold rangeL; simp
/-! slices -/
def pick {α : Type} (xs : List α) (lo hi st : Option Int) : List α := (sliceRange (sliceBounds lo hi st xs.length).1 (sliceBounds lo hi st xs.length).2.1 (sliceBounds lo hi st xs.length).2.2).filterMap (xs[·]?)
theorem Are.filterMap {α : Type} {R : α → VP} {xs : List α} {vs : List Value} (a : Are R xs vs h) : ∀ (is : List Nat), Are R (is.filterMap (xs[·]?)) (is.filterMap (vs[·]?)) h
  | [] => Are.nil
  | i :: is => by
    by_cases q : i < xs.length
    · have e1 : xs[i]? = some xs[i] := List.getElem?_eq_getElem q
      have q2 : i < vs.length := by rw [a.len]; exact q
      have e2 : vs[i]? = some vs[i] := List.getElem?_eq_getElem q2
      rw [List.filterMap_cons_some e1, List.filterMap_cons_some e2]
      exact Are.cons (a.at' i _ _ e1 e2) (Are.filterMap a is)
    · have e1 : xs[i]? = none := List.getElem?_eq_none (by omega)
      have e2 : vs[i]? = none := List.getElem?_eq_none (by rw [a.len]; omega)
      rw [List.filterMap_cons_none e1, List.filterMap_cons_none e2]
      exact Are.filterMap a is
/-- a part of a slice -/
inductive PartOf (c : Cx) (env : Env) (h : Heap) : Option Expr → Option Int → Prop
  | none : PartOf c env h none none
  | some {e : Expr} {z : Int} : Ev c env e h (isI z) → PartOf c env h (some e) (some z)
theorem PartOf.run {oe : Option Expr} {z : Option Int} (x : PartOf c env h oe z) : Pu c (evalPart oe env) h fun v _ => IsPart v z := by
  cases x with
  | none => exact Pu.mk fun h1 tk Q E l hq => wpAny_evalPart_none (hq _ h1 tk (Kept.refl _) .none)
  | some he => exact Pu.mk fun h1 tk Q E l hq => wpAny_evalPart_some (he h1 tk _ E l fun v h2 tk2 k2 ⟨t, e⟩ => hq v h2 tk2 k2 (e ▸ .int _ _))
theorem sliceTail {α : Type} {R : α → VP} [∀ x, Mo (R x)] {xs : List α} {o vl vu vst : Value} {lo hi st : Option Int} {hp h1 : Heap} {tk : Nat} {Q : Value → Shared → Prop} {E : Value → Shared → Prop} (l : Lt c h h1) (p : isL R xs o (lg c h1)) (pl : IsPart vl lo) (pu : IsPart vu hi) (ps : IsPart vst st) (h0 : st ≠ some 0) (hsz : xs.length ≤ sizeLine)
    (hq : ∀ v h2 tk2, Kept h1 h2 → isL R (pick xs lo hi st) v (lg c h2) → Q v (c.sh h2 tk2)) :
    (c.sh (h1.push { cls := .type "slice", data := .fields #[vl, vu, vst] }) tk).TypeIs o "list" ∧ wpAny c.M c.A (getItem o (.ref h1.objs.size)) Q E (c.sh (h1.push { cls := .type "slice", data := .fields #[vl, vu, vst] }) tk) := by
  obtain ⟨a, vs, rfl, hll, r⟩ := p.list
  have hl : h1.IsList a vs.toArray := let ⟨o, ho, q⟩ := hll; ⟨o, lg_sub _ _ ho, q⟩
  refine ⟨(hl.push _).typeIs (s := c.sh _ tk), wpAny_getItem_list_slice (s := c.sh _ tk) (hl.push _) (Heap.IsSliceOf.new ..) pl pu ps h0 ?_ (by rw [List.size_toArray, r.len]; exact hsz)⟩
  have l2 : Lt c h (h1.push { cls := .type "slice", data := .fields #[vl, vu, vst] }) := l.trans (Kept.push _ _)
  refine hq _ _ tk ((Kept.push _ _).trans (Kept.push _ _)) ⟨_, _, _, rfl, alloc_is (h2 := h1) (a := 0) l2 rfl, ?_⟩
  have := (r.filterMap (sliceRange (sliceBounds lo hi st xs.length).1 (sliceBounds lo hi st xs.length).2.1 (sliceBounds lo hi st xs.length).2.2)).stay (((Kept.push h1 { cls := .type "slice", data := .fields #[vl, vu, vst] }).trans (Kept.push _ { cls := .type "list", data := .seq (slicePick vs.toArray lo hi st) })).lg (c := c)).stay
  show Are R _ (List.filterMap (vs.toArray[·]?) _) _
  rw [List.size_toArray, r.len]
  have e : (fun i : Nat => vs.toArray[i]?) = fun i : Nat => vs[i]? := by funext i; simp
  rw [e]
  exact this
theorem Ev.slice {α : Type} {R : α → VP} [∀ x, Mo (R x)] {xs : List α} {value : Expr} {lower upper : Option Expr} {p : Pos} {lo hi : Option Int} (hv : Ev c env value h (isL R xs)) (hl : PartOf c env h lower lo) (hu : PartOf c env h upper hi) (hsz : xs.length ≤ sizeLine)
    (ht : ∀ o r, letTemporaryGo value o r = pure () := by intro _ _; rfl) : Ev c env (.Subscript value (.Slice lower upper none p) pos) h (isL R (pick xs lo hi none)) :=
  Pu.mk fun h1 tk Q E k hq => wpAny_Subscript_Slice (T := "list") list_getitem_lookup (hv h1 tk _ E k fun o h2 tk2 k2 pv => wpAny_Slice (hl.run h2 tk2 _ E (k.trans k2) fun vl h3 tk3 k3 pl => hu.run h3 tk3 _ E ((k.trans k2).trans k3) fun vu h4 tk4 k4 pu => by
    rw [evalPart_none]
    refine wpAny_pure ?_
    exact sliceTail (hp := h) (((k.trans k2).trans k3).trans k4) (Mo.mo pv (k3.trans k4).lg.stay) pl pu .none (by simp) hsz fun v h5 tk5 k5 q => hq v h5 tk5 (((k2.trans k3).trans k4).trans k5) q)) ht
theorem Ev.sliceS {α : Type} {R : α → VP} [∀ x, Mo (R x)] {xs : List α} {value st : Expr} {lower upper : Option Expr} {p : Pos} {lo hi : Option Int} {d : Int} (hv : Ev c env value h (isL R xs)) (hl : PartOf c env h lower lo) (hu : PartOf c env h upper hi) (hd : Ev c env st h (isI d)) (h0 : d ≠ 0) (hsz : xs.length ≤ sizeLine)
    (ht : ∀ o r, letTemporaryGo value o r = pure () := by intro _ _; rfl) : Ev c env (.Subscript value (.Slice lower upper (some st) p) pos) h (isL R (pick xs lo hi (some d))) :=
  Pu.mk fun h1 tk Q E k hq => wpAny_Subscript_Slice_step (T := "list") list_getitem_lookup (hv h1 tk _ E k fun o h2 tk2 k2 pv => wpAny_Slice (hl.run h2 tk2 _ E (k.trans k2) fun vl h3 tk3 k3 pl => hu.run h3 tk3 _ E ((k.trans k2).trans k3) fun vu h4 tk4 k4 pu =>
    (PartOf.some hd).run h4 tk4 _ E (((k.trans k2).trans k3).trans k4) fun vst h5 tk5 k5 ps =>
      sliceTail (hp := h) ((((k.trans k2).trans k3).trans k4).trans k5) (Mo.mo pv ((k3.trans k4).trans k5).lg.stay) pl pu ps (by simpa using h0) hsz fun v h6 tk6 k6 q => hq v h6 tk6 ((((k2.trans k3).trans k4).trans k5).trans k6) q)) ht
/-! + of lists -/
theorem Ev.addL {α : Type} {R : α → VP} [∀ x, Mo (R x)] {xs ys : List α} {l r : Expr} (hl : Ev c env l h (isL R xs)) (hr : Ev c env r h (isL R ys)) (hsz : xs.length + ys.length ≤ sizeLine) : Ev c env (.BinOp l .Add r pos) h (isL R (xs ++ ys)) :=
  Ev.bin hl hr fun a b h' k p q => Pu.mk fun h1 tk Q E lt hq => by
    obtain ⟨x, vs, n, rfl, ho, ra⟩ := p
    obtain ⟨y, ws, m, rfl, ho', rb⟩ := q
    refine PySem.P.add_list (s := c.sh h1 tk) (lt.top _ _ ho) (lt.top _ _ ho') (hq _ _ tk (Kept.push _ _) ⟨_, vs ++ ws, 0, rfl, ?_, ?_⟩) (by rw [List.size_toArray, List.size_toArray, ra.len, rb.len]; exact hsz)
    · rw [← List.append_toArray]; exact alloc_is (h2 := h1) (a := 0) lt rfl
    · exact ((ra.append rb).stay lt.keep.stay).stay (Kept.push _ _).lg.stay
/-! sum, min, max -/
theorem Are.ints {xs : List Int} {vs : List Value} (a : Are isI xs vs h) : ∃ ys : Array (Int × Tok), vs.toArray = intItems ys ∧ xs = ys.toList.map (·.1) := by
  suffices ∀ (vs : List Value) (xs : List Int), Are isI xs vs h → ∃ ys : List (Int × Tok), vs = ys.map (fun p => Value.int p.1 p.2) ∧ xs = ys.map (·.1) by
    obtain ⟨ys, e, e2⟩ := this vs xs a
    exact ⟨ys.toArray, by rw [e]; simp [intItems], by simpa using e2⟩
  intro vs
  induction vs with
  | nil => intro xs a; cases xs with
    | nil => exact ⟨[], rfl, rfl⟩
    | cons x xs => have := a.len; simp at this
  | cons v vs ih => intro xs a; cases xs with
    | nil => have := a.len; simp at this
    | cons x xs =>
      obtain ⟨v', vs', e, ⟨t, rfl⟩, r⟩ := a.uncons
      cases e
      obtain ⟨ys, e1, e2⟩ := ih xs r
      exact ⟨(x, t) :: ys, by rw [e1]; rfl, by rw [e2]; rfl⟩
theorem b_sum {xs : List Int} (hR : c.A.handled = none) {vs : List Value} (a : AllP [isL isI xs] vs h) : Pu c (call (.builtin "sum") vs) h (isI xs.sum) := by
  obtain ⟨u, rfl, p⟩ := a.one
  obtain ⟨l, ws, rfl, hl, r⟩ := p.list
  obtain ⟨ys, e1, e2⟩ := r.ints
  refine Pu.mk fun h1 tk Q E lt hq => ?_
  have hl' : h1.IsList l (intItems ys) := e1 ▸ (let ⟨o, ho, q⟩ := hl; ⟨o, lt.top _ _ ho, q⟩)
  refine sum_intListG (s := c.sh h1 tk) hR hl' fun h2 tk2 t' hk => hq _ h2 tk2 hk ⟨t', ?_⟩
  rw [preSum_eq, List.take_of_length_le (by simp), e2]
def minL (xs : List Int) : Int := match xs with | [] => 0 | x :: r => r.foldl min x
def maxL (xs : List Int) : Int := match xs with | [] => 0 | x :: r => r.foldl max x
theorem foldl_min : ∀ (r : List Int) (x : Int), (r.foldl min x ∈ x :: r) ∧ ∀ y ∈ x :: r, r.foldl min x ≤ y
  | [], x => by simp
  | z :: r, x => by
    obtain ⟨h1, h2⟩ := foldl_min r (min x z)
    rw [List.foldl_cons]
    refine ⟨?_, fun y hy => ?_⟩
    · rcases List.mem_cons.mp h1 with e | e
      · rw [e]
        rcases Int.le_total x z with q | q
        · rw [Int.min_eq_left q]; simp
        · rw [Int.min_eq_right q]; simp
      · simp [e]
    · have := h2 (min x z) (by simp)
      rcases List.mem_cons.mp hy with rfl | hy
      · omega
      · rcases List.mem_cons.mp hy with rfl | hy
        · omega
        · exact h2 y (by simp [hy])
theorem foldl_max : ∀ (r : List Int) (x : Int), (r.foldl max x ∈ x :: r) ∧ ∀ y ∈ x :: r, y ≤ r.foldl max x
  | [], x => by simp
  | z :: r, x => by
    obtain ⟨h1, h2⟩ := foldl_max r (max x z)
    rw [List.foldl_cons]
    refine ⟨?_, fun y hy => ?_⟩
    · rcases List.mem_cons.mp h1 with e | e
      · rw [e]
        rcases Int.le_total x z with q | q
        · rw [Int.max_eq_right q]; simp
        · rw [Int.max_eq_left q]; simp
      · simp [e]
    · have := h2 (max x z) (by simp)
      rcases List.mem_cons.mp hy with rfl | hy
      · omega
      · rcases List.mem_cons.mp hy with rfl | hy
        · omega
        · exact h2 y (by simp [hy])
theorem minL_is {xs : List Int} {M : Int} (h1 : M ∈ xs) (h2 : ∀ y ∈ xs, M ≤ y) : M = minL xs := by
  cases xs with
  | nil => simp at h1
  | cons x r => obtain ⟨a, b⟩ := foldl_min r x; have := h2 _ a; have := b _ h1; show M = r.foldl min x; omega
theorem maxL_is {xs : List Int} {M : Int} (h1 : M ∈ xs) (h2 : ∀ y ∈ xs, y ≤ M) : M = maxL xs := by
  cases xs with
  | nil => simp at h1
  | cons x r => obtain ⟨a, b⟩ := foldl_max r x; have := h2 _ a; have := b _ h1; show M = r.foldl max x; omega
theorem b_min {xs : List Int} (hR : c.A.handled = none) (hne : 0 < xs.length) {vs : List Value} (a : AllP [isL isI xs] vs h) : Pu c (call (.builtin "min") vs) h (isI (minL xs)) := by
  obtain ⟨u, rfl, p⟩ := a.one
  obtain ⟨l, ws, rfl, hl, r⟩ := p.list
  obtain ⟨ys, e1, e2⟩ := r.ints
  refine Pu.mk fun h1 tk Q E lt hq => ?_
  have hl' : h1.IsList l (intItems ys) := e1 ▸ (let ⟨o, ho, q⟩ := hl; ⟨o, lt.top _ _ ho, q⟩)
  have hsz : 0 < ys.size := by rw [e2] at hne; simpa using hne
  refine min_intList (s := c.sh h1 tk) hR hl' hsz fun v h2 tk2 hv hk => hq _ h2 tk2 hk ?_
  obtain ⟨t, rfl⟩ := intItems_at hv
  obtain ⟨q1, q2⟩ := argBest_lt (numAt ys) (ys.size - 1)
  refine ⟨t, ?_⟩
  congr 1
  refine minL_is ?_ fun y hy => ?_
  · rw [e2, numAt_eq]; exact getD_mem (by rw [List.length_map, Array.length_toList]; omega)
  · rw [e2] at hy
    obtain ⟨j, hj, rfl⟩ := mem_getD hy
    rw [List.length_map, Array.length_toList] at hj
    rw [← numAt_eq]; exact q2 j (by omega)
theorem b_max {xs : List Int} (hR : c.A.handled = none) (hne : 0 < xs.length) {vs : List Value} (a : AllP [isL isI xs] vs h) : Pu c (call (.builtin "max") vs) h (isI (maxL xs)) := by
  obtain ⟨u, rfl, p⟩ := a.one
  obtain ⟨l, ws, rfl, hl, r⟩ := p.list
  obtain ⟨ys, e1, e2⟩ := r.ints
  refine Pu.mk fun h1 tk Q E lt hq => ?_
  have hl' : h1.IsList l (intItems ys) := e1 ▸ (let ⟨o, ho, q⟩ := hl; ⟨o, lt.top _ _ ho, q⟩)
  have hsz : 0 < ys.size := by rw [e2] at hne; simpa using hne
  refine max_intList (s := c.sh h1 tk) hR hl' hsz fun v h2 tk2 hv hk => hq _ h2 tk2 hk ?_
  obtain ⟨t, rfl⟩ := intItems_at hv
  obtain ⟨q1, q2⟩ := argBest_gt (numAt ys) (ys.size - 1)
  refine ⟨t, ?_⟩
  congr 1
  refine maxL_is ?_ fun y hy => ?_
  · rw [e2, numAt_eq]; exact getD_mem (by rw [List.length_map, Array.length_toList]; omega)
  · rw [e2] at hy
    obtain ⟨j, hj, rfl⟩ := mem_getD hy
    rw [List.length_map, Array.length_toList] at hj
    rw [← numAt_eq]; exact q2 j (by omega)
end
end Mine
end

section
-- PL8
open PySem PySem.W PyProof.Rows PySem.Spec PySem.Calls
set_option maxRecDepth 100000
namespace Mine
section
variable {c : Cx} {env : Env} {h : Heap} {P P1 P2 : VP} {pos : Pos} {K : Frag} {p : Program} {loose : List Str} {mean : ExcName → Option Value} {mg mb : Str → Option Value}
/-- the written part, but for the tables tb, which may grow -/
def InBut (K : Frag) (tb : List Addr) (h : Heap) : Prop := ∀ a o, K.lookup a = some o → tb.contains a = false → h.get? a = some o
theorem mg_ofB {K : Frag} {tb : List Addr} {h : Heap} {mg : Str → Option Value} {n : Str} {v : Value} (X : InBut K tb h) (G : h.Ns mainGlobals mg) (ht : tb.contains mainGlobals = false) (e : nsIn K mainGlobals n = some (some v)) : mg n = some v := by
  obtain ⟨o, es, ep, ho, hd, _, hf⟩ := G
  unfold nsIn at e
  split at e
  · rename_i c d es' n' sl q
    have := X _ _ q ht
    rw [ho] at this
    cases this
    cases hd
    split at e
    · rename_i en he
      cases e
      rw [← hf]
      unfold nsFind findBy
      rw [← Array.find?_toList, he]
      rfl
    · split at e <;> cases e
  · cases e
theorem mg_none_ofB {K : Frag} {tb : List Addr} {h : Heap} {mg : Str → Option Value} {n : Str} (X : InBut K tb h) (G : h.Ns mainGlobals mg) (ht : tb.contains mainGlobals = false) (e : nsIn K mainGlobals n = some none) : mg n = none := by
  obtain ⟨o, es, ep, ho, hd, _, hf⟩ := G
  unfold nsIn at e
  split at e
  · rename_i c d es' n' sl q
    have := X _ _ q ht
    rw [ho] at this
    cases this
    cases hd
    split at e
    · cases e
    · rename_i he
      rw [← hf]
      unfold nsFind findBy
      rw [← Array.find?_toList, he]
      rfl
  · cases e
/-- the program's part of a heap -/
structure Pg (K : Frag) (tb : List Addr) (mg mb : Str → Option Value) (h : Heap) : Prop where
  X : InBut K tb h
  nb : tb.contains mainGlobals = false
  g : h.Ns mainGlobals mg
  b : h.Ns builtinsNs mb
  lim : h.NoLimit
  bt : ∀ x : Str, x ≠ "__name__" → mb x = bootBuiltins x
theorem Pg.at {h' : Heap} {tb : List Addr} (g : Pg K tb mg mb h) (k : Kept h h') : Pg K tb mg mb h' := ⟨fun a o e q => k _ _ (g.X a o e q), g.nb, g.g.keeps k, g.b.keeps k, g.lim.keeps k, g.bt⟩
theorem Pg.code {tb : List Addr} (g : Pg K tb mg mb h) {c : Addr} {q : Str} (ht : tb.contains c = false) (e : codeIn K (.ref c) q = true) : h.CodeRec (.ref c) q := by
  unfold codeIn at e
  dsimp only at e
  split at e
  · rename_i vs _ ho
    split at e
    · rename_i a n t r hv
      exact ⟨_, _, vs, t, rfl, g.X _ _ ho ht, rfl, by rw [← Array.getElem?_toList, hv, ← beq_iff_eq.mp e]; rfl⟩
    · cases e
  · cases e
theorem Pg.gl {tb : List Addr} (g : Pg K tb mg mb h) {x : Str} {v : Value} (e : nsIn K mainGlobals x = some (some v)) (hg : env.globals = mainGlobals := by rfl) (hk : env.scope.kind = .function := by rfl) (hl : env.kindOf x = some .globalImplicit := by rfl)
    (hd : (x == ("__debug__" : Str)) = false := by decide) : Ev c env (.Name x pos) h (isV v) := Ev.glob (show h.Ns env.globals mg from hg ▸ g.g) (mg_ofB g.X g.g g.nb e) hk hl hd
theorem Pg.bi {tb : List Addr} (g : Pg K tb mg mb h) {x : Str} {v : Value} (e : nsIn K mainGlobals x = some none) (hv : bootBuiltins x = some v) (hn : x ≠ "__name__" := by decide) (hg : env.globals = mainGlobals := by rfl) (hb : env.builtins = builtinsNs := by rfl) (hk : env.scope.kind = .function := by rfl) (hl : env.kindOf x = some .globalImplicit := by rfl)
    (hd : (x == ("__debug__" : Str)) = false := by decide) : Ev c env (.Name x pos) h (isV v) :=
  Ev.built (show h.Ns env.globals mg from hg ▸ g.g) (mg_none_ofB g.X g.g g.nb e) (show h.Ns env.builtins mb from hb ▸ g.b) ((g.bt x hn).trans hv) hk hl hd
/-- a name of the def's own that a comprehension closes over -/
theorem Fx.varC [Mo P] {h0 h1 : Heap} {V : Vs} {scope : Scope} {cl : List (Str × Addr)} {C D a : Addr} {x : Str} {v : Value} (F : Fx c h0 env h V) (hv : V x = some v) (hp : P v (lg c h)) (k : Kept (lg c h) h1) (ha' : env.cells.lookup x = some a) (ha : (compEnvC scope cl C env).cells.lookup x = some a)
    (hk : (compEnvC scope cl C env).scope.kind = .function := by rfl) (hl : (compEnvC scope cl C env).kindOf x = some .cell := by rfl) (hd : (x == ("__debug__" : Str)) = false := by decide) : Ev (c.hide D) (compEnvC scope cl C env) (.Name x pos) h1 P := by
  obtain ⟨o, eo, hd'⟩ := hv ▸ F.cell x a ha'
  exact Ev.cell ⟨o, k _ _ (lg_get eo (F.noX (.inr ⟨x, ha'⟩))), hd'⟩ (fun h' k' => Mo.mo hp (k.trans k').stay) ha hk hl hd
theorem Ev.own [Mo P] {scope : Scope} {cl : List (Str × Addr)} {C : Addr} {m : Vs} {x : Str} {v : Value} (hn : h.Ns C m) (hv : m x = some v) (hp : P v h) (hk : (compEnvC scope cl C env).scope.kind = .function := by rfl) (hl : (compEnvC scope cl C env).kindOf x = some .local := by rfl)
    (hd : (x == ("__debug__" : Str)) = false := by decide) : Ev c (compEnvC scope cl C env) (.Name x pos) h P := Ev.loc (env := compEnvC scope cl C env) hn hv (fun h' k => Mo.mo hp k.stay) hk hl hd
theorem Ex.assignComp0 {h0 h : Heap} {V : Vs} {N : Heap → Prop} {P : VP} {rest : List Stmt} {elt iter : Expr} {x y : Str} {px py pos spos : Pos} {scope : Scope} {cl : List (Str × Addr)} {α β : Type} {R : α → VP} [∀ x, Mo (R x)] {S : β → VP} [∀ y, Mo (S y)] {xs : List α}
    (F : Fx c h0 env h V) (hh : c.A.handled = none) (hit : Ev c env iter (lg c h) (Itb c R xs)) (f : α → β)
    (elem : ∀ y u C D m h1, y ∈ xs → R y u h1 → Kept (lg c h) h1 → h1.Ns C m → m x = some u → Ev (c.hide D) (compEnvC scope cl C env) elt h1 (S (f y)))
    (hsz : xs.length ≤ sizeLine) (hclos : closureFor scope env = pure cl) (hr : ∀ v h', Fx c h0 env h' (upd V y v) → KB (Wr env) h h' → Stay (lg c h) (lg c h') → isL S (xs.map f) v (lg c h') → Ex c env h0 rest h' N P)
    (hcell : ∀ y ∈ scope.names, y.2 ≠ .cell := by decide) (hkind : scope.kind = .function := by rfl) (hnames : ∀ y ∈ scope.names, y.2 = .local → scope.names.lookup y.1 = some .local := by decide) (hx : scope.names.lookup x = some .local := by rfl) (hxs : x ≠ slotsKey := by decide)
    (hk : env.kindOf y = some .local ∨ (env.kindOf y = some .cell ∧ (env.cells.lookup y).isSome = true) := by exact own_of (by rfl))
    (hsw : swapsWith (.ListComp elt [⟨.Name x px, iter, [], 0⟩] scope pos) (some (.Name y py)) spos.line env = pure true := by with_unfolding_all rfl)
    (hs : ∀ x, foldedSetIterable iter env x = pure x := by intro _; rfl) : Ex c env h0 (.Assign [.Name y py] (.ListComp elt [⟨.Name x px, iter, [], 0⟩] scope pos) spos :: rest) h N P :=
  Ex.assignComp F hh hit (fun _ => true) f (fun _ _ _ _ _ _ _ _ _ _ _ => tests_nil) (fun y u C D m h1 hy _ => elem y u C D m h1 hy) hsz hclos (fun v h' F' kb st p => hr v h' F' kb st (by rwa [filter_tt] at p)) hcell hkind hnames hx hxs hk hsw hs
theorem ExtNew.kept {h h' : Heap} (x : Heap.ExtBut h.objs.size h h') : Kept h h' := fun b o e => x b o (Nat.ne_of_lt (Heap.lt_size e)) e
theorem Pu.toI {t : Sem Value} {x y : Int} (a : Pu c t h (isI x)) (e : x = y) : Pu c t h (isI y) := e ▸ a
end
end Mine
end

section
-- P0
open PySem PySem.W PyProof.Rows PySem.Spec PySem.Calls
set_option maxRecDepth 100000
namespace Mine
theorem upd_ne {V : Vs} {x y : Str} {v : Value} (h : y ≠ x) : upd V x v y = V y := if_neg h
theorem upd_eq {V : Vs} {x : Str} {v : Value} : upd V x v x = some v := if_pos rfl
theorem pick_take {α : Type} (xs : List α) (n : Nat) : pick xs none (some (n : Int)) none = xs.take n := by
  unfold pick sliceBounds sliceRange
  simp only [Option.getD_none, show (1 : Int) > 0 by decide, if_true]
  have e0 : ¬ ((n : Int) < 0) := by omega
  simp only [e0, if_false]
  have e1 : max 0 (min (n : Int) (xs.length : Int)) = ((min n xs.length : Nat) : Int) := by omega
  rw [e1]
  have e2 : (if (0 : Int) < ((min n xs.length : Nat) : Int) then (((min n xs.length : Nat) : Int) - 0 + 1 - 1) / 1 else 0).toNat = min n xs.length := by
    rw [Int.ediv_one]; split <;> omega
  rw [e2]
  have e3 : (fun k : Nat => (0 + 1 * (k : Int)).toNat) = id := by funext k; simp
  rw [e3, List.map_id]
  refine List.ext_getElem? fun i => ?_
  have e4 : (List.range (min n xs.length)).filterMap (xs[·]?) = xs.take n := by
    have : ∀ m, m ≤ xs.length → (List.range m).filterMap (xs[·]?) = xs.take m := by
      intro m
      induction m with
      | zero => intro _; simp
      | succ m ih =>
        intro hm
        rw [List.range_succ, List.filterMap_append, ih (by omega), List.take_add_one]
        simp [List.getElem?_eq_getElem (show m < xs.length by omega)]
    rw [this _ (Nat.min_le_right _ _)]
    rcases Nat.le_total n xs.length with q | q
    · rw [Nat.min_eq_left q]
    · rw [Nat.min_eq_right q, List.take_of_length_le (Nat.le_refl _), List.take_of_length_le q]
  rw [e4]
theorem filterMap_drop {α : Type} (xs : List α) (n : Nat) : ((List.range (xs.length - n)).map fun k => n + k).filterMap (xs[·]?) = xs.drop n := by
  have : ∀ m, m ≤ xs.length - n → ((List.range m).map fun k => n + k).filterMap (xs[·]?) = (xs.drop n).take m := by
    intro m
    induction m with
    | zero => intro _; simp
    | succ m ih =>
      intro hm
      rw [List.range_succ, List.map_append, List.filterMap_append, ih (by omega), List.take_add_one]
      simp [List.getElem?_eq_getElem (show n + m < xs.length by omega)]
  rw [this _ (Nat.le_refl _), List.take_of_length_le (by rw [List.length_drop]; exact Nat.le_refl _)]
theorem pick_drop {α : Type} (xs : List α) (n : Nat) : pick xs (some (n : Int)) none none = xs.drop n := by
  unfold pick sliceBounds sliceRange
  simp only [Option.getD_none, show (1 : Int) > 0 by decide, if_true]
  have e0 : ¬ ((n : Int) < 0) := by omega
  simp only [e0, if_false]
  have e1 : max 0 (min (n : Int) (xs.length : Int)) = ((min n xs.length : Nat) : Int) := by omega
  rw [e1]
  have e2 : (if ((min n xs.length : Nat) : Int) < (xs.length : Int) then ((xs.length : Int) - ((min n xs.length : Nat) : Int) + 1 - 1) / 1 else 0).toNat = xs.length - n := by
    rw [Int.ediv_one]; split <;> omega
  rw [e2]
  rcases Nat.lt_or_ge n xs.length with q | q
  · have e3 : (fun k : Nat => (((min n xs.length : Nat) : Int) + 1 * (k : Int)).toNat) = fun k => n + k := by funext k; omega
    rw [e3]; exact filterMap_drop xs n
  · rw [show xs.length - n = 0 by omega, List.drop_eq_nil_of_le q]; rfl
theorem pick_rev {α : Type} (xs : List α) : pick xs none none (some (-1)) = xs.reverse := by
  unfold pick sliceBounds sliceRange
  simp only [Option.getD_some, show ¬ ((-1 : Int) > 0) by decide, if_false]
  have e2 : (if (xs.length : Int) - 1 > -1 then ((xs.length : Int) - 1 - -1 - -1 - 1) / (- -1) else 0).toNat = xs.length := by
    rw [show (- -1 : Int) = 1 by decide, Int.ediv_one]; split <;> omega
  rw [e2]
  have : ∀ m, m ≤ xs.length → ((List.range m).map fun k : Nat => ((xs.length : Int) - 1 + -1 * (k : Int)).toNat).filterMap (xs[·]?) = xs.reverse.take m := by
    intro m
    induction m with
    | zero => intro _; simp
    | succ m ih =>
      intro hm
      rw [List.range_succ, List.map_append, List.filterMap_append, ih (by omega), List.take_add_one]
      congr 1
      have e3 : ((xs.length : Int) - 1 + -1 * (m : Int)).toNat = xs.length - 1 - m := by omega
      simp only [List.map_cons, List.map_nil, e3]
      rw [List.getElem?_reverse (by omega)]
      simp [List.getElem?_eq_getElem (show xs.length - 1 - m < xs.length by omega)]
  rw [this _ (Nat.le_refl _), List.take_of_length_le (by simp)]
theorem Pu.toL {c : Cx} {t : Sem Value} {h : Heap} {α : Type} {R : α → VP} {xs ys : List α} (a : Pu c t h (isL R xs)) (e : xs = ys) : Pu c t h (isL R ys) := e ▸ a
end Mine
end

section
-- PL9
open PySem PySem.W PyProof.Rows PySem.Spec PySem.Calls
set_option maxRecDepth 100000
namespace Mine
theorem compTurn_in (elt iter : Expr) (g : Comprehension) (y : Str) (py : Pos) (scope : Scope) (pos : Pos) (it acc : Value) (env : Env) :
    compTurn (.ListComp elt [g, ⟨.Name y py, iter, [], 0⟩] scope pos) 1 it acc env = (standAt iter.pos >>= fun _ => pyNext it >>= fun r => match r with
      | none => pure (.done .next)
      | some v => letOwnedTupleGo (.Name y py) it v >>= fun _ => assign (.Name y py) env v >>= fun _ =>
        (eval elt env >>= fun x => call (.builtin "list.append") [acc, x] >>= fun _ => pure ()) >>= fun _ =>
          again (.compLoop (.ListComp elt [g, ⟨.Name y py, iter, [], 0⟩] scope pos) 1 it acc env)) := by rfl
theorem compTurn_out (elt iter iter2 : Expr) (x y : Str) (px py : Pos) (scope : Scope) (pos : Pos) (it acc : Value) (env : Env) :
    compTurn (.ListComp elt [⟨.Name x px, iter, [], 0⟩, ⟨.Name y py, iter2, [], 0⟩] scope pos) 0 it acc env = (standAt iter.pos >>= fun _ => pyNext it >>= fun r => match r with
      | none => pure (.done .next)
      | some v => letOwnedTupleGo (.Name x px) it v >>= fun _ => assign (.Name x px) env v >>= fun _ =>
        eval iter2 env >>= fun z => standAt iter2.pos >>= fun _ => foldedSetIterable iter2 env z >>= fun z => holding [z] (pyIter z) >>= fun it2 =>
          runOwn (.compStart (.ListComp elt [⟨.Name x px, iter, [], 0⟩, ⟨.Name y py, iter2, [], 0⟩] scope pos) 1 it2 acc env) env >>= fun _ =>
          again (.compLoop (.ListComp elt [⟨.Name x px, iter, [], 0⟩, ⟨.Name y py, iter2, [], 0⟩] scope pos) 0 it acc env)) := by rfl
section
variable {prog : Program} {w : World} {A : Around} {E : Value → Shared → Prop} {R : Result → Shared → Prop} {s : Shared}
theorem codeAny_in {elt iter : Expr} {g : Comprehension} {y : Str} {py : Pos} {scope : Scope} {pos : Pos} {it acc : Value} {env : Env} (I : Nat → Shared → Prop)
    (turn : ∀ n s, I n s → wpAny (model prog w) A (pyNext it) (fun r s₁ => match r with
      | none => R (.ok .next) s₁
      | some v => wpAny (model prog w) A (assign (.Name y py) env v) (fun _ s₂ => wpAny (model prog w) A (eval elt env) (fun x s₃ =>
          wpAny (model prog w) A (call (.builtin "list.append") [acc, x]) (fun _ s₄ => ∃ m, m < n ∧ I m s₄) (notedBy (model prog w) A env fun e s' => R (.error e) s') s₃)
          (notedBy (model prog w) A env fun e s' => R (.error e) s') s₂) (notedBy (model prog w) A env fun e s' => R (.error e) s') s₁) (notedBy (model prog w) A env fun e s' => R (.error e) s') s)
    (n : Nat) (h : I n s) (ht : ∀ v, letOwnedTupleGo (.Name y py) it v = pure () := by intro _; rfl) :
    codeAny (model prog w) A (.compLoop (.ListComp elt [g, ⟨.Name y py, iter, [], 0⟩] scope pos) 1 it acc env) R s := by
  refine codeAny_loop rfl I (fun n s hI => ?_) n h
  show wpAny _ _ ((compTurn (.ListComp elt [g, ⟨.Name y py, iter, [], 0⟩] scope pos) 1 it acc env).onRaise (fun x => do noteFrame x env; theTreesLotGoes x)) _ _ s
  refine wpAny_noted ?_
  rw [compTurn_in]
  refine wpAny_bind (wpAny_standAt (wpAny_bind (wpAny_mono (turn n s hI) (fun r s₁ h₁ => ?_) fun _ _ h' => h')))
  cases r with
  | none => exact wpAny_pure h₁
  | some v =>
    refine wpAny_bind (wpAny_of_eq (ht v) ?_)
    exact wpAny_bind (wpAny_mono h₁ (fun _ s₂ h₂ => wpAny_bind (wpAny_bind (wpAny_mono h₂ (fun x s₃ h₃ => wpAny_bind (wpAny_mono h₃
      (fun _ s₄ h₄ => wpAny_pure (wpAny_pure ⟨rfl, h₄⟩)) fun _ _ h' => h')) fun _ _ h' => h'))) fun _ _ h' => h')
theorem codeAny_inStart {elt iter : Expr} {g : Comprehension} {y : Str} {py : Pos} {scope : Scope} {pos : Pos} {it acc : Value} {env : Env}
    (h0 : codeAny (model prog w) A (.compLoop (.ListComp elt [g, ⟨.Name y py, iter, [], 0⟩] scope pos) 1 it acc env) R s)
    (h : wpAny (model prog w) A (pyIter it) (fun it' s' => codeAny (model prog w) A (.compLoop (.ListComp elt [g, ⟨.Name y py, iter, [], 0⟩] scope pos) 1 it' acc env) R s')
      (notedBy (model prog w) A env fun x s' => R (.error x) s') s) :
    codeAny (model prog w) A (.compStart (.ListComp elt [g, ⟨.Name y py, iter, [], 0⟩] scope pos) 1 it acc env) R s := by
  refine codeAny_of_tree ?_
  show wpAny _ _ ((compStart (.ListComp elt [g, ⟨.Name y py, iter, [], 0⟩] scope pos) 1 it acc env).onRaise (fun x => do noteFrame x env; standAt theWindowsPlace)) _ _ s
  refine wpAny_notedAt ?_
  unfold compStart
  show wpAny _ _ (ask >>= _) _ _ s
  refine wpAny_bind (wpAny_askSetting (wpAny_ite ?_))
  split
  · first
      | exact wpAny_bind (wpAny_pure (wpAny_pure (And.intro rfl h0)))
      | exact wpAny_pure (And.intro rfl h0)
  · first
      | exact wpAny_bind (wpAny_rule (wpAny_bind (wpAny_standAt (wpAny_bind (wpAny_mono h (fun it' s' h' => wpAny_pure (And.intro rfl h')) fun _ _ x => x)))))
      | (refine wpAny_bind (wpAny_rule ?_); show wpAny _ _ (standAt iter.pos >>= _) _ _ s; exact wpAny_bind (wpAny_standAt (wpAny_bind (wpAny_mono h (fun it' s' h' => wpAny_pure (And.intro rfl h')) fun _ _ x => x))))
theorem codeAny_out {elt iter iter2 : Expr} {x y : Str} {px py : Pos} {scope : Scope} {pos : Pos} {it acc : Value} {env : Env} (I : Nat → Shared → Prop)
    (turn : ∀ n s, I n s → wpAny (model prog w) A (pyNext it) (fun r s₁ => match r with
      | none => R (.ok .next) s₁
      | some v => wpAny (model prog w) A (assign (.Name x px) env v) (fun _ s₂ => wpAny (model prog w) A (eval iter2 env) (fun z s₃ =>
          wpAny (model prog w) A (pyIter z) (fun it2 s₄ => codeAny (model prog w) A (.compStart (.ListComp elt [⟨.Name x px, iter, [], 0⟩, ⟨.Name y py, iter2, [], 0⟩] scope pos) 1 it2 acc env)
            (fun r s₅ => match r with | .ok _ => ∃ m, m < n ∧ I m s₅ | .error e => cameBackBy (model prog w) A env (notedBy (model prog w) A env fun e s' => R (.error e) s') e s₅) s₄)
          (notedBy (model prog w) A env fun e s' => R (.error e) s') s₃)
          (notedBy (model prog w) A env fun e s' => R (.error e) s') s₂) (notedBy (model prog w) A env fun e s' => R (.error e) s') s₁) (notedBy (model prog w) A env fun e s' => R (.error e) s') s)
    (n : Nat) (h : I n s) (ht : ∀ v, letOwnedTupleGo (.Name x px) it v = pure () := by intro _; rfl) (hf : ∀ z, foldedSetIterable iter2 env z = pure z := by intro _; rfl) :
    codeAny (model prog w) A (.compLoop (.ListComp elt [⟨.Name x px, iter, [], 0⟩, ⟨.Name y py, iter2, [], 0⟩] scope pos) 0 it acc env) R s := by
  refine codeAny_loop rfl I (fun n s hI => ?_) n h
  show wpAny _ _ ((compTurn (.ListComp elt [⟨.Name x px, iter, [], 0⟩, ⟨.Name y py, iter2, [], 0⟩] scope pos) 0 it acc env).onRaise (fun x => do noteFrame x env; theTreesLotGoes x)) _ _ s
  refine wpAny_noted ?_
  rw [compTurn_out]
  refine wpAny_bind (wpAny_standAt (wpAny_bind (wpAny_mono (turn n s hI) (fun r s₁ h₁ => ?_) fun _ _ h' => h')))
  cases r with
  | none => exact wpAny_pure h₁
  | some v =>
    refine wpAny_bind (wpAny_of_eq (ht v) ?_)
    refine wpAny_bind (wpAny_mono h₁ (fun _ s₂ h₂ => wpAny_bind (wpAny_mono h₂ (fun z s₃ h₃ => wpAny_bind (wpAny_standAt (wpAny_bind (wpAny_of_eq (hf z) (wpAny_bind (wpAny_holding (wpAny_mono h₃ (fun it2 s₄ h₄ => ?_) fun _ _ h' => h'))))))) fun _ _ h' => h')) fun _ _ h' => h')
    refine wpAny_bind (wpAny_runOwn (codeAny_mono h₄ fun r s₅ h₅ => ?_))
    cases r with
    | ok f => exact wpAny_pure ⟨rfl, h₅⟩
    | error e => exact h₅
end
section
variable {c : Cx} {env : Env}
theorem Are.cst {γ : Type} {S : γ → VP} [∀ y, Mo (S y)] {ys : List γ} {vs : List Value} {h h' : Heap} (a : Are S ys vs h) (q : Cst h h') : Are S ys vs h' := a.stay q.stay
theorem comp2_inner {elt iter2 : Expr} {g : Comprehension} {y : Str} {py pos : Pos} {scope : Scope} {cl : List (Str × Addr)} {β γ : Type} {T : β → VP} [∀ x, Mo (T x)] {S : γ → VP} [∀ y, Mo (S y)] {bs : List β} {ys0 : List γ} {vs0 : List Value} {m : Vs} {C D : Addr}
    {hv ha : Heap} {I : Addr} {fp : List Addr} {Pi : Nat → Value → Prop} {St : Nat → Heap → Prop} {tka : Nat} {RR : Result → Shared → Prop}
    (k : Wk (c.hide D) c.A T bs hv I ha fp Pi St) (hC : hv.Ns C m) (hms : m slotsKey = none) (hD : hv.get? D = some (lst vs0)) (hX : ∀ z ∈ c.X, ∃ o, hv.get? z = some o) (hXC : C ∉ c.X)
    (hkind : scope.kind = .function) (hy : scope.names.lookup y = some .local) (hys : y ≠ slotsKey) (hDC : C ≠ D) (hsz : ys0.length + bs.length ≤ sizeLine) (ar0 : Are S ys0 vs0 (lg (c.hide D) hv)) (f : β → γ)
    (elem : ∀ b v h1 m1, b ∈ bs → T b v (lg (c.hide D) h1) → (∀ p o, hv.get? p = some o → p ≠ C → p ≠ D → h1.get? p = some o) → h1.Ns C m1 → (∀ z, z ≠ y → m1 z = m z) → m1 y = some v → Lt (c.hide D) (lg (c.hide D) h1) h1 → Pu (c.hide D) (eval elt (compEnvC scope cl C env)) (lg (c.hide D) h1) (S (f b)))
    (fin : ∀ h' tk' m1 vs', (∀ p o, hv.get? p = some o → p ≠ C → p ≠ D → h'.get? p = some o) → h'.Ns C m1 → (∀ z, z ≠ y → m1 z = m z) → h'.get? D = some (lst vs') → Are S (ys0 ++ bs.map f) vs' (lg (c.hide D) h') → RR (.ok .next) (c.sh h' tk')) :
    codeAny c.M c.A (.compStart (.ListComp elt [g, ⟨.Name y py, iter2, [], 0⟩] scope pos) 1 (.ref I) (.ref D) (compEnvC scope cl C env)) RR (c.sh ha tka) := by
  have hIn : hv.get? I = none := k.new
  have hCI : C ≠ I := fun q => by obtain ⟨o, _, _, e, _⟩ := hC; rw [q, hIn] at e; cases e
  have hDI : D ≠ I := fun q => by rw [q, hIn] at hD; cases hD
  have fpn : ∀ b ∈ fp, b ≠ I → b ≠ C ∧ b ≠ D := fun b hb hne => by
    obtain ⟨o, e, hp⟩ := k.fpo b hb hne
    refine ⟨fun q => ?_, fun q => lg_not e (q ▸ List.mem_cons_self)⟩
    obtain ⟨oc, _, _, ec, hd, _⟩ := hC
    have := lg_sub _ _ e
    rw [q, ec] at this; cases this; rw [hd] at hp; cases hp
  have loop : ∀ tk0, codeAny c.M c.A (.compLoop (.ListComp elt [g, ⟨.Name y py, iter2, [], 0⟩] scope pos) 1 (.ref I) (.ref D) (compEnvC scope cl C env)) RR (c.sh ha tk0) := by
    intro tk0
    refine codeAny_in (fun n s' => ∃ i h1 tk1 m1 vs, s' = c.sh h1 tk1 ∧ i ≤ bs.length ∧ n = bs.length + 1 - i ∧ St i h1 ∧ (∀ p o, hv.get? p = some o → p ≠ C → p ≠ D → h1.get? p = some o) ∧ h1.Ns C m1 ∧ (∀ z, z ≠ y → m1 z = m z) ∧ h1.get? D = some (lst vs) ∧ Are S (ys0 ++ (bs.take i).map f) vs (lg (c.hide D) h1)) ?_ (bs.length + 1)
      ⟨0, ha, tk0, m, vs0, rfl, Nat.zero_le _, rfl, k.st, fun p o e _ _ => k.kept _ _ e, hC.keeps k.kept, fun _ _ => rfl, k.kept _ _ hD, by simpa using ar0.stay k.kept.lg.stay⟩
    rintro n s ⟨i, h1, tk1, m1, vs, rfl, hi, rfl, hst, ko, hn, hm1, hD1, ar⟩
    obtain ⟨oI, eI, sI⟩ := k.obj i h1 hst
    by_cases hlt : i < bs.length
    · refine k.W.item i (c.sh h1 tk1) _ _ hlt hst fun u h2 tk2 hP hst2 hk2 => ?_
      have hk2' : ∀ b o, b ≠ I → h1.get? b = some o → h2.get? b = some o := fun b o q e => hk2 b o (by simpa using q) e
      have hn2 : h2.Ns C m1 := hn.at' fun o e => hk2' C o hCI e
      refine wpAny_assign_Name (wpAny_storeName_local (s := c.sh h2 tk2) (lookup_relabel_local hy) hn2 (fun h3 hn3 hs3 => ?_) (by simp [compEnvC, relabel, hkind]))
      have hm1s : m1 slotsKey = none := (hm1 _ (Ne.symm hys)).trans hms
      obtain ⟨oC, eC, wC⟩ := ns_weak hn2 hm1s
      have c12 : Cst2 h1 h2 := cst_but eI sI.weak2 hk2'
      have c23 : Cst2 h2 h3 := cst_but eC wC fun b o q e => hs3.extBut b o q e
      have c13 := (c12.trans c23).lg (c := c.hide D)
      have ko3 : ∀ p o, hv.get? p = some o → p ≠ C → p ≠ D → h3.get? p = some o := fun p o e n1 n2 => hs3.extBut p o n1 (hk2' p o (fun q => by rw [q, hIn] at e; cases e) (ko p o e n1 n2))
      have hD3 : h3.get? D = some (lst vs) := hs3.extBut D _ (fun q => hDC (by
        have q' : D = C := q
        exact q'.symm)) (hk2' D _ hDI hD1)
      have hst3 : St (i + 1) h3 := k.W.frame _ _ _ hst2 fun b hb o e => hs3.extBut b o (fun q => by
        have q' : b = C := q
        by_cases hbI : b = I
        · exact hCI (q'.symm.trans hbI)
        · exact (fpn b hb hbI).1 q') e
      obtain ⟨b, hb⟩ : ∃ b, bs[i]? = some b := ⟨bs[i], List.getElem?_eq_getElem hlt⟩
      have hT : T b u (lg (c.hide D) h3) := Mo.mo (k.it i u b hP hb) fun q o e pl => lg_get (ko3 q o (lg_sub _ _ e) (fun z => by
        obtain ⟨oc, _, _, ec, hd, _⟩ := hC
        have := lg_sub _ _ e
        rw [z, ec] at this; cases this; rw [hd] at pl; cases pl) (fun z => lg_not e (z ▸ List.mem_cons_self))) (lg_not e)
      have lt3 : Lt (c.hide D) (lg (c.hide D) h3) h3 := ⟨Kept.refl _, fun z hz => by
        rcases List.mem_cons.mp hz with rfl | hz
        · exact ⟨_, hD3⟩
        · obtain ⟨o, e⟩ := hX z hz
          by_cases q : z = D
          · exact ⟨_, q ▸ hD3⟩
          · exact ⟨o, ko3 z o e (fun q => hXC (q ▸ hz)) q⟩⟩
      refine elem b u h3 _ (List.mem_of_getElem? hb) hT ko3 hn3 (fun z hz => by show (if z = y then some u else m1 z) = m z; rw [if_neg hz]; exact hm1 z hz) (by simp) lt3 h3 _ _ _ lt3 fun v h4 tk4 k4 s4 => ?_
      have hD4 := k4 _ _ hD3
      have htk : bs.take (i + 1) = bs.take i ++ [b] := by rw [List.take_add_one, hb]; rfl
      have hvl : vs.length ≤ sizeLine := by
        rw [ar.len, List.length_append, List.length_map, List.length_take]
        omega
      refine append_at (s := c.sh h4 tk4) (hsz := by show vs.toArray.size ≤ sizeLine; rw [List.size_toArray]; exact hvl) hD4 fun h5 hs5 hD5 => ?_
      have kl : Kept (lg (c.hide D) h4) (lg (c.hide D) h5) := lg_hide hs5
      refine ⟨bs.length + 1 - (i + 1), by omega, i + 1, h5, tk4, fun z => if z = y then some u else m1 z, vs ++ [v], rfl, hlt, rfl, ?_, ?_, ?_, ?_, ?_, ?_⟩
      · refine k.W.frame _ _ _ (k.W.frame _ _ _ hst3 fun b _ o e => k4 b o e) fun b hb o e => hs5.extBut b o (fun q => ?_) e
        have q' : b = D := q
        by_cases hbI : b = I
        · exact hDI (q'.symm.trans hbI)
        · exact (fpn b hb hbI).2 q'
      · exact fun p o e n1 n2 => hs5.extBut p o n2 (k4 p o (ko3 p o e n1 n2))
      · exact (hn3.keeps k4).sameBut hs5 (by
          intro q
          have q' : C = D := q
          exact hDC q')
      · exact fun z hz => by show (if z = y then some u else m1 z) = m z; rw [if_neg hz]; exact hm1 z hz
      · rw [hD5]
        show some _ = some _
        congr 1
        show ({ cls := .type "list", data := .seq (vs.toArray.push v) (vs.length + 1) } : Obj) = { cls := .type "list", data := .seq (vs ++ [v]).toArray (vs ++ [v]).length }
        rw [List.length_append, List.length_singleton, List.push_toArray]
      · rw [htk, List.map_append, ← List.append_assoc]
        exact (((ar.cst c13.cst).stay k4.lg.stay).stay kl.stay).snoc (Mo.mo s4 kl.stay)
    · obtain rfl : i = bs.length := Nat.le_antisymm hi (Nat.not_lt.mp hlt)
      refine k.W.done (c.sh h1 tk1) _ _ hst fun h2 tk2 hk2 => ?_
      have hk2' : ∀ b o, b ≠ I → h1.get? b = some o → h2.get? b = some o := fun b o q e => hk2 b o (by simpa using q) e
      have c12 : Cst2 (lg (c.hide D) h1) (lg (c.hide D) h2) := (cst_but eI sI.weak2 hk2').lg
      rw [List.take_length] at ar
      exact fin h2 tk2 m1 vs (fun p o e n1 n2 => hk2' p o (fun q => by rw [q, hIn] at e; cases e) (ko p o e n1 n2)) (hn.at' fun o e => hk2' C o hCI e) hm1 (hk2' D _ hDI hD1) (ar.cst c12.cst)
  exact codeAny_inStart (loop tka) (k.W.self 0 _ _ _ k.st (loop tka))
theorem comp2_any {elt iter iter2 : Expr} {x y : Str} {px py pos : Pos} {scope : Scope} {cl : List (Str × Addr)} {α β γ : Type} {R : α → VP} [∀ x, Mo (R x)] {T : β → VP} [∀ x, Mo (T x)] {S : γ → VP} [∀ y, Mo (S y)] {xs : List α} {h h1 : Heap} {tk : Nat} {Q : Value → Shared → Prop} {E : Value → Shared → Prop}
    (hh : c.A.handled = none) (hit : Ev c env iter h (Itb c R xs)) (inner : α → List β) (f : α → β → γ)
    (hit2 : ∀ a u C D m h1, a ∈ xs → R a u h1 → Kept h h1 → h1.Ns C m → m x = some u → Ev (c.hide D) (compEnvC scope cl C env) iter2 h1 (Itb (c.hide D) T (inner a)))
    (elem : ∀ a b u v C D m h1, a ∈ xs → b ∈ inner a → R a u h1 → T b v h1 → Kept h h1 → h1.Ns C m → m x = some u → m y = some v → Ev (c.hide D) (compEnvC scope cl C env) elt h1 (S (f a b)))
    (hclos : closureFor scope env = pure cl) (hcell : ∀ y ∈ scope.names, y.2 ≠ .cell) (hkind : scope.kind = .function) (hnames : ∀ y ∈ scope.names, y.2 = .local → scope.names.lookup y.1 = some .local) (hx : scope.names.lookup x = some .local) (hy : scope.names.lookup y = some .local) (hxs : x ≠ slotsKey) (hys : y ≠ slotsKey) (hxy : x ≠ y)
    (hsz : (xs.flatMap fun a => (inner a).map (f a)).length ≤ sizeLine)
    (hs : ∀ x, foldedSetIterable iter env x = pure x) (hs2 : ∀ C x, foldedSetIterable iter2 (compEnvC scope cl C env) x = pure x) (l : Lt c h h1) (use : Option (Value → Sem Unit))
    (fin : ∀ D C h2 tk2 m, Kept h1 h2 → isL S (xs.flatMap fun a => (inner a).map (f a)) (.ref D) (lg c h2) → h1.get? C = none → h2.Ns C m → m slotsKey = none → compPost c.M c.A E use Q (.ref D) C (.ok .next) (c.sh h2 tk2)) :
    wpAny c.M c.A (comprehension (.ListComp elt [⟨.Name x px, iter, [], 0⟩, ⟨.Name y py, iter2, [], 0⟩] scope pos) scope env (firstIterPos [⟨.Name x px, iter, [], 0⟩, ⟨.Name y py, iter2, [], 0⟩] pos) (newList []) false (eval iter env) use) Q E (c.sh h1 tk) := by
  refine wpAny_comprehension_free (use := use) rfl hs hclos hkind hnames (hit h1 tk _ E l fun xv hv tkv kv itb => ?_)
  have lv := l.trans kv
  refine itb (c.sh hv tkv) c.A _ E hh lv.lg fun I ha fp Pi St k => ?_
  have hIn : hv.get? I = none := k.new
  refine wpAny_newObj_type (wpAny_newFunctionEnv hcell (by intro y hy; simp at hy) (fun h₁ hns₁ hsb₁ => ?_) hkind)
  dsimp only at hns₁ hsb₁ ⊢
  generalize hH2 : ha.push { cls := .type "list", dict := none, data := .seq ([] : List Value).toArray } = H2 at hns₁ hsb₁ ⊢
  have hCn : H2.objs.size = ha.objs.size + 1 := by rw [← hH2, Heap.size_push]
  have kpush : Kept ha H2 := hH2 ▸ Kept.push _ _
  have hnoC : H2.get? H2.objs.size = none := Heap.get?_none_of_le (Nat.le_refl _)
  have hnoD : ha.get? ha.objs.size = none := Heap.get?_none_of_le (Nat.le_refl _)
  have k01 : Kept ha h₁ := fun b o e => hsb₁.extBut b o (fun q => by have := kpush b o e; rw [q, hnoC] at this; cases this) (Heap.get?_push_of_some _ (kpush b o e))
  have hDC : H2.objs.size ≠ ha.objs.size := by rw [hCn]; exact Nat.ne_of_gt (Nat.lt_succ_self _)
  generalize hDe : ha.objs.size = D at *
  generalize hCe : H2.objs.size = C at *
  have hD0 : h₁.get? D = some (lst []) := hsb₁.extBut _ _ (Ne.symm hDC) (Heap.get?_push_of_some _ (by rw [← hH2, ← hDe]; exact Heap.get?_push_size _ rfl))
  have hDs : hv.get? D = none := by
    cases q : hv.get? D with
    | none => rfl
    | some o => have := k.kept _ _ q; rw [hnoD] at this; cases this
  have hCs : hv.get? C = none := by
    cases q : hv.get? C with
    | none => rfl
    | some o => have := kpush _ _ (k.kept _ _ q); rw [hnoC] at this; cases this
  have hDI : D ≠ I := fun q => by obtain ⟨o, e, _⟩ := k.obj 0 _ k.st; rw [← q, hnoD] at e; cases e
  have hCI : C ≠ I := fun q => by obtain ⟨o, e, _⟩ := k.obj 0 _ k.st; have := kpush _ _ e; rw [← q, hnoC] at this; cases this
  have hXC : C ∉ c.X := fun q => by obtain ⟨o', e'⟩ := lv.old C q; rw [hCs] at e'; cases e'
  have hXD : D ∉ c.X := fun q => by obtain ⟨o', e'⟩ := lv.old D q; rw [hDs] at e'; cases e'
  have fpn : ∀ b ∈ fp, b ≠ I → b ≠ C ∧ b ≠ D := fun b hb hne => by
    obtain ⟨o, e, hp⟩ := k.fpo b hb hne
    have e := lg_sub _ _ e
    exact ⟨fun q => (by rw [q, hCs] at e; cases e), fun q => (by rw [q, hDs] at e; cases e)⟩
  have base : ∀ {h' : Heap}, Kept hv h' → Kept h (lg (c.hide D) h') := fun kk b o e => lg_get (kk _ _ (lg_sub _ _ (lv.keep b o e))) fun q => by
    rcases List.mem_cons.mp q with rfl | q
    · have := lg_sub _ _ (lv.keep b o e); rw [hDs] at this; cases this
    · exact lg_not (lv.keep b o e) q
  have ltD : ∀ {h' : Heap}, Kept hv h' → (∃ o, h'.get? D = some o) → Lt (c.hide D) (lg (c.hide D) h') h' := fun kk hd => ⟨Kept.refl _, fun y hy => by
    rcases List.mem_cons.mp hy with rfl | hy
    · exact hd
    · obtain ⟨o, e⟩ := lv.old y hy; exact ⟨o, kk _ _ e⟩⟩
  have nsl : ∀ {h' : Heap} {m : Vs}, h'.Ns C m → (lg (c.hide D) h').Ns C m := fun hn => hn.at' fun o e => lg_get e fun q => by
    rcases List.mem_cons.mp q with q | q
    · exact hDC q
    · exact hXC q
  have loop : ∀ tk0, codeAny c.M c.A (.compLoop (.ListComp elt [⟨.Name x px, iter, [], 0⟩, ⟨.Name y py, iter2, [], 0⟩] scope pos) 0 (.ref I) (.ref D) (compEnvC scope cl C env)) (compPost c.M c.A E use Q (.ref D) C) (c.sh h₁ tk0) := by
    intro tk0
    refine codeAny_out (fun n s' => ∃ i h1 tk1 m vs, s' = c.sh h1 tk1 ∧ i ≤ xs.length ∧ n = xs.length + 1 - i ∧ St i h1 ∧ Kept hv h1 ∧ h1.Ns C m ∧ m slotsKey = none ∧ h1.get? D = some (lst vs) ∧ Are S ((xs.take i).flatMap fun a => (inner a).map (f a)) vs (lg (c.hide D) h1)) ?_ (xs.length + 1)
      ⟨0, h₁, tk0, _, [], rfl, Nat.zero_le _, rfl, k.W.frame _ _ _ k.st fun b _ o e => k01 b o e, k.kept.trans k01, hns₁, rfl, hD0, by simpa using Are.nil⟩ (fun v => rfl) (hs2 C)
    rintro n s ⟨i, g1, tk1, m, vs, rfl, hi, rfl, hst, kg, hn, hms, hD1, ar⟩
    obtain ⟨oI, eI, sI⟩ := k.obj i g1 hst
    by_cases hlt : i < xs.length
    · refine k.W.item i (c.sh g1 tk1) _ _ hlt hst fun u g2 tk2 hP hst2 hk2 => ?_
      have hk2' : ∀ b o, b ≠ I → g1.get? b = some o → g2.get? b = some o := fun b o q e => hk2 b o (by simpa using q) e
      have hn2 : g2.Ns C m := hn.at' fun o e => hk2' C o hCI e
      refine wpAny_assign_Name (wpAny_storeName_local (s := c.sh g2 tk2) (lookup_relabel_local hx) hn2 (fun g3 hn3 hs3 => ?_) (by simp [compEnvC, relabel, hkind]))
      obtain ⟨oC, eC, wC⟩ := ns_weak hn2 hms
      have c12 : Cst2 g1 g2 := cst_but eI sI.weak2 hk2'
      have c23 : Cst2 g2 g3 := cst_but eC wC fun b o q e => hs3.extBut b o q e
      have c13 := (c12.trans c23).lg (c := c.hide D)
      have k3 : Kept hv g3 := fun b o e => hs3.extBut b o (fun q => by
        have q' : b = C := q
        rw [q', hCs] at e; cases e) (hk2' b o (fun q => by rw [q, hIn] at e; cases e) (kg b o e))
      have hD3 : g3.get? D = some (lst vs) := hs3.extBut D _ (fun q => hDC (by
        have q' : D = C := q
        exact q'.symm)) (hk2' D _ hDI hD1)
      have hst3 : St (i + 1) g3 := k.W.frame _ _ _ hst2 fun b hb o e => hs3.extBut b o (fun q => by
        have q' : b = C := q
        by_cases hbI : b = I
        · exact hCI (q'.symm.trans hbI)
        · exact (fpn b hb hbI).1 q') e
      obtain ⟨a, ha'⟩ : ∃ a, xs[i]? = some a := ⟨xs[i], List.getElem?_eq_getElem hlt⟩
      have ham := List.mem_of_getElem? ha'
      have hR : R a u (lg (c.hide D) g3) := Mo.mo (k.it i u a hP ha') fun b o e pl => lg_get (k3 b o (lg_sub _ _ e)) fun q => by
        rcases List.mem_cons.mp q with rfl | q
        · have := lg_sub _ _ e; rw [hDs] at this; cases this
        · exact lg_not e q
      have hmx : (fun z => if z = x then some u else m z) x = some u := by simp
      have hms3 : (fun z => if z = x then some u else m z) slotsKey = none := by
        show (if slotsKey = x then some u else m slotsKey) = none
        rw [if_neg (fun q => hxs q.symm)]; exact hms
      have htk : xs.take (i + 1) = xs.take i ++ [a] := by rw [List.take_add_one, ha']; rfl
      have hpre : ((xs.take (i + 1)).flatMap fun a => (inner a).map (f a)).length ≤ sizeLine := by
        refine Nat.le_trans ?_ hsz
        have e1 : xs = xs.take (i + 1) ++ xs.drop (i + 1) := (List.take_append_drop _ _).symm
        conv => rhs; rw [e1]
        rw [List.flatMap_append, List.length_append]; exact Nat.le_add_right _ _
      rw [htk, List.flatMap_append, List.flatMap_singleton, List.length_append, List.length_map] at hpre
      refine hit2 a u C D _ _ ham hR (base k3) (nsl hn3) hmx g3 _ _ _ (ltD k3 ⟨_, hD3⟩) fun z g4 tk4 k4 itb2 => ?_
      refine itb2 (c.sh g4 tk4) c.A _ _ hh ((ltD k3 ⟨_, hD3⟩).trans k4).lg fun I2 ga fp2 P2 St2 w2 => ?_
      have k34 : Kept hv g4 := k3.trans k4
      have ar4 := (ar.cst c13.cst).stay k4.lg.stay
      refine comp2_inner (S := S) (c := c) (m := fun z => if z = x then some u else m z) w2 (hn3.keeps k4) hms3 (k4 _ _ hD3) (fun z hz => let ⟨o, e⟩ := lv.old z hz; ⟨o, k34 _ _ e⟩) hXC hkind hy hys hDC hpre ar4 (f a) ?_ ?_
      · intro b v g5 m5 hb hT ko5 hn5 hm5 hmy lt5
        have k5 : Kept hv g5 := fun p o e => ko5 p o (k34 p o e) (fun q => by rw [q, hCs] at e; cases e) (fun q => by rw [q, hDs] at e; cases e)
        have hR5 : R a u (lg (c.hide D) g5) := Mo.mo (k.it i u a hP ha') fun b o e pl => lg_get (k5 b o (lg_sub _ _ e)) fun q => by
          rcases List.mem_cons.mp q with rfl | q
          · have := lg_sub _ _ e; rw [hDs] at this; cases this
          · exact lg_not e q
        exact elem a b u v C D m5 _ ham hb hR5 hT (base k5) (nsl hn5) ((hm5 x hxy).trans hmx) hmy
      · intro g6 tk6 m6 vs6 ko6 hn6 hm6 hD6 ar6
        have k6 : Kept hv g6 := fun p o e => ko6 p o (k34 p o e) (fun q => by rw [q, hCs] at e; cases e) (fun q => by rw [q, hDs] at e; cases e)
        refine ⟨xs.length + 1 - (i + 1), by omega, i + 1, g6, tk6, m6, vs6, rfl, hlt, rfl, ?_, k6, hn6, (hm6 _ (Ne.symm hys)).trans hms3, hD6, ?_⟩
        · refine k.W.frame _ _ _ hst3 fun b hb o e => ko6 b o (k4 b o e) ?_ ?_
          · by_cases hbI : b = I
            · exact fun q => hCI (q.symm.trans hbI)
            · exact (fpn b hb hbI).1
          · by_cases hbI : b = I
            · exact fun q => hDI (q.symm.trans hbI)
            · exact (fpn b hb hbI).2
        · rw [htk, List.flatMap_append, List.flatMap_singleton]; exact ar6
    · obtain rfl : i = xs.length := Nat.le_antisymm hi (Nat.not_lt.mp hlt)
      refine k.W.done (c.sh g1 tk1) _ _ hst fun g2 tk2 hk2 => ?_
      have hk2' : ∀ b o, b ≠ I → g1.get? b = some o → g2.get? b = some o := fun b o q e => hk2 b o (by simpa using q) e
      have c12 : Cst2 (lg (c.hide D) g1) (lg (c.hide D) g2) := (cst_but eI sI.weak2 hk2').lg
      rw [List.take_length] at ar
      have k2 : Kept hv g2 := fun b o e => hk2' b o (fun q => by rw [q, hIn] at e; cases e) (kg b o e)
      refine fin D C g2 tk2 m (kv.trans k2) ⟨D, vs, _, rfl, lg_get (hk2' D _ hDI hD1) hXD, (ar.cst c12.cst).cst lg_hide_sub.cst2.cst⟩ ?_ (hn.at' fun o e => hk2' C o hCI e) hms
      cases q : h1.get? C with
      | none => rfl
      | some o => have := kv _ _ q; rw [hCs] at this; cases this
  exact codeAny_compStart_list (loop _) (k.W.self 0 _ _ _ (k.W.frame _ _ _ k.st fun b _ o e => k01 b o e) (loop _))
theorem Ex.assignComp2 {h0 h : Heap} {V : Vs} {N : Heap → Prop} {P : VP} {rest : List Stmt} {elt iter iter2 : Expr} {x y z : Str} {px py pz pos spos : Pos} {scope : Scope} {cl : List (Str × Addr)} {α β γ : Type} {R : α → VP} [∀ x, Mo (R x)] {T : β → VP} [∀ x, Mo (T x)] {S : γ → VP} [∀ y, Mo (S y)] {xs : List α}
    (F : Fx c h0 env h V) (hh : c.A.handled = none) (hit : Ev c env iter (lg c h) (Itb c R xs)) (inner : α → List β) (f : α → β → γ)
    (hit2 : ∀ a u C D m h1, a ∈ xs → R a u h1 → Kept (lg c h) h1 → h1.Ns C m → m x = some u → Ev (c.hide D) (compEnvC scope cl C env) iter2 h1 (Itb (c.hide D) T (inner a)))
    (elem : ∀ a b u v C D m h1, a ∈ xs → b ∈ inner a → R a u h1 → T b v h1 → Kept (lg c h) h1 → h1.Ns C m → m x = some u → m y = some v → Ev (c.hide D) (compEnvC scope cl C env) elt h1 (S (f a b)))
    (hsz : (xs.flatMap fun a => (inner a).map (f a)).length ≤ sizeLine) (hclos : closureFor scope env = pure cl)
    (hr : ∀ v h', Fx c h0 env h' (upd V z v) → KB (Wr env) h h' → Stay (lg c h) (lg c h') → isL S (xs.flatMap fun a => (inner a).map (f a)) v (lg c h') → Ex c env h0 rest h' N P)
    (hcell : ∀ y ∈ scope.names, y.2 ≠ .cell := by decide) (hkind : scope.kind = .function := by rfl) (hnames : ∀ y ∈ scope.names, y.2 = .local → scope.names.lookup y.1 = some .local := by decide) (hx : scope.names.lookup x = some .local := by rfl) (hy : scope.names.lookup y = some .local := by rfl) (hxs : x ≠ slotsKey := by decide) (hys : y ≠ slotsKey := by decide) (hxy : x ≠ y := by decide)
    (hs : ∀ x, foldedSetIterable iter env x = pure x := by intro _; rfl) (hs2 : ∀ C x, foldedSetIterable iter2 (compEnvC scope cl C env) x = pure x := by intro _ _; rfl)
    (hk : env.kindOf z = some .local ∨ (env.kindOf z = some .cell ∧ (env.cells.lookup z).isSome = true) := by exact own_of (by rfl))
    (hsw : swapsWith (.ListComp elt [⟨.Name x px, iter, [], 0⟩, ⟨.Name y py, iter2, [], 0⟩] scope pos) (some (.Name z pz)) spos.line env = pure true := by with_unfolding_all rfl) : Ex c env h0 (.Assign [.Name z pz] (.ListComp elt [⟨.Name x px, iter, [], 0⟩, ⟨.Name y py, iter2, [], 0⟩] scope pos) spos :: rest) h N P :=
  Ex.cons fun tk Q E hn _ => by
    rw [exec_Assign_Name_used _ _ _ _ hsw]
    refine wpAny_bind (wpAny_standAt (wpAny_bind ?_))
    show wpAny _ c.A (do let _ ← comprehension (.ListComp elt [⟨.Name x px, iter, [], 0⟩, ⟨.Name y py, iter2, [], 0⟩] scope pos) scope env _ (newList []) false (eval iter env) (some (PySem.assign (.Name z pz) env))) _ _ _
    refine wpAny_bind (wpAny_mono (comp2_any (Q := fun _ s' => Q .next s') hh hit inner f hit2 elem hclos hcell hkind hnames hx hy hxs hys hxy hsz hs hs2 F.lt (some (PySem.assign (.Name z pz) env)) fun D C h2 tk2 m k hv hC hns hms => ?_) (fun _ s' hq => wpAny_pure (wpAny_pure hq)) fun _ _ e => e)
    have F2 := F.at k
    refine wpAny_assign_Name (F2.toFm.store (s := c.sh h2 tk2) hk fun h3 tk3 F3 kb3 => ?_)
    have hCw : ¬ Wr env C := fun w => by obtain ⟨o, e, _⟩ := F.toFm.wrObj w; rw [hC] at e; cases e
    have hns3 : h3.Ns C m := hns.at' fun o e => kb3 C o e hCw
    refine ⟨m, hns3, fun h' hs' => ?_⟩
    obtain ⟨oC, eC, wC⟩ := ns_weak hns3 hms
    have hb : ∀ b o, b ∉ [C] → h3.get? b = some o → h'.get? b = some o := fun b o q e => hs'.extBut b o (fun z => q (List.mem_singleton.mpr z)) e
    have s3 : Stay (lg c h3) (lg c h') := (cst_but eC wC fun b o q e => hs'.extBut b o q e).lg.cst.stay
    have kb' : KB (Wr env) h h' := but_kb hC (k.kb.trans kb3) hb
    exact hn h' tk3 (hr _ h' (F.next (F.toFm.but F3 hC hb) kb') kb' (F.stay kb') (Mo.mo hv ((F2.stay kb3).trans s3)))
/-! a list that statements grow -/
section
variable {h0 h h' : Heap} {V : Vs} {N : Heap → Prop} {P P1 : VP} {D : Addr}
theorem Sx.unhide {st : Stmt} (x : Sx (c.hide D) env h0 st h N (fun _ _ => False)) : Sx c env h0 st h N P := Sx.mk fun tk Q E hn _ => x.run tk Q E hn fun _ _ _ _ q => q.elim
theorem Fx.hide (F : Fx c h0 env h V) {o : Obj} (e : h.get? D = some o) (hp : plainD o.data = true) : Fx (c.hide D) h0 env h V := ⟨F.toFm, fun x hx => by
  rcases List.mem_cons.mp hx with rfl | hx
  · exact ⟨F.toFm.notWr e ⟨fun _ _ q => (by rw [q] at hp; cases hp), fun _ q => (by rw [q] at hp; cases hp)⟩, _, e⟩
  · exact F.hid x hx⟩
theorem Fx.unhide (F : Fx (c.hide D) h0 env h V) : Fx c h0 env h V := ⟨F.toFm, fun x hx => F.hid x (List.mem_cons_of_mem _ hx)⟩
theorem Fm.sameBut (F : Fm h0 env h V) (hs : Heap.SameBut D h h') (hD : h0.get? D = none) (hw : ¬ Wr env D) : Fm h0 env h' V :=
  ⟨F.kind, let ⟨m, f, e⟩ := F.loc; ⟨m, f.sameBut hs (fun q => hw (.inl q.symm)), e⟩, fun b o e => hs.extBut b o (fun q => by
    have q' : b = D := q
    rw [q', hD] at e; cases e) (F.kept b o e), F.newL, fun n a e => (F.cell n a e).sameBut hs (fun q => hw (.inr ⟨n, q ▸ e⟩)), F.apart, F.newC, F.ne, F.kinds, F.mem⟩
theorem Sx.append {x : Str} {e : Expr} {p ap cp sp : Pos} {its : Array Value} {n : Nat} (F : Fx (c.hide D) h0 env h V) (hD0 : h0.get? D = none) (hv : V x = some (.ref D)) (hD : h.get? D = some { cls := .type "list", data := .seq its n }) [Mo P1] (he : Ev (c.hide D) env e (lg (c.hide D) h) P1) (hsz : its.size ≤ sizeLine)
    (hr : ∀ v h', Fx (c.hide D) h0 env h' V → h'.get? D = some { cls := .type "list", data := .seq (its.push v) (n + 1) } → (∀ b o, h.get? b = some o → b ≠ D → h'.get? b = some o) → P1 v (lg (c.hide D) h') → N h')
    (hk : env.kindOf x = some .local ∨ (env.kindOf x = some .cell ∧ (env.cells.lookup x).isSome = true) := by exact own_of (by rfl)) (hd : (x == ("__debug__" : Str)) = false := by decide)
    (hbase : attributeBase (.Name x p) "append" env (eval (.Name x p) env) = eval (.Name x p) env := by rfl)
    (hfew : ((backTo cp (starEach [e] env)).all (fun x => !x.1) && (backToKw cp (keywordEach [] env)).all (fun x => x.1.isSome)
      && decide (([e] : List Expr).length + ([] : List Keyword).length + (if ([] : List Keyword).isEmpty then 0 else 1) < 30)) = true := by rfl)
    (hline : (ap.endLine == cp.line) = true := by rfl) (htrees : backTo cp (starEach [e] env) = [(false, eval e env)] := by rfl)
    (hi : interactive env = false := by rfl) (hsw : swapsWith (.Call (.Attribute (.Name x p) "append" ap) [e] [] cp) none sp.line env = pure false := by rfl) :
    Sx (c.hide D) env h0 (.Expr (.Call (.Attribute (.Name x p) "append" ap) [e] [] cp) sp) h N P := Sx.mk fun tk Q E hn _ => by
  refine wpAny_Expr_any (wpAny_Call_append hbase hfew hline htrees ?_) hi hsw
  have nm : Ev (c.hide D) env (.Name x p) (lg (c.hide D) h) (isV (.ref D)) := F.var hv rfl hk hd p
  refine nm h tk _ E F.lt fun v h1 tk1 k1 ev => ?_
  cases ev
  refine ⟨D, its, rfl, ⟨_, n, k1 _ _ hD, rfl, rfl, rfl⟩, he h1 tk1 _ E (F.lt.trans k1) fun y h2 tk2 k2 py => ?_⟩
  have k12 := k1.trans k2
  refine append_at (s := c.sh h2 tk2) (k12 _ _ hD) (fun h3 hs3 hD3 => ?_) hsz
  have F2 := F.at k12
  have hw : ¬ Wr env D := (F.hid D List.mem_cons_self).1
  have F3 : Fx (c.hide D) h0 env h3 V := ⟨F2.toFm.sameBut hs3 hD0 hw, fun z hz => by
    obtain ⟨w, o, e⟩ := F2.hid z hz
    refine ⟨w, ?_⟩
    by_cases q : z = D
    · exact ⟨_, q ▸ hD3⟩
    · exact ⟨o, hs3.extBut z o q e⟩⟩
  exact hn h3 tk2 (hr y h3 F3 hD3 (fun b o e q => hs3.extBut b o q (k12 b o e)) (Mo.mo py (lg_hide hs3).stay))
end
end
end Mine
end

section
-- PL10
open PySem PySem.W PyProof.Rows PySem.Spec PySem.Calls
set_option maxRecDepth 100000
namespace Mine
/-- and something of the value alone -/
def andC (P : VP) (C : Value → Prop) : VP := fun v h => P v h ∧ C v
instance {P : VP} {C : Value → Prop} [Mo P] : Mo (andC P C) := ⟨fun x s => ⟨Mo.mo x.1 s, x.2⟩⟩
/-- none of the heap h -/
def isNew (h : Heap) (v : Value) : Prop := ∃ a, v = .ref a ∧ h.get? a = none
theorem isNew.low {h h' : Heap} {v : Value} (n : isNew h' v) (k : Kept h h') : isNew h v := by
  obtain ⟨a, e, q⟩ := n
  refine ⟨a, e, ?_⟩
  cases z : h.get? a with
  | none => rfl
  | some o => rw [k _ _ z] at q; cases q
section
variable {c : Cx} {env : Env} {h : Heap} {P P1 P2 : VP} {pos : Pos}
theorem Ev.listN {α : Type} {R : α → VP} [∀ x, Mo (R x)] {es : List Expr} {xs : List α} (he : EL c env pos es h R xs) (hsz : xs.length ≤ sizeLine := by exact Nat.le_of_ble_eq_true rfl) : Ev c env (.List es pos) h (andC (isL R xs) (isNew h)) :=
  Pu.mk fun h1 tk Q E k hq => List_ (he h1 tk _ E k fun vs h2 tk2 k2 a => wpAny_newList (s := c.sh h2 tk2) (hq _ _ tk2 (k2.trans (Kept.push _ _)) ⟨⟨_, vs, 0, rfl, lg_get (Heap.get?_push_size _ rfl) ((k.trans k2).new (Heap.get?_none_of_le (Nat.le_refl _))), a.stay (Kept.push _ _).lg.stay⟩, _, rfl, by
    cases q : h.get? h2.objs.size with
    | none => rfl
    | some o => have := k2 _ _ (k.top _ _ q); rw [Heap.get?_none_of_le (Nat.le_refl _)] at this; cases this⟩) (by rw [a.len]; exact hsz))
/-- what is new and told of is none of the heap below -/
theorem new_below {h0 h1 h' : Heap} {a : Addr} {o : Obj} (k : Kept h0 h1) (n : isNew (lg c h1) (.ref a)) (e : (lg c h').get? a = some o) : h0.get? a = none := by
  obtain ⟨b, eb, hb⟩ := n
  cases eb
  cases q : h0.get? a with
  | none => rfl
  | some o' => have := lg_get (c := c) (k _ _ q) (lg_not e); rw [hb] at this; cases this
theorem stay_hide {a b : Heap} {D : Addr} (s : Stay (lg c a) (lg c b)) (n : isNew (lg c a) (.ref D)) : Stay (lg c a) (lg (c.hide D) b) := fun p o e q => lg_get (lg_sub _ _ (s p o e q)) fun z => by
  rcases List.mem_cons.mp z with rfl | z
  · obtain ⟨x, ex, hx⟩ := n; cases ex; rw [e] at hx; cases hx
  · exact lg_not (s p o e q) z
theorem kept_hide {a b : Heap} {D : Addr} (s : Kept a (lg c b)) (n : b.get? D = none) : Kept a (lg (c.hide D) b) := fun p o e => lg_get (lg_sub _ _ (s p o e)) fun z => by
  rcases List.mem_cons.mp z with rfl | z
  · have := lg_sub _ _ (s p o e); rw [n] at this; cases this
  · exact lg_not (s p o e) z
theorem kept_but {a b : Heap} {D : Addr} (k : ∀ p o, a.get? p = some o → p ≠ D → b.get? p = some o) : Kept (lg (c.hide D) a) (lg (c.hide D) b) := fun p o e => lg_get (k p o (lg_sub _ _ e) fun q => lg_not e (q ▸ List.mem_cons_self)) (lg_not e)
end
end Mine
end

section
-- PL11
open PySem PySem.W PyProof.Rows PySem.Spec PySem.Calls
set_option maxRecDepth 100000
namespace Mine
/-- an iterator over a list, at its i-th item -/
def isIter {α : Type} (R : α → VP) (xs : List α) (i : Nat) : VP := fun v h => ∃ I l vs oI n, v = .ref I ∧ h.get? I = some oI ∧ oI.cls = .type "list_iterator" ∧ oI.data = .fields #[.ref l, .int i 0] ∧ h.get? l = some { cls := .type "list", data := .seq vs.toArray n } ∧ Are R xs vs h
section
variable {c : Cx} {env : Env} {h : Heap} {P P1 P2 : VP} {pos : Pos}
theorem b_iter {α : Type} {R : α → VP} [∀ x, Mo (R x)] {xs : List α} {vs : List Value} (x : AllP [isL R xs] vs h) : Pu c (call (.builtin "iter") vs) h (fun v hp => isIter R xs 0 v hp ∧ isNew h v) := by
  obtain ⟨u, rfl, p⟩ := x.one
  refine Pu.mk fun h1 tk Q E lt hq => ?_
  obtain ⟨l, ws, n, rfl, ho, ar⟩ := Mo.mo p lt.keep.stay
  have hl : h1.IsList l ws.toArray := ⟨_, lg_sub _ _ ho, rfl, n, rfl⟩
  refine call_function_entry (by decide +kernel) (by decide +kernel) kdk_entry_iter (kdk_args_iter _) ?_
  unfold Builtin.«iter»
  refine wpAny_bind (m := someArgs "iter" 1 2 _) (wpAny_of_eq (a := [Value.ref l]) (by first | rfl | kernel_rfl!) ?_)
  show wpAny _ _ (pyIter (.ref l) >>= _) _ _ _
  refine wpAny_bind (wpAny_pyIter_list (s := c.sh h1 tk) hl ?_)
  refine wpAny_pure ⟨_, rfl, hq _ _ tk (Kept.push _ _) ⟨⟨_, l, ws, _, n, rfl, alloc_is (h2 := h1) (a := 0) lt rfl, rfl, rfl, ?_, ar.stay (Kept.push _ _).lg.stay⟩, _, rfl, ?_⟩⟩
  · exact (Kept.push _ _).lg _ _ ho
  · cases q : h.get? h1.objs.size with
    | none => rfl
    | some o => have := lt.top _ _ q; rw [Heap.get?_none_of_le (Nat.le_refl _)] at this; cases this
/-- a is b, for two objects of which the second is no tuple -/
theorem Tst.isOther {l r : Expr} {a b : Addr} {oa ob : Obj} (hl : Ev c env l h (isV (.ref a))) (hr : Ev c env r h (isV (.ref b))) (ha : h.get? a = some oa) (hb : h.get? b = some ob) (hne : a ≠ b) (hnt : ob.cls ≠ .type "tuple") (hm : behindInMarks .Is r = false := by with_unfolding_all rfl) : Tst c env (.Compare l [.Is] [r] pos) h false :=
  Tst.cmp hl hr (fun x y h' k p q => by
    cases p; cases q
    refine Pu.mk fun h1 tk Q E lt hq => ?_
    show wpAny c.M c.A (do return .bool (← isSame (.ref a) (.ref b))) Q E _
    exact wpAny_bind (PySem.SeqAt.wpAny_isSame_ref_other' (s := c.sh h1 tk) hne (lt.top _ _ (k _ _ ha)) (lt.top _ _ (k _ _ hb)) hnt (wpAny_pure (hq _ h1 tk (Kept.refl _) rfl)))) hm
theorem Tst.isSelf {l r : Expr} {a : Addr} (hl : Ev c env l h (isV (.ref a))) (hr : Ev c env r h (isV (.ref a))) (hm : behindInMarks .Is r = false := by with_unfolding_all rfl) : Tst c env (.Compare l [.Is] [r] pos) h true :=
  Tst.cmp hl hr (fun x y h' k p q => by
    cases p; cases q
    exact Pu.mk fun h1 tk Q E lt hq => wpAny_is_ref_self (hq _ h1 tk (Kept.refl _) rfl)) hm
variable {h0 h' : Heap} {V : Vs} {N : Heap → Prop} {rest : List Stmt}
/-- x = e, where what e tells need not stay told -/
theorem Ex.assign' {x : Str} {e : Expr} {p1 p2 : Pos} (F : Fx c h0 env h V) (he : Ev c env e (lg c h) P1) (hr : ∀ v h1 h', Kept h h1 → P1 v (lg c h1) → Fx c h0 env h1 V → KB (Wr env) h1 h' → Fx c h0 env h' (upd V x v) → Ex c env h0 rest h' N P)
    (hk : env.kindOf x = some .local ∨ (env.kindOf x = some .cell ∧ (env.cells.lookup x).isSome = true) := by exact own_of (by rfl)) (hs : swapsWith e (some (.Name x p1)) p2.line env = pure false := by rfl) : Ex c env h0 (.Assign [.Name x p1] e p2 :: rest) h N P :=
  Ex.cons fun tk Q E hn _ => wpAny_Assign_Name (he h tk _ E F.lt fun v h1 tk1 k p => (F.toFm.at k).store (s := c.sh h1 tk1) hk fun h2 tk2 F2 kb =>
    hn h2 tk2 (hr v h1 h2 k p (F.at k) kb (F.next F2 (k.kb.trans kb)))) hs
theorem isIter.kb {α : Type} {R : α → VP} [∀ x, Mo (R x)] {xs : List α} {i : Nat} {v : Value} (F : Fx c h0 env h V) (kb : KB (Wr env) h h') (x : isIter R xs i v (lg c h)) : isIter R xs i v (lg c h') := by
  obtain ⟨I, l, vs, oI, n, rfl, e, hc, hd, hl, ar⟩ := x
  refine ⟨I, l, vs, oI, n, rfl, lg_get (kb _ _ (lg_sub _ _ e) (F.toFm.notWr (lg_sub _ _ e) ⟨fun _ _ q => (by rw [q] at hd; cases hd), fun _ q => (by rw [q] at hd; cases hd)⟩)) (lg_not e), hc, hd, F.stay kb _ _ hl rfl, ar.stay (F.stay kb)⟩
/-- for x in it: body, over an iterator that stands -/
theorem Sx.forI {x : Str} {it : Expr} {body : List Stmt} {px pos : Pos} {α : Type} {R : α → VP} [∀ x, Mo (R x)] {xs : List α} {i0 : Nat} {I : Addr} (hh : c.A.handled = none) (F : Fx c h0 env h V) (hi0 : i0 ≤ xs.length) (hI : isIter R xs i0 (.ref I) (lg c h)) (hI0 : h0.get? I = none) (hit : Ev c env it (lg c h) (isV (.ref I)))
    (J : Nat → Vs → Heap → Prop) (hJ0 : ∀ h', Kept h h' → J i0 V h') (hJs : ∀ i V1 h1 h2, J i V1 h1 → Strg h1 h2 → J i V1 h2)
    (turn : ∀ i y v V1 h1, xs[i]? = some y → J i V1 h1 → R y v (lg c h1) → Fx c h0 env h1 (upd V1 x v) → Ex c env h0 body h1 (fun h2 => ∃ V2, Fx c h0 env h2 V2 ∧ J (i + 1) V2 h2 ∧ KB (Wr env) h1 h2) P)
    (done : ∀ V1 h1, J xs.length V1 h1 → Fx c h0 env h1 V1 → N h1)
    (hk : env.kindOf x = some .local ∨ (env.kindOf x = some .cell ∧ (env.cells.lookup x).isSome = true) := by exact own_of (by rfl))
    (hs : ∀ y, foldedSetIterable it env y = pure y := by intro _; rfl) (ht : ∀ i v, letOwnedTupleGo (.Name x px) i v = pure () := by intro _ _; rfl) : Sx c env h0 (.For (.Name x px) it body [] pos) h N P :=
  Sx.mk fun tk Q E hn hr => wpAny_For (hit h tk _ E F.lt fun v hv tkv kv ev => by
    cases ev
    obtain ⟨I', l, vs, oI, n, eI', e, hc, hd, hl, ar⟩ := hI
    cases eI'
    have hIX := lg_not e
    have hlX := lg_not hl
    have e' := lg_sub _ _ e
    have hl' := lg_sub _ _ hl
    have hIW : ¬ Wr env I := F.toFm.notWr e' ⟨fun _ _ q => (by rw [q] at hd; cases hd), fun _ q => (by rw [q] at hd; cases hd)⟩
    have hlW : ¬ Wr env l := F.toFm.notWr hl' ⟨fun _ _ q => (by cases q), fun _ q => (by cases q)⟩
    have hlI : l ≠ I := fun q => by rw [q, e'] at hl'; cases hl'; cases hd
    have W := Walks.list (prog := c.prog) (w := c.w) hh I l hlI vs.toArray
    rw [show vs.toArray.size = xs.length by rw [List.size_toArray]; exact ar.len] at W
    have st0 : hv.IsListIter I l i0 ∧ hv.IsList l vs.toArray := ⟨⟨oI, kv _ _ e', hc, hd⟩, ⟨_, kv _ _ hl', rfl, n, rfl⟩⟩
    refine W.self i0 (c.sh hv tkv) _ E st0 ?_
    refine codeAny_forLoop (fun n s => ∃ i V1 h1 tk1, s = c.sh h1 tk1 ∧ i ≤ xs.length ∧ n = xs.length + 1 - i ∧ (h1.IsListIter I l i ∧ h1.IsList l vs.toArray) ∧ J i V1 h1 ∧ Fx c h0 env h1 V1 ∧ Stay (lg c h) (lg c h1)) ?_ (xs.length + 1 - i0)
      ⟨i0, V, hv, tkv, rfl, hi0, rfl, st0, hJ0 _ kv, F.at kv, kv.lg.stay⟩ (fun v => ht _ v)
    rintro n' s ⟨i, V1, h1, tk1, rfl, hi, rfl, hst, hJ, F1, sy1⟩
    obtain ⟨oI1, eI1, hc1, hd1⟩ := id hst.1
    have weak : strongO oI1 = false := (iter_fields hc1 hd1).weak
    have but : ∀ {h2}, (∀ b o, b ∉ [I] → h1.get? b = some o → h2.get? b = some o) → Fx c h0 env h2 V1 := fun hk2 => by
      have hk2' : ∀ b o, b ≠ I → h1.get? b = some o → _ := fun b o q e => hk2 b o (by simpa using q) e
      refine ⟨⟨F1.kind, ?_, fun b o eo => hk2' b o (fun q => ?_) (F1.kept b o eo), F1.newL, fun n a ea => ?_, F1.apart, F1.newC, F1.ne, F1.kinds, F1.mem⟩, fun z hz => let ⟨w, o, e⟩ := F1.hid z hz; ⟨w, o, hk2' z o (fun q => hIX (q ▸ hz)) e⟩⟩
      · obtain ⟨m, f, e⟩ := F1.loc
        exact ⟨m, f.at' fun o eo => hk2' _ o (fun q => hIW (.inl q.symm)) eo, e⟩
      · rw [q, hI0] at eo; cases eo
      · obtain ⟨o, eo, hd⟩ := F1.cell n a ea
        exact ⟨o, hk2' a o (fun q => hIW (.inr ⟨n, q ▸ ea⟩)) eo, hd⟩
    by_cases hlt : i < xs.length
    · refine W.item i (c.sh h1 tk1) _ _ hlt hst fun u h2 tk2 hP hst2 hk2 => ?_
      have F2 := but hk2
      refine wpAny_assign_Name (F2.toFm.store (s := c.sh h2 tk2) hk fun h3 tk3 F3 kb3 => ?_)
      have st12 : Strg h1 h2 := but_str eI1 weak hk2
      have st23 : Strg h2 h3 := F2.toFm.str kb3
      obtain ⟨y, hy⟩ : ∃ y, xs[i]? = some y := ⟨xs[i], List.getElem?_eq_getElem hlt⟩
      have sy3 : Stay (lg c h) (lg c h3) := sy1.trans (st12.trans st23).lg.stay
      have hR0 : R y u (lg c h3) := Mo.mo (ar.at' i y u hy (by simpa using hP)) sy3
      have fr : ∀ {a b : Heap}, KB (Wr env) a b → (∀ q ∈ [I, l], ∀ o, a.get? q = some o → b.get? q = some o) := fun kb q hq o eo => kb q o eo (by
        simp at hq; rcases hq with rfl | rfl
        · exact hIW
        · exact hlW)
      have hst3 := W.frame _ _ _ hst2 (fr kb3)
      refine turn i y u V1 h3 hy (hJs _ _ _ _ hJ (st12.trans st23)) hR0 (F2.next F3 kb3) tk3 _ _ (fun h4 tk4 ⟨V2, F4, hJ4, kb4⟩ => ?_) (fun v h4 tk4 k4 p => hr v h4 tk4 k4 p)
      exact ⟨xs.length + 1 - (i + 1), by omega, i + 1, V2, h4, tk4, rfl, hlt, rfl, W.frame _ _ _ hst3 (fr kb4), hJ4, F4, sy3.trans ((F2.next F3 kb3).stay kb4)⟩
    · obtain rfl : i = xs.length := Nat.le_antisymm hi (Nat.not_lt.mp hlt)
      refine W.done (c.sh h1 tk1) _ _ hst fun h2 tk2 hk2 => ?_
      exact wpAny_execs_nil (hn h2 tk2 (done V1 h2 (hJs _ _ _ _ hJ (but_str eI1 weak hk2)) (but hk2)))) hs
end
end Mine
end

section
-- S1
open PySem PySem.W PyProof.Rows
set_option maxRecDepth 100000
namespace Mine
/-- the comparison tree by an oracle -/
def runT {α : Type} (lt : Nat → Nat → Bool) : KasT α → α
  | .ret a => a
  | .ask i j k => runT lt (k (lt i j))
/-- only the first n are asked of -/
def asksT {α : Type} (n : Nat) : KasT α → Bool
  | .ret _ => true
  | .ask i j k => Nat.blt i n && (Nat.blt j n && (asksT n (k true) && asksT n (k false)))
theorem runT_wp {α : Type} {cmp : Nat → Nat → (Bool → Shared → Prop) → Shared → Prop} {lt : Nat → Nat → Bool} {n : Nat} {I : Shared → Prop}
    (hc : ∀ i j s (C : Bool → Shared → Prop), i < n → j < n → I s → (∀ s', I s' → C (lt i j) s') → cmp i j C s) :
    ∀ (t : KasT α) (Q : α → Shared → Prop) (s : Shared), asksT n t = true → I s → (∀ s', I s' → Q (runT lt t) s') → t.kasWp cmp Q s
  | .ret a, Q, s, _, hs, h => h s hs
  | .ask i j k, Q, s, ha, hs, h => by
    simp only [asksT, Bool.and_eq_true] at ha
    refine hc i j s _ (Nat.le_of_ble_eq_true ha.1) (Nat.le_of_ble_eq_true ha.2.1) hs fun s' hs' => ?_
    refine runT_wp hc (k (lt i j)) Q s' ?_ hs' fun s'' hs'' => h s'' hs''
    cases lt i j
    · exact ha.2.2.2
    · exact ha.2.2.1
def digits (n : Nat) : Nat → List (List Nat)
  | 0 => [[]]
  | m + 1 => (digits n m).flatMap fun l => (List.range n).map fun d => d :: l
def risesB (r : Nat → Nat) : List Nat → Bool
  | [] => true
  | x :: l => l.all (fun y => Nat.blt (r x) (r y) || (Nat.beq (r x) (r y) && Nat.blt x y)) && risesB r l
def okSort (n : Nat) (l : List Nat) : Bool :=
  let p := (runT (fun i j => Nat.blt (l.getD i 0) (l.getD j 0)) (kas_sort n)).toList
  risesB (fun i => l.getD i 0) p && p.isPerm (List.range n)
theorem asks5 : asksT 2 (kas_sort 2) = true ∧ asksT 3 (kas_sort 3) = true ∧ asksT 4 (kas_sort 4) = true ∧ asksT 5 (kas_sort 5) = true := by decide +kernel
/-- how many of l are less than x -/
def cntB (x : Nat) : List Nat → Nat
  | [] => 0
  | y :: l => cond (Nat.blt y x) (cntB x l).succ (cntB x l)
/-- each is the number of those of a less than it -/
def canonB (a : List Nat) : List Nat → Bool
  | [] => true
  | x :: l => cond (Nat.beq (cntB x a) x) (canonB a l) false
def sift (p : List Nat → Bool) : List (List Nat) → List (List Nat)
  | [] => []
  | l :: ls => cond (p l) (l :: sift p ls) (sift p ls)
theorem mem_sift {p : List Nat → Bool} {l : List Nat} (hp : p l = true) : ∀ {ls : List (List Nat)}, l ∈ ls → l ∈ sift p ls
  | m :: ls, h => by
    unfold sift
    rcases List.mem_cons.mp h with rfl | h
    · rw [hp]; exact List.mem_cons_self
    · have := mem_sift hp h
      cases p m
      · exact this
      · exact List.mem_cons_of_mem _ this
/-- the tree, gone down once with all the rank lists; at each end those that come there are sorted by it -/
def okT (n : Nat) : KasT (Array Nat) → List (List Nat) → Bool
  | .ret a, ls => ls.all (fun l => risesB (fun i => l.getD i 0) a.toList) && a.toList.isPerm (List.range n)
  | .ask i j k, ls => okT n (k true) (sift (fun l => Nat.blt (l.getD i 0) (l.getD j 0)) ls) && okT n (k false) (sift (fun l => not (Nat.blt (l.getD i 0) (l.getD j 0))) ls)
theorem okT_ok {n : Nat} {l : List Nat} : ∀ (t : KasT (Array Nat)) (ls : List (List Nat)), okT n t ls = true → l ∈ ls →
    (risesB (fun i => l.getD i 0) (runT (fun i j => Nat.blt (l.getD i 0) (l.getD j 0)) t).toList && (runT (fun i j => Nat.blt (l.getD i 0) (l.getD j 0)) t).toList.isPerm (List.range n)) = true
  | .ret a, ls, h, hl => by
    simp only [okT, Bool.and_eq_true] at h
    exact Bool.and_eq_true _ _ ▸ ⟨List.all_eq_true.mp h.1 l hl, h.2⟩
  | .ask i j k, ls, h, hl => by
    simp only [okT, Bool.and_eq_true] at h
    cases e : Nat.blt (l.getD i 0) (l.getD j 0) with
    | true =>
      have := okT_ok (k true) _ h.1 (mem_sift (p := fun l => Nat.blt (l.getD i 0) (l.getD j 0)) e hl)
      simp only [runT, e]
      exact this
    | false =>
      have := okT_ok (k false) _ h.2 (mem_sift (p := fun l => not (Nat.blt (l.getD i 0) (l.getD j 0))) (by show (!Nat.blt (l.getD i 0) (l.getD j 0)) = true; rw [e]; rfl) hl)
      simp only [runT, e]
      exact this
theorem sort2 : okT 2 (kas_sort 2) (sift (fun l => canonB l l) (digits 2 2)) = true := by decide +kernel
theorem sort3 : okT 3 (kas_sort 3) (sift (fun l => canonB l l) (digits 3 3)) = true := by decide +kernel
theorem sort4 : okT 4 (kas_sort 4) (sift (fun l => canonB l l) (digits 4 4)) = true := by decide +kernel
theorem sort5 : okT 5 (kas_sort 5) (sift (fun l => canonB l l) (digits 5 5)) = true := by decide +kernel
theorem canon_mem {a : List Nat} : ∀ {l : List Nat}, (∀ x ∈ l, cntB x a = x) → canonB a l = true
  | [], _ => rfl
  | x :: l, h => by
    have e : Nat.beq (cntB x a) x = true := Nat.beq_eq ▸ h x List.mem_cons_self
    unfold canonB
    rw [e]
    exact canon_mem fun y hy => h y (List.mem_cons_of_mem _ hy)
theorem cnt_map {r : Nat → Nat} {x : Nat} : ∀ {l : List Nat}, cntB x (l.map r) = l.countP fun k => Nat.blt (r k) x
  | [] => rfl
  | k :: l => by
    rw [List.map_cons, List.countP_cons]
    unfold cntB
    rw [cnt_map]
    cases Nat.blt (r k) x <;> rfl
end Mine
end

section
-- PL12
open PySem PySem.W PyProof.Rows PySem.Spec PySem.Calls
set_option maxRecDepth 100000
namespace Mine
/-- all the items of v, taken -/
def Coll (c : Cx) {α : Type} (R : α → VP) (xs : List α) : VP := fun v h => ∀ (s : Shared) (A : Around) (Q : List Value → Shared → Prop) (E : Value → Shared → Prop), A.handled = none → Lt c h s.heap →
  (∀ vs h' tk, Kept s.heap h' → Are R xs vs (lg c h') → Q vs { s with heap := h', toks := tk }) → wpAny c.M A (collect v) Q E s
section
variable {c : Cx} {α : Type} {R : α → VP} {xs : List α} {v : Value} {h : Heap}
theorem isS.coll [∀ x, Mo (R x)] (x : isL R xs v h) (hsz : xs.length ≤ sizeLine) : Coll c R xs v h := fun s A Q E hh k hq => by
  obtain ⟨a, vs, rfl, hll, r⟩ := isS.list (Mo.mo x k.keep.stay : isL R xs v (lg c s.heap))
  obtain ⟨o, hol, hcl, n, hd⟩ := id hll
  have hl : s.heap.IsList a vs.toArray := ⟨o, lg_sub _ _ hol, hcl, n, hd⟩
  have kk : Kept s.heap ((s.heap.push (seqObj "list" #[] 0)).update s.heap.objs.size (Obj.mapSeq (· ++ vs.toArray))) := fun b o e => by
    rw [Heap.get?_update_ne _ _ _ _ (Nat.ne_of_lt (Heap.lt_size e))]
    exact Heap.get?_push_of_some _ e
  exact collect_list hl (hq vs _ s.toks kk (r.stay kk.lg.stay)) (by rw [r.len]; exact hsz)
end
end Mine
end

section
-- PL13
open PySem PySem.W PyProof.Rows PySem.Spec PySem.Calls
set_option maxRecDepth 100000
namespace Mine
/-- what list.sort makes of n items, by the comparison of positions lt -/
def sortPerm (n : Nat) (lt : Nat → Nat → Bool) : List Nat := if n < 2 then List.range n else (runT lt (kas_sort n)).toList
def permL {α : Type} (p : List Nat) (xs : List α) : List α := p.filterMap fun i => xs[i]?
theorem permL_range {α : Type} (xs : List α) : permL (List.range xs.length) xs = xs := by
  unfold permL
  have : ∀ (n : Nat), n ≤ xs.length → (List.range n).filterMap (fun i => xs[i]?) = xs.take n := by
    intro n
    induction n with
    | zero => simp
    | succ n ih =>
      intro hn
      rw [List.range_succ, List.filterMap_append, ih (by omega), List.take_add_one]
      simp [List.getElem?_eq_getElem (show n < xs.length by omega)]
  rw [this _ (Nat.le_refl _), List.take_length]
/-- two lists in the making are hidden -/
abbrev Cx.hide2 (c : Cx) (D k : Addr) : Cx := { c with X := k :: D :: c.X }
section
variable {c : Cx} {α : Type} {R : α → VP} [∀ x, Mo (R x)] {KK : α → VP} [∀ x, Mo (KK x)] {xs : List α} {h h2 : Heap} {D kS : Addr} {T : Value}
/-- within a sort: the heap h2 is kept, the list D stands empty -/
structure SIn (c : Cx) (h2 : Heap) (D kS : Addr) (e1 : Nat) (h' : Heap) : Prop where
  kept : Kept h2 h'
  D : h'.get? D = some (seqObj "list" #[] e1)
  k : ∃ o, h'.get? kS = some o
theorem SIn.lt {e1 : Nat} {h' : Heap} (s : SIn c h2 D kS e1 h') (l : Lt c h h2) (hD : h2.get? D = none) (hk : h2.get? kS = none) : Lt (c.hide2 D kS) h h' :=
  ⟨fun b o e => lg_get (s.kept _ _ (l.top _ _ e)) fun q => by
    rcases List.mem_cons.mp q with rfl | q
    · rw [l.top _ _ e] at hk; cases hk
    rcases List.mem_cons.mp q with rfl | q
    · rw [l.top _ _ e] at hD; cases hD
    · exact lg_not (l.keep _ _ e) q, fun x hx => by
    rcases List.mem_cons.mp hx with rfl | hx
    · exact s.k
    rcases List.mem_cons.mp hx with rfl | hx
    · exact ⟨_, s.D⟩
    · obtain ⟨o, e⟩ := l.old x hx; exact ⟨o, s.kept _ _ e⟩⟩
theorem lg_hide2 {h1 h2 : Heap} (k : ∀ b o, b ≠ D → b ≠ kS → h1.get? b = some o → h2.get? b = some o) : Kept (lg (c.hide2 D kS) h1) (lg (c.hide2 D kS) h2) := fun b o e =>
  lg_get (k b o (fun q => lg_not e (by rw [q]; exact List.mem_cons_of_mem _ List.mem_cons_self)) (fun q => lg_not e (by rw [q]; exact List.mem_cons_self)) (lg_sub _ _ e)) (lg_not e)
/-- the tail: what was sorted goes back into D -/
theorem sort_tail {E : Value → Shared → Prop} {P : PySem.Fin → Shared → Prop} {A : Around} {st : SortSt} {e1 e : Nat} {kA : Array Value} {h' : Heap} {tk : Nat} {out : Array Value}
    (s : SIn c h2 D kS e1 h') (hkS : h'.get? kS = some (seqObj "list" kA e)) (hne : kS ≠ D) (hD : h2.get? D = none) (hk : h2.get? kS = none) (hz : kA.size ≤ sizeLine) (ho : (arrOf st).map (·.2) = out) (hzo : out.size ≤ sizeLine) (hf : failedOf st = none)
    (h : ∀ h3 n, Kept h2 h3 → h3.get? D = some (seqObj "list" out n) → Kept (lg (c.hide2 D kS) h') (lg (c.hide2 D kS) h3) → P (.done (.ret .none)) (c.sh h3 tk)) :
    wpAny c.M A (ksk_tail D false e1 (.ref kS) st) P E (c.sh h' tk) := by
  have s1 := Heap.SameBut.update h' kS (Obj.mapSeq fun _ => (#[] : Array Value))
  have na1 : (h'.update kS (Obj.mapSeq fun _ => (#[] : Array Value))).get? D = some (seqObj "list" #[] e1) := (s1.2 D (Ne.symm hne)).trans s.D
  have s2 := Heap.SameBut.update (h'.update kS (Obj.mapSeq fun _ => (#[] : Array Value))) D (Obj.mapSeq fun _ => out)
  obtain ⟨c2, hc2⟩ : ∃ c2, ((h'.update kS (Obj.mapSeq fun _ => (#[] : Array Value))).update D (Obj.mapSeq fun _ => out)).get? D = some (seqObj "list" out c2) := ⟨_, get?_update_seq na1 fun _ => out⟩
  have kk : ∀ b o, b ≠ D → b ≠ kS → h'.get? b = some o → ((h'.update kS (Obj.mapSeq fun _ => (#[] : Array Value))).update D (Obj.mapSeq fun _ => out)).get? b = some o := fun b o q1 q2 e => (s2.2 b q1).trans ((s1.2 b q2).trans e)
  unfold ksk_tail
  try dsimp only
  refine wpAny_bind (listUpdate_at (s := c.sh h' tk) hkS rfl ?_ hz (Nat.zero_le _))
  refine wpAny_bind (wpAny_letGo ?_)
  refine wpAny_bind (seqEpoch_at na1 rfl ?_)
  rw [ho, hf]
  simp only [bne_self_eq_false, Bool.false_eq_true, if_false]
  refine wpAny_bind (listUpdate_at na1 rfl ?_ (Nat.zero_le _) (Nat.le_trans hzo (Nat.le_succ _)))
  refine wpAny_pure (h _ c2 (fun b o eb => kk b o (fun q => ?_) (fun q => ?_) (s.kept b o eb)) hc2 (lg_hide2 kk))
  · rw [q, hD] at eb; cases eb
  · rw [q, hk] at eb; cases eb
theorem zip_get {ks vs : List Value} {i : Nat} (hl : ks.length = vs.length) : kas_item (ks.toArray.zip vs.toArray) i = (ks.getD i Value.none, vs.getD i Value.none) := by
  unfold kas_item
  by_cases q : i < vs.length
  · have q' : i < ks.length := by omega
    have q'' : i < (ks.toArray.zip vs.toArray).size := by simp [Array.size_zip, hl]; exact q
    simp [Array.getD, q, q', hl]
  · have q' : ¬ i < ks.length := by omega
    simp [Array.getD, q, q', hl]
theorem sort_end {A : Around} {E : Value → Shared → Prop} {P : PySem.Fin → Shared → Prop} {lt : Nat → Nat → Bool} {e1 e : Nat} {ks vs : List Value} {h' : Heap} {tk : Nat}
    (l : Lt c h h2) (s : SIn c h2 D kS e1 h') (hkS : h'.get? kS = some (seqObj "list" ks.toArray e)) (hne : kS ≠ D) (hD : h2.get? D = none) (hk : h2.get? kS = none)
    (ar : Are KK xs ks (lg (c.hide2 D kS) h')) (vr : Are R xs vs (lg c h2)) (h64 : xs.length < 64) (has : 2 ≤ xs.length → asksT xs.length (kas_sort xs.length) = true) (hp : ∀ i ∈ sortPerm xs.length lt, i < xs.length)
    (hT : ∀ x u g, KK x u g → ∃ a o, u = .ref a ∧ g.get? a = some o ∧ o.cls = T) (hT1 : (T != Value.type "tuple") = true) (hT2 : (T == T) = true)
    (hcmp : ∀ i j x y u v g, xs[i]? = some x → xs[j]? = some y → Kept h g → KK x u g → KK y v g → Pu { c.hide2 D kS with A := A } (keyLt' oneType' u v) g (fun b _ => b = lt i j))
    (h : ∀ h3 n tk' out, Kept h2 h3 → h3.get? D = some (seqObj "list" (List.toArray out) n) → Are R (permL (sortPerm xs.length lt) xs) out (lg c h2) → P (.done (.ret .none)) (c.sh h3 tk')) :
    wpAny c.M A (ksk_end D false vs.toArray e1 (.ref kS) ks.toArray) P E (c.sh h' tk) := by
  have hkl := ar.len
  have hvl := vr.len
  have hkv : ks.length = vs.length := by omega
  have hzs : (ks.toArray.zip vs.toArray).size = xs.length := by simp [hkl, hvl]
  have hz64 : ks.toArray.size ≤ sizeLine := by rw [List.size_toArray, sizeLine_eq]; omega
  unfold ksk_end
  try dsimp only
  rw [if_neg (by simp)]
  by_cases h2' : vs.toArray.size < 2
  · rw [if_pos h2', if_pos h2']
    rw [List.size_toArray, hvl] at h2'
    refine wpAny_bind (wpAny_pure ?_)
    rw [StateT.run_pure]
    refine wpAny_bind (wpAny_pure ?_)
    try dsimp only
    have eo : (arrOf (SortSt.mk' general' (if false = true then (ks.toArray.zip vs.toArray).reverse else ks.toArray.zip vs.toArray) #[] 7 none)).map (·.2) = vs.toArray := by
      show (ks.toArray.zip vs.toArray).map (·.2) = _
      apply Array.toList_inj.mp
      rw [Array.toList_map, ksk_zip]
      simp [List.map_snd_zip, hkv]
    refine sort_tail s hkS hne hD hk hz64 eo (by rw [List.size_toArray, sizeLine_eq]; omega) rfl fun h3 n k3 e3 _ => h h3 n tk vs k3 e3 ?_
    unfold sortPerm
    rw [if_pos h2', permL_range]
    exact vr
  · rw [if_neg h2', if_neg h2']
    rw [List.size_toArray, hvl] at h2'
    refine wpAny_bind (kas_kind (T := T) (by omega) (fun v hv => ?_) hT1 hT2 ?_)
    · obtain ⟨i, hi, rfl⟩ := List.getElem_of_mem hv
      obtain ⟨a, o, e, eo, ec⟩ := hT _ _ _ (ar.at' i xs[i] ks[i] (List.getElem?_eq_getElem (by omega)) (List.getElem?_eq_getElem hi))
      rw [e]
      exact ec ▸ (Looks.ld (lg_sub _ _ eo)).andThen .now
    have est : SortSt.mk' oneType' (ks.toArray.zip vs.toArray) #[] 7 none = kas_st oneType' (ks.toArray.zip vs.toArray) (List.toArray (List.range xs.length)) := by
      have e := kas_range (ks.toArray.zip vs.toArray)
      rw [hzs] at e
      show _ = SortSt.mk' oneType' ((List.toArray (List.range xs.length)).map (kas_item (ks.toArray.zip vs.toArray))) #[] 7 none
      rw [e]
    rw [if_neg (by simp), est]
    refine wpAny_bind (kas_runs (Q := fun _ st' s' => wpAny c.M A (ksk_tail D false e1 (.ref kS) st') P E s') (G := fun p s' => p = runT lt (kas_sort xs.length) ∧ ∃ g tk', s' = c.sh g tk' ∧ Kept h' g) (by omega) h64 (fun p' st' s' a1 a2 a3 a4 => ?_) ?_)
    · obtain ⟨rfl, g, tk', rfl, kg⟩ := a4
      have s' : SIn c h2 D kS e1 g := ⟨s.kept.trans kg, kg _ _ s.D, _, kg _ _ hkS⟩
      have hps : sortPerm xs.length lt = (runT lt (kas_sort xs.length)).toList := by unfold sortPerm; rw [if_neg h2']
      refine sort_tail (out := List.toArray ((runT lt (kas_sort xs.length)).toList.map fun i => vs.getD i Value.none)) s' (kg _ _ hkS) hne hD hk hz64 ?_ ?_ a3 fun h3 n k3 e3 _ => h h3 n tk' _ k3 e3 ?_
      · rw [a2]
        apply Array.toList_inj.mp
        rw [Array.map_map, Array.toList_map]
        exact List.map_congr_left fun i _ => by show (kas_item _ i).2 = _; rw [zip_get hkv]
      · rw [List.size_toArray, List.length_map, Array.length_toList, a1, sizeLine_eq]; omega
      · rw [hps]
        have : ∀ p : List Nat, (∀ i ∈ p, i < xs.length) → Are R (permL p xs) (p.map fun i => vs.getD i Value.none) (lg c h2) := by
          intro p
          induction p with
          | nil => intro _; exact Are.nil
          | cons i p ih =>
            intro hp
            have hi := hp i List.mem_cons_self
            unfold permL
            rw [List.filterMap_cons, List.getElem?_eq_getElem hi, List.map_cons]
            refine Are.cons ?_ (ih fun j hj => hp j (List.mem_cons_of_mem _ hj))
            refine vr.at' i _ _ (List.getElem?_eq_getElem hi) ?_
            have hi' : i < vs.length := by omega
            simp [hi']
        exact this _ (hps ▸ hp)
    · refine runT_wp (n := xs.length) (I := fun s' => ∃ g tk', s' = c.sh g tk' ∧ Kept h' g) (fun i j s'' C hi hj hI hC => ?_) _ _ _ (has (by omega)) ⟨h', tk, rfl, Kept.refl _⟩ fun s'' hI => ⟨rfl, hI⟩
      obtain ⟨g, tk', rfl, kg⟩ := hI
      unfold kas_cmp
      rw [zip_get hkv, zip_get hkv]
      have s' : SIn c h2 D kS e1 g := ⟨s.kept.trans kg, kg _ _ s.D, _, kg _ _ hkS⟩
      have l' := s'.lt l hD hk
      have arg := ar.stay (kg.lg (c := c.hide2 D kS)).stay
      have gi : ∀ i, i < xs.length → ks[i]? = some (ks.getD i Value.none) := fun i hi => by
        have : i < ks.length := by omega
        simp [this]
      refine hcmp i j xs[i] xs[j] _ _ _ (List.getElem?_eq_getElem hi) (List.getElem?_eq_getElem hj) l'.keep (arg.at' i _ _ (List.getElem?_eq_getElem hi) (gi i hi)) (arg.at' j _ _ (List.getElem?_eq_getElem hj) (gi j hj)) g tk' _ _ ⟨l'.lg.keep, l'.lg.old⟩ fun b g2 tk2 k2 e => ?_
      subst e
      exact hC _ ⟨g2, tk2, rfl, kg.trans k2⟩
theorem sort_rest {A : Around} {E : Value → Shared → Prop} {P : PySem.Fin → Shared → Prop} {lt : Nat → Nat → Bool} {e1 : Nat} {vs : List Value} {h' : Heap} {tk : Nat} {f : Value}
    (l : Lt c h h2) (s : SIn c h2 D kS e1 h') (hkS : h'.get? kS = some (seqObj "list" #[] 0)) (hne : kS ≠ D) (hD : h2.get? D = none) (hk : h2.get? kS = none)
    (vr : Are R xs vs (lg c h2)) (h64 : xs.length < 64) (has : 2 ≤ xs.length → asksT xs.length (kas_sort xs.length) = true) (hp : ∀ i ∈ sortPerm xs.length lt, i < xs.length)
    (hT : ∀ x u g, KK x u g → ∃ a o, u = .ref a ∧ g.get? a = some o ∧ o.cls = T) (hT1 : (T != Value.type "tuple") = true) (hT2 : (T == T) = true)
    (hkey : ∀ (i : Nat) (x : α) v g, xs[i]? = some x → Kept h g → R x v g → Pu { c.hide2 D kS with A := A } (call f [v]) g (KK x))
    (hcmp : ∀ i j x y u v g, xs[i]? = some x → xs[j]? = some y → Kept h g → KK x u g → KK y v g → Pu { c.hide2 D kS with A := A } (keyLt' oneType' u v) g (fun b _ => b = lt i j))
    (h : ∀ h3 n tk' out, Kept h2 h3 → h3.get? D = some (seqObj "list" (List.toArray out) n) → Are R (permL (sortPerm xs.length lt) xs) out (lg c h2) → P (.done (.ret .none)) (c.sh h3 tk')) :
    wpAny c.M A (ksk_rest D f false vs.toArray e1 (.ref kS)) P E (c.sh h' tk) := by
  have hvl := vr.len
  unfold ksk_rest
  refine wpAny_bind (wpAny_rule ?_)
  first
    | rw [List.forIn_toArray]
    | (rw [← Array.forIn_toList]; simp only [List.toList_toArray])
    | rw [← Array.forIn_toList]
  refine wpAny_bind (ksk_fold (fun i s' => ∃ g tk ks e, s' = c.sh g tk ∧ SIn c h2 D kS e1 g ∧ g.get? kS = some (seqObj "list" (List.toArray ks) e) ∧ Are KK (xs.take i) ks (lg (c.hide2 D kS) g)) vs 0 _
    ⟨h', tk, [], 0, rfl, s, hkS, by simpa using Are.nil⟩ ?step ?done)
  case step =>
    rintro j v s' hv ⟨g, tk, ks, e, rfl, s1, hk1, ar⟩
    simp only [Nat.zero_add] at ar ⊢
    have hj : j < vs.length := (List.getElem?_eq_some_iff.mp hv).1
    obtain ⟨x, hx⟩ : ∃ x, xs[j]? = some x := ⟨_, List.getElem?_eq_getElem (by omega)⟩
    have l' := s1.lt l hD hk
    have hkl : ks.length ≤ xs.length := by rw [ar.len, List.length_take]; exact Nat.min_le_right _ _
    have hxv : R x v (lg (c.hide2 D kS) g) := Mo.mo (vr.at' j x v hx hv) fun b o eb q => lg_get (s1.kept _ _ (lg_sub _ _ eb)) fun z => by
      rcases List.mem_cons.mp z with rfl | z
      · rw [lg_sub _ _ eb] at hk; cases hk
      rcases List.mem_cons.mp z with rfl | z
      · rw [lg_sub _ _ eb] at hD; cases hD
      · exact lg_not eb z
    refine wpAny_bind (wpAny_attempt (hkey j x v _ hx l'.keep hxv g tk _ _ ⟨l'.lg.keep, l'.lg.old⟩ fun u g2 tk2 k2 p2 => ?_))
    try dsimp only
    have hk2 := k2 _ _ hk1
    have sb := Heap.SameBut.update g2 kS (Obj.mapSeq (·.push u))
    obtain ⟨c2, hc2⟩ : ∃ c2, (g2.update kS (Obj.mapSeq (·.push u))).get? kS = some (seqObj "list" (ks.toArray.push u) c2) := ⟨_, get?_update_seq hk2 (·.push u)⟩
    have kl : Kept (lg (c.hide2 D kS) g2) (lg (c.hide2 D kS) (g2.update kS (Obj.mapSeq (·.push u)))) := lg_hide2 fun b o _ q e => (sb.2 b q).trans e
    refine wpAny_bind (listUpdate_at (s := c.sh g2 tk2) hk2 rfl ?_ (by rw [List.size_toArray, sizeLine_eq]; omega) (Nat.le_trans (Nat.le_of_eq (Array.size_push ..)) (by rw [List.size_toArray, sizeLine_eq]; omega)))
    refine wpAny_pure ⟨rfl, _, tk2, ks ++ [u], c2, rfl, ⟨fun b o eb => (sb.2 b (fun q => ?_)).trans (k2 _ _ (s1.kept _ _ eb)), (sb.2 D (Ne.symm hne)).trans (k2 _ _ s1.D), _, hc2⟩, ?_, ?_⟩
    · rw [q, hk] at eb; cases eb
    · rw [hc2]; simp
    · rw [List.take_add_one, hx]
      exact ((ar.stay (k2.lg (c := c.hide2 D kS)).stay).stay kl.stay).snoc (Mo.mo p2 kl.stay)
  case done =>
    rintro s' ⟨g, tk, ks, e, rfl, s1, hk1, ar⟩
    rw [List.take_of_length_le (by omega)] at ar
    try dsimp only
    refine wpAny_bind (listItems_at (s := c.sh g tk) hk1 rfl ?_)
    exact sort_end l s1 hk1 hne hD hk ar vr h64 has hp hT hT1 hT2 hcmp h
/-- sorted(it, key=f) -/
theorem b_sortedK {q : Addr} {v : Value} {lt : Nat → Nat → Bool} (hR : c.A.handled = none)
    (hc : Coll c R xs v h) (h64 : xs.length < 64) (has : 2 ≤ xs.length → asksT xs.length (kas_sort xs.length) = true) (hp : ∀ i ∈ sortPerm xs.length lt, i < xs.length)
    (hT : ∀ x u g, KK x u g → ∃ a o, u = .ref a ∧ g.get? a = some o ∧ o.cls = T) (hT1 : (T != Value.type "tuple") = true) (hT2 : (T == T) = true)
    (hkey : ∀ X (i : Nat) (x : α) v g, xs[i]? = some x → Kept h g → R x v g → Pu { c with A := c.A.in1.in1, X := X } (call (.ref q) [v]) g (KK x))
    (hcmp : ∀ X (i j : Nat) x y u v g, xs[i]? = some x → xs[j]? = some y → Kept h g → KK x u g → KK y v g → Pu { c with A := c.A.in1.in1, X := X } (keyLt' oneType' u v) g (fun b _ => b = lt i j)) :
    Pu c (call (.builtin "sorted") [v] [(Str.ofString "key", .ref q)]) h (isL R (permL (sortPerm xs.length lt) xs)) := Pu.mk fun h1 tk Q E l hq => by
  refine call_function_entry_kw kind_sorted plain_sorted entry_sorted (ksk_s1 _ _) ?_
  unfold Builtin.«sorted»
  refine wpAny_bind (m := checkCount "sorted" 1 1 _) (wpAny_pure ?_)
  refine wpAny_bind (hc (c.sh h1 tk) _ _ _ hR l fun vs h2 tk2 k2 vr => ?_)
  have hvl := vr.len
  have l2 := l.trans k2
  refine wpAny_bind (wpAny_newList ?_ (by rw [sizeLine_eq]; omega))
  have hoL : (h2.push (seqObj "list" vs.toArray 0)).get? h2.objs.size = some (seqObj "list" vs.toArray 0) := Heap.get?_push_size _ rfl
  have hD : h2.get? h2.objs.size = none := Heap.get?_none_of_le (Nat.le_refl _)
  refine wpAny_bind (wpAny_holding (wpAny_call_entry_kw slot_list_sort ⟨_, hoL, rfl⟩ entry_list_sort ?body (ksk_l1 _ _)))
  case body =>
    show wpAny c.M c.A.in1.in1 (Builtin.«list.sort» ⟨[.ref h2.objs.size], [(Str.ofString "key", .ref q)]⟩) _ _ (c.sh (h2.push (seqObj "list" vs.toArray 0)) tk2)
    rw [ksk_t1]
    generalize hDe : h2.objs.size = D at hoL hD ⊢
    have s1 := Heap.SameBut.update (h2.push (seqObj "list" vs.toArray 0)) D (Obj.mapSeq fun _ => (#[] : Array Value))
    obtain ⟨e1, ho1⟩ : ∃ e1, ((h2.push (seqObj "list" vs.toArray 0)).update D (Obj.mapSeq fun _ => (#[] : Array Value))).get? D = some (seqObj "list" #[] e1) := ⟨_, get?_update_seq hoL fun _ => #[]⟩
    have kp : Kept h2 ((h2.push (seqObj "list" vs.toArray 0)).update D (Obj.mapSeq fun _ => (#[] : Array Value))) := fun b o e => (s1.2 b (fun q => by rw [q, hD] at e; cases e)).trans (Heap.get?_push_of_some _ e)
    generalize hH3 : (h2.push (seqObj "list" vs.toArray 0)).update D (Obj.mapSeq fun _ => (#[] : Array Value)) = H3 at ho1 kp
    unfold ksk_tree
    refine wpAny_bind (listItems_at (s := c.sh _ tk2) hoL rfl ?_)
    refine wpAny_bind (listUpdate_at (s := c.sh _ tk2) hoL rfl ?_ (by rw [List.size_toArray, sizeLine_eq]; omega) (Nat.zero_le _))
    show wpAny c.M _ _ _ _ (c.sh ((h2.push (seqObj "list" vs.toArray 0)).update D (Obj.mapSeq fun _ => (#[] : Array Value))) tk2)
    rw [hH3]
    refine wpAny_bind (seqEpoch_at (s := c.sh H3 tk2) ho1 rfl ?_)
    refine wpAny_bind (wpAny_newTuple ?_ (by show vs.length ≤ _; rw [sizeLine_eq]; omega))
    refine wpAny_bind (wpAny_newList ?_ (Nat.zero_le _))
    have hH4 : Kept H3 (H3.push (seqObj "tuple" vs.toArray 0)) := Kept.push _ _
    refine wpAny_holding ?_
    show wpAny c.M _ (ksk_rest D (.ref q) false vs.toArray e1 (.ref (H3.push (seqObj "tuple" vs.toArray 0)).objs.size)) _ _ (c.sh ((H3.push (seqObj "tuple" vs.toArray 0)).push (seqObj "list" #[] 0)) tk2)
    generalize H3.push (seqObj "tuple" vs.toArray 0) = H4 at hH4 ⊢
    have hkS : (H4.push (seqObj "list" #[] 0)).get? H4.objs.size = some (seqObj "list" #[] 0) := Heap.get?_push_size _ rfl
    have hk4 : H4.get? H4.objs.size = none := Heap.get?_none_of_le (Nat.le_refl _)
    have hkn : h2.get? H4.objs.size = none := by
      cases z : h2.get? H4.objs.size with
      | none => rfl
      | some o => have := hH4 _ _ (kp _ _ z); rw [hk4] at this; cases this
    refine sort_rest (h := h) (D := D) (T := T) (KK := KK) (R := R) (lt := lt) l2 ⟨kp.trans (hH4.trans (Kept.push _ _)), Kept.push _ _ _ _ (hH4 _ _ ho1), _, hkS⟩ hkS (fun z => ?_) hD hkn vr h64 has hp hT hT1 hT2 (fun i x v g => hkey _ i x v g) (fun i j x y u v g => hcmp _ i j x y u v g) fun h3 n tk' out k3 e3 ar => ⟨_, rfl, ?_⟩
    · rw [z] at hk4; rw [hH4 _ _ ho1] at hk4; cases hk4
    · refine wpAny_pure ⟨_, rfl, hq _ h3 tk' (k2.trans k3) ⟨D, out, n, rfl, lg_get e3 (fun z => ?_), ar.stay k3.lg.stay⟩⟩
      obtain ⟨o, e⟩ := l2.old D z
      rw [e] at hD; cases hD
end
end Mine
end

section
-- PL14
open PySem PySem.W PyProof.Rows PySem.Spec PySem.Calls
set_option maxRecDepth 100000
namespace Mine
section
variable {c : Cx} {h : Heap} {P : VP} {env : Env}
/-- entry of a def of one return, with what it closes over -/
theorem Pu.enterR {name qual : Str} {params : Arguments} {e : Expr} {p : Pos} {scope : Scope} {cl : List (Str × Addr)} {dV kV doc pm cdv ct : Value} {an : Option Addr} {fo : Obj} {f : Addr} {vs : List Value} {binds : List (Str × Value)}
    (ho : h.get? f = some fo) (hd : fo.data = .func (fnX name qual params [.Return (some e) p] scope cl dV kV doc pm an cdv ct)) (hcd : h.CodeRec cdv qual) (hlim : h.NoLimit) (hroom : Room c.A 1)
    (hbind : ∀ s : Shared, Kept h s.heap → BindsTo s (fnX name qual params [.Return (some e) p] scope cl dV kV doc pm an cdv ct) ⟨vs, []⟩ binds)
    (hloc : ∀ y ∈ binds, scope.names.lookup y.1 = some .local) (hcell : ∀ x ∈ scope.names, x.2 ≠ .cell)
    (hb : ∀ g L, Kept h g → g.Ns L (fun y => binds.reverse.lookup y) → Ev { c with A := c.A.deeper (envX qual scope L f cdv cl) } (envX qual scope L f cdv cl) e g P)
    (hco : scope.isCoroutine = false := by rfl) (hgen : scope.isGenerator = false := by rfl) (hk : scope.kind = .function := by rfl) : Pu c (call (.ref f) vs) h P := by
  refine Pu.mk fun h1 tk Q E k hq => ?_
  refine wpAny_call ?_
  refine codeAny_call_def (fd := fnX name qual params [.Return (some e) p] scope cl dV kV doc pm an cdv ct) (body := [.Return (some e) p]) (binds := binds) (Nat.lt_of_succ_lt (hroom.depth : c.A.depth + 1 < recursionLimit)) (k.top _ _ ho) hd (hlim.keeps k.top) (hcd.keeps k.top) rfl (hbind _ k.top) hcell hloc (fun h2 hns hk2 => ?_) hco hgen hk
  have l2 := k.trans (h2 := h2) hk2
  refine wpAny_execs_cons (wpAny_Return_some ?_)
  refine hb (lg c h2) _ l2.keep (hns.at' fun o eo => lg_get eo (k.new (Heap.get?_none_of_le (Nat.le_refl _)))) h2 (tk + binds.length) _ _ ⟨l2.lg.keep, l2.lg.old⟩ fun v h3 tk3 k3 p3 => ?_
  exact hq v h3 tk3 (Kept.trans hk2 k3) p3
/-- o.a of a name -/
theorem Ev.attrN {P1 : VP} {x attr : Str} {np pos : Pos} (hx : Ev c env (.Name x np) h P1) (hg : ∀ v h', Kept h h' → P1 v h' → Pu c (getAttr v attr true) h' P) : Ev c env (.Attribute (.Name x np) attr pos) h P :=
  Pu.mk fun h1 tk Q E k hq => Attribute_name (hx h1 tk _ E k fun v h2 tk2 k2 p =>
    hg v _ (k.trans k2).keep p h2 tk2 Q E (k.trans k2).lg fun v' h3 tk3 k3 r => hq v' h3 tk3 (k2.trans k3) r)
end
end Mine
end

section
-- B1z
open PySem PySem.W PyProof.Rows PySem.Spec PySem.Calls
set_option maxRecDepth 100000
set_option maxHeartbeats 8000000
namespace Mine
theorem KCls.keeps {w : World} {h h' : Heap} {k : Codes} {C : Addr} {v : Value} (hc : KCls w h k C v) (hk : Kept h h') : KCls w h' k C v := by
  obtain ⟨ad, ut, hC, hNS, hmd, hcell, hf0, hf1, hf2, hf3, hf4, hf5⟩ := hc
  exact ⟨ad, ut, hk _ _ hC, hk _ _ hNS, hk _ _ hmd, hk _ _ hcell, hk _ _ hf0, hk _ _ hf1, hk _ _ hf2, hk _ _ hf3, hk _ _ hf4, hk _ _ hf5⟩
/-- the context of the given program, without generators -/
structure Cy (c : Cx) : Prop where
  prog : c.prog = PRG
  gens : c.g = #[]
theorem K_get {c : Cx} (hy : Cy c) {h : Heap} {k : Codes} {C i dd : Addr} {v x : Value} (hc : KCls c.w h k C v) (hi : h.get? i = some (insO C dd x)) (hx : handedOut x = pure x) : Pu c (getAttr (.ref i) (Str.ofString "obj") true) h (isV x) := by
  obtain ⟨prog, w, A, g, d, os, X⟩ := c
  obtain ⟨rfl, rfl⟩ := hy
  refine Pu.mk fun h1 tk Q E l hq => ?_
  have hc1 := hc.keeps l.top
  have hi1 := l.top _ _ hi
  obtain ⟨ad, ut, hC, hNS, -⟩ := id hc1
  show wpAny (model PRG w) A _ Q E ⟨h1, #[], d, tk, os⟩
  refine' e_fresh ?ht (fun v1 tk' => ?_); (case ht => with_unfolding_all rfl)
  refine' e_load ?ht hi1 ?_; (case ht => with_unfolding_all rfl)
  refine' e_load ?ht hC ?_; (case ht => with_unfolding_all rfl)
  refine' e_load ?ht hC ?_; (case ht => with_unfolding_all rfl)
  refine' e_load ?ht hNS ?_; (case ht => with_unfolding_all rfl)
  refine' e_call ?ht ?_; (case ht => with_unfolding_all rfl)
  refine' s_getobj hc1 hi1 (fun tk4 => ?_); (try exact [])
  refine Calls.wpAny_keep ?_
  show wpAny _ A (handedOut x) Q E _
  rw [hx]
  refine wpAny_pure ?_
  exact hq x h1 tk4 (Kept.refl _) rfl
end Mine
end

section
-- B2z
open PySem PySem.W PyProof.Rows PySem.Spec PySem.Calls
set_option maxRecDepth 100000
set_option maxHeartbeats 8000000
namespace Mine
theorem Cy.at {c : Cx} (hy : Cy c) (A : Around) (X : List Addr) : Cy { c with A := A, X := X } := ⟨hy.prog, hy.gens⟩
theorem K_lt {c : Cx} (hy : Cy c) (hR : Room c.A 4) {h : Heap} {k : Codes} {C i j di dj f f1 cell g1 : Addr} {x y : Value} {fo : Obj} {fd : FuncData} {z : Int} (hc : KCls c.w h k C (.ref f)) (hk : IsCodeO h k.c1 "__lt__" 11) (hlim : h.NoLimit)
    (hf1 : h.get? f1 = some (fnO 3 "__lt__" [(Str.ofString "mycmp", cell)] k.c1 (.ref g1))) (hcell : h.get? cell = some (cellO (.ref f)))
    (hi : h.get? i = some (insO C di x)) (hj : h.get? j = some (insO C dj y)) (hx : handedOut x = pure x) (hx' : handedOut y = pure y)
    (hf : h.get? f = some fo) (hfd : fo.data = .func fd) (hcmp : ∀ A g, Room A 3 → Kept h g → Pu { c with A := A } (call (.ref f) [x, y]) g (isI z)) : Pu c (call (.ref f1) [.ref i, .ref j]) h (isB (decide (z < 0))) := by
  have hcell' : h.IsCell cell (some (.ref f)) := ⟨_, hcell, rfl⟩
  obtain ⟨cb, ct, hcode⟩ := hk
  refine Pu.enterR (binds := [(Str.ofString "self", .ref i), (Str.ofString "other", .ref j)]) hf1 (by with_unfolding_all rfl) ⟨k.c1, _, _, _, by with_unfolding_all rfl, hcode, by with_unfolding_all rfl, by with_unfolding_all rfl⟩ hlim (hR.le (by decide)) (fun s _ => BindsTo.of_eq (by with_unfolding_all rfl)) ?_ ?_ (fun g L kg hns => ?_) (by with_unfolding_all rfl) (by with_unfolding_all rfl) (by with_unfolding_all rfl)
  · intro q hq
    rcases List.mem_cons.mp hq with rfl | hq
    · with_unfolding_all rfl
    · obtain rfl := List.mem_singleton.mp hq
      with_unfolding_all rfl
  · with_unfolding_all decide
  · skip
    refine Ev.lt (y := 0) (Ev.callF (Ps := [isV x, isV y]) (Ev.free (P := isV (.ref f)) ((hcell' : h.IsCell cell (some (.ref f))).keeps kg) (fun _ _ => rfl) (by with_unfolding_all rfl) (by with_unfolding_all rfl) (by with_unfolding_all rfl)) (kg _ _ hf) hfd ?_ ?_ ) .cint (by with_unfolding_all rfl)
    · refine EA.cons (P := isV x) (Ev.attrN (P1 := isV (.ref i)) (Ev.loc hns (by with_unfolding_all rfl) (fun _ _ => rfl) (by with_unfolding_all rfl) (by with_unfolding_all rfl)) fun v h' k' e => ?_) (EA.cons (P := isV y) (Ev.attrN (P1 := isV (.ref j)) (Ev.loc hns (by with_unfolding_all rfl) (fun _ _ => rfl) (by with_unfolding_all rfl) (by with_unfolding_all rfl)) fun v h' k' e => ?_) EA.nil)
      · cases e
        exact K_get (hy.at _ _) (hc.keeps (kg.trans k')) ((kg.trans k') _ _ hi) hx
      · cases e
        exact K_get (hy.at _ _) (hc.keeps (kg.trans k')) ((kg.trans k') _ _ hj) hx'
    · intro vs h' k' a
      obtain ⟨u, v, rfl, rfl, rfl⟩ := a.two
      exact hcmp _ _ (hR.deeper _) (kg.trans k')
end Mine
end

section
-- B3z
open PySem PySem.W PyProof.Rows PySem.Spec PySem.Calls
set_option maxRecDepth 100000
set_option maxHeartbeats 8000000
namespace Mine
theorem K_cmp {c : Cx} (hy : Cy c) (hR : Room c.A 5) {h : Heap} {k : Codes} {C i j di dj f : Addr} {x y : Value} {fo : Obj} {fd : FuncData} {z : Int} (hc : KCls c.w h k C (.ref f)) (hk : KCodes h k) (hlim : h.NoLimit)
    (hi : h.get? i = some (insO C di x)) (hj : h.get? j = some (insO C dj y)) (hx : handedOut x = pure x) (hx' : handedOut y = pure y)
    (hf : h.get? f = some fo) (hfd : fo.data = .func fd) (hcmp : ∀ A g, Room A 3 → Kept h g → Pu { c with A := A } (call (.ref f) [x, y]) g (isI z)) : Pu c (keyLt' oneType' (.ref i) (.ref j)) h (fun b _ => b = decide (z < 0)) := by
  obtain ⟨ad, ut, hC, hNS, hmd, hcell, hf0, hf1, -⟩ := id hc
  have lt := K_lt hy (hR.le (by decide)) hc hk.m1 hlim hf1 hcell hi hj hx hx' hf hfd hcmp
  refine Pu.mk fun h1 tk Q E l hq => ?_
  rw [keyLt'_oneType, oneLt'_eq, if_pos rfl]
  refine wpAny_bind (wpAny_cRoomFor (by have := hR.units; omega) ?_)
  have X : h1.OwnSpecial i C (ad 6) "object" (Str.ofString "__lt__") := by
    refine ⟨_, _, _, _, (ad 0), _, [.type "object"], _, _, _, _, _, _, _, _, _, _, _, _, _, some (.builtin "object.__lt__"), l.top _ _ hi, rfl, l.top _ _ hC, ⟨_, _, _, l.top _ _ hNS, rfl, ?_, fun _ => rfl⟩, ?_, l.top _ _ hf1, rfl, (by kernel_rfl), ?_⟩
    · intro e he
      simp only [List.mem_toArray, List.mem_cons, List.not_mem_nil, or_false] at he
      rcases he with rfl | rfl | rfl | rfl | rfl | rfl | rfl | rfl | rfl | rfl | rfl | rfl | rfl <;> exact ⟨_, _, rfl⟩
    · with_unfolding_all rfl
    · rw [typeLookup_type, builtinLookup_eq_fast]; kernel_rfl
  refine wpAny_bind (wpAny_callSpecialIfBound?_own X (lt h1 tk _ _ l fun v h2 tk2 k2 p2 => ?_))
  cases p2
  exact wpAny_truthy_bool (hq _ h2 tk2 k2 rfl)
end Mine
end

section
-- B4z
open PySem PySem.W PyProof.Rows PySem.Spec PySem.Calls PySem.W.X
set_option maxRecDepth 100000
set_option maxHeartbeats 8000000
namespace Mine
/-- an instance of the class C, over a value of which R x holds -/
def isK {α : Type} (C : Addr) (R : α → VP) (x : α) : VP := fun v h => ∃ i dd u, v = .ref i ∧ h.get? i = some (insO C dd u) ∧ R x u h
instance {α : Type} {C : Addr} {R : α → VP} [∀ x, Mo (R x)] {x : α} : Mo (isK C R x) := ⟨fun ⟨i, dd, u, e, ho, r⟩ s => ⟨i, dd, u, e, s _ _ ho rfl, Mo.mo r s⟩⟩
theorem KCodes.keeps {h h' : Heap} {k : Codes} (hc : KCodes h k) (hk : Kept h h') : KCodes h' k := by
  obtain ⟨t, ⟨b0, t0, t1, t2, t3, t4, e⟩, kt, m0, m1, m2, m3, m4, m5⟩ := hc
  have hm : ∀ {a n l}, IsCodeO h a n l → IsCodeO h' a n l := fun ⟨cb, ct, e⟩ => ⟨cb, ct, hk _ _ e⟩
  exact ⟨hk _ _ t, ⟨b0, t0, t1, t2, t3, t4, hk _ _ e⟩, hk _ _ kt, hm m0, hm m1, hm m2, hm m3, hm m4, hm m5⟩
theorem K_new {α : Type} {R : α → VP} [∀ x, Mo (R x)] {c : Cx} (hy : Cy c) (hh : c.A.handled = none) (hd : c.A.depth ≤ 500) (hu : c.A.units ≤ 2000) {h : Heap} {k : Codes} {C : Addr} {v u : Value} {x : α} (hc : KCls c.w h k C v) (hk : KCodes h k) (hO2 : h.get? 2 = some statO) (hx : R x u h) :
    Pu c (call (.ref C) [u]) h (isK C R x) := by
  obtain ⟨prog, w, A, g, d, os, X⟩ := c
  obtain ⟨rfl, rfl⟩ := hy
  refine Pu.mk fun h1 tk Q E l hq => ?_
  show wpAny (model PRG w) A _ Q E ⟨h1, #[], d, tk, os⟩
  refine' e_call ?ht ?_; (case ht => with_unfolding_all rfl)
  refine s_new (hc.keeps l.top) (hk.keeps l.top) (l.top _ _ hO2) (by have hd : A.depth ≤ 500 := hd; have : recursionLimit = 1000 := rfl; omega) (fun r dd h' tk' D => ?_)
  have kk : Kept h1 h' := fun b o e => D.keep b o e List.not_mem_nil
  refine e_pure (by with_unfolding_all rfl) ?_
  refine hq _ h' tk' kk ⟨r, dd, u, rfl, lg_get (D.at 0 _ _ rfl) (l.new ?_), Mo.mo hx (l.keep.trans kk.lg).stay⟩
  rcases (D.own _ (List.mem_of_getElem? (i := 0) rfl)).2 with q | q
  · exact q
  · cases q
end Mine
end

section
-- B5z
open PySem PySem.W PyProof.Rows PySem.Spec PySem.Calls PySem.W.X
set_option maxRecDepth 100000
set_option maxHeartbeats 8000000
namespace Mine
/-- the code table of cmp_to_key: empty, or filled by its first call -/
def KTab (h : Heap) : Prop := h.get? 16 = some (tabO #[]) ∨ ∃ k, KCodes h k
/-- what the making of the class reads -/
structure KBase (w : World) (h : Heap) : Prop where
  b : ∃ mb mg : Str → Option Value, h.Ns 0 mb ∧ mb "__build_class__" = some (.builtin "__build_class__") ∧ mb "object" = some (.type "object") ∧ h.Ns 3 mg ∧ mg "object" = none
  o1 : ∃ o, h.get? 1 = some o
  o2 : h.get? 2 = some statO
  o3 : h.get? 3 = some (KO w 3)
  o4 : ∃ sl : Array (Option Value), h.get? 4 = some ⟨.type "module", some 0, .plain, sl⟩
  o20 : h.get? 20 = some (KO w 20)
  o21 : h.get? 21 = some (KO w 21)
theorem KBase.of {w : World} {h h' : Heap} (x : KBase w h) (k : ∀ a o, a ≤ 21 → a ≠ 16 → h.get? a = some o → h'.get? a = some o) : KBase w h' := by
  obtain ⟨mb, mg, q1, q2, q3, q4, q5⟩ := x.b
  obtain ⟨o, q6⟩ := x.o1
  obtain ⟨sl, q7⟩ := x.o4
  exact ⟨⟨mb, mg, q1.at' fun o e => k _ o (by decide) (by decide) e, q2, q3, q4.at' fun o e => k _ o (by decide) (by decide) e, q5⟩, ⟨o, k _ _ (by decide) (by decide) q6⟩, k _ _ (by decide) (by decide) x.o2, k _ _ (by decide) (by decide) x.o3, ⟨sl, k _ _ (by decide) (by decide) q7⟩, k _ _ (by decide) (by decide) x.o20, k _ _ (by decide) (by decide) x.o21⟩
theorem K_make {c : Cx} (hy : Cy c) (hR : Room c.A 10) {h1 : Heap} {tk : Nat} {v : Value} {Q : Value → Shared → Prop} {E : Value → Shared → Prop} (hb : KBase c.w h1) (ht : KTab h1)
    (hq : ∀ C k h2 tk2, KB (· = 16) h1 h2 → KCls c.w h2 k C v → KCodes h2 k → Q (.ref C) (c.sh h2 tk2)) : wpAny c.M c.A (call (.ref 21) [v]) Q E (c.sh h1 tk) := by
  obtain ⟨prog, w, A, g, d, os, X⟩ := c
  obtain ⟨rfl, rfl⟩ := hy
  have hdp : A.depth + 10 < recursionLimit := hR.depth
  show wpAny (model PRG w) A _ Q E ⟨h1, #[], d, tk, os⟩
  refine' e_call ?ht ?_; (case ht => with_unfolding_all rfl)
  obtain ⟨mb, mg, q1, q2, q3, q4, q5⟩ := hb.b
  obtain ⟨sl, q7⟩ := hb.o4
  rcases ht with ht | ⟨⟨kc, kt, c0, c1, c2, c3, c4, c5⟩, hk⟩
  · refine ctk1 q1 q2 q3 q4 q5 hb.o1 hb.o2 hb.o3 q7 hb.o20 hb.o21 ht hdp ?_
    intros
    rename_i D
    refine e_pure (by with_unfolding_all rfl) ?_
    refine hq _ ⟨_, _, _, _, _, _, _, _⟩ _ _ (fun b o e q => D.keep b o e (by simpa using q)) (KCls.mk' (D.at 1 _ _ rfl) (D.at 2 _ _ rfl) (D.at 0 _ _ rfl) (D.at 17 _ _ rfl) (D.at 13 _ _ rfl) (D.at 11 _ _ rfl) (D.at 9 _ _ rfl) (D.at 7 _ _ rfl) (D.at 5 _ _ rfl) (D.at 3 _ _ rfl))
      ⟨D.at 18 _ _ rfl, ⟨_, _, _, _, _, _, D.at 15 _ _ rfl⟩, D.at 16 _ _ rfl, (IsCodeO.mk' (D.at 14 _ _ rfl)), (IsCodeO.mk' (D.at 12 _ _ rfl)), (IsCodeO.mk' (D.at 10 _ _ rfl)), (IsCodeO.mk' (D.at 8 _ _ rfl)), (IsCodeO.mk' (D.at 6 _ _ rfl)), (IsCodeO.mk' (D.at 4 _ _ rfl))⟩
  · obtain ⟨ht16, ⟨b0, t0, t1, t2, t3, t4, hkc⟩, hkt, m0, m1, m2, m3, m4, m5⟩ := id hk
    refine ctk2 q1 q2 q3 q4 q5 hb.o1 hb.o2 hb.o3 q7 hb.o20 hb.o21 ht16 hkc hkt hdp ?_
    intros
    rename_i D
    have kk : Kept h1 _ := fun b o e => D.keep b o e List.not_mem_nil
    refine e_pure (by with_unfolding_all rfl) ?_
    exact hq _ ⟨kc, kt, c0, c1, c2, c3, c4, c5⟩ _ _ kk.kb (KCls.mk' (D.at 1 _ _ rfl) (D.at 2 _ _ rfl) (D.at 0 _ _ rfl) (D.at 9 _ _ rfl) (D.at 8 _ _ rfl) (D.at 7 _ _ rfl) (D.at 6 _ _ rfl) (D.at 5 _ _ rfl) (D.at 4 _ _ rfl) (D.at 3 _ _ rfl)) (hk.keeps kk)
end Mine
end

section
-- B6z
open PySem PySem.W PyProof.Rows PySem.Spec PySem.Calls PySem.W.X
set_option maxRecDepth 100000
set_option maxHeartbeats 8000000
namespace Mine
/-- instances of two classes of cmp_to_key's -/
theorem rc_other {prog : Program} {w : World} {A : Around} {E : Value → Shared → Prop} {h : Heap} {g : Array GenState} {d : Drawn} {t : Nat} {os : OsState} {C D x y fA NS bT : Addr} {tn tq : Tok} {B : String} {op : CmpOp} {sym : String} {f r : Str} {oy : Obj} {Q : Value → Shared → Prop}
    (hop : cmpInfo op = (sym, f, r)) (X : h.OwnSpecial x C fA B f) (hy : h.get? y = some oy) (hyc : oy.cls = .ref D) (hD : h.get? D = some (clsO D NS bT tn tq)) (hne : D ≠ C) (hu : A.units < cLine)
    (hcall : wpAny (model prog w) A (call (.ref fA) [.ref x, .ref y]) (fun v s' => ∃ b, v = .bool b ∧ Q (.bool b) s') E ⟨h, g, d, t, os⟩) :
    wpAny (model prog w) A (richCompare op (.ref x) (.ref y)) Q E ⟨h, g, d, t, os⟩ := by
  have X' := X
  obtain ⟨o, of, nm, q, N, bs, bm, hdct, sn, sub, ab, col, dd, k0, k1, k2, k3, k5, newId, mN, yv, hx, hc, _⟩ := X'
  unfold richCompare
  simp only [oneThing_ref]
  refine wpAny_holding ?_
  refine wpAny_bind (wpAny_cRoomFor hu ?_)
  rw [hop]
  dsimp only
  refine wpAny_bind (wpAny_typeOf_ref hx ?_)
  rw [hc]
  refine wpAny_bind (wpAny_typeOf_ref hy ?_)
  rw [hyc]
  rw [show (Value.ref C != Value.ref D) = true from by simpa using fun z => hne z.symm]
  simp only [if_true]
  refine wpAny_bind (m := isSubtype (.ref D) (.ref C)) ?_
  refine e_load (a := D) (by with_unfolding_all rfl) hD ?_
  refine e_pure (a := [Value.ref D, Value.type "object"].contains (Value.ref C)) (by with_unfolding_all rfl) ?_
  rw [show [Value.ref D, Value.type "object"].contains (Value.ref C) = false by
    have : ¬ C = D := fun z => hne z.symm
    simp [this]]
  simp only [Bool.false_eq_true, if_false]
  unfold tryCompare
  refine wpAny_bind (wpAny_bind (wpAny_callSpecialIfBound?_own X (wpAny_mono hcall (fun v s' hv => ?_) fun _ _ e => e)))
  obtain ⟨b, rfl, hq⟩ := hv
  exact wpAny_pure (wpAny_pure hq)
theorem K2_lt {c : Cx} (hy : Cy c) (hR : Room c.A 4) {h : Heap} {k k2 : Codes} {C D i j di dj f f2 f1' cell g1 : Addr} {x y : Value} {fo : Obj} {fd : FuncData} {z : Int} (hc : KCls c.w h k C (.ref f)) (hD : KCls c.w h k2 D (.ref f2)) (hk : IsCodeO h k.c1 "__lt__" 11) (hlim : h.NoLimit)
    (hf1 : h.get? f1' = some (fnO 3 "__lt__" [(Str.ofString "mycmp", cell)] k.c1 (.ref g1))) (hcell : h.get? cell = some (cellO (.ref f)))
    (hi : h.get? i = some (insO C di x)) (hj : h.get? j = some (insO D dj y)) (hx : handedOut x = pure x) (hx' : handedOut y = pure y)
    (hf : h.get? f = some fo) (hfd : fo.data = .func fd) (hcmp : ∀ A g, Room A 3 → Kept h g → Pu { c with A := A } (call (.ref f) [x, y]) g (isI z)) : Pu c (call (.ref f1') [.ref i, .ref j]) h (isB (decide (z < 0))) := by
  have hcell' : h.IsCell cell (some (.ref f)) := ⟨_, hcell, rfl⟩
  obtain ⟨cb, ct, hcode⟩ := hk
  refine Pu.enterR (binds := [(Str.ofString "self", .ref i), (Str.ofString "other", .ref j)]) hf1 (by with_unfolding_all rfl) ⟨k.c1, _, _, _, by with_unfolding_all rfl, hcode, by with_unfolding_all rfl, by with_unfolding_all rfl⟩ hlim (hR.le (by decide)) (fun s _ => BindsTo.of_eq (by with_unfolding_all rfl)) ?_ ?_ (fun g L kg hns => ?_) (by with_unfolding_all rfl) (by with_unfolding_all rfl) (by with_unfolding_all rfl)
  · intro q hq
    rcases List.mem_cons.mp hq with rfl | hq
    · with_unfolding_all rfl
    · obtain rfl := List.mem_singleton.mp hq
      with_unfolding_all rfl
  · with_unfolding_all decide
  · refine Ev.lt (y := 0) (Ev.callF (Ps := [isV x, isV y]) (Ev.free (P := isV (.ref f)) ((hcell' : h.IsCell cell (some (.ref f))).keeps kg) (fun _ _ => rfl) (by with_unfolding_all rfl) (by with_unfolding_all rfl) (by with_unfolding_all rfl)) (kg _ _ hf) hfd ?_ ?_ ) .cint (by with_unfolding_all rfl)
    · refine EA.cons (P := isV x) (Ev.attrN (P1 := isV (.ref i)) (Ev.loc hns (by with_unfolding_all rfl) (fun _ _ => rfl) (by with_unfolding_all rfl) (by with_unfolding_all rfl)) fun v h' k' e => ?_) (EA.cons (P := isV y) (Ev.attrN (P1 := isV (.ref j)) (Ev.loc hns (by with_unfolding_all rfl) (fun _ _ => rfl) (by with_unfolding_all rfl) (by with_unfolding_all rfl)) fun v h' k' e => ?_) EA.nil)
      · cases e
        exact K_get (hy.at _ _) (hc.keeps (kg.trans k')) ((kg.trans k') _ _ hi) hx
      · cases e
        exact K_get (hy.at _ _) (hD.keeps (kg.trans k')) ((kg.trans k') _ _ hj) hx'
    · intro vs h' k' a
      obtain ⟨u, v, rfl, rfl, rfl⟩ := a.two
      exact hcmp _ _ (hR.deeper _) (kg.trans k')
theorem Kop_lt {c : Cx} (hy : Cy c) (hR : Room c.A 5) {h : Heap} {k k2 : Codes} {C D i j di dj f f2 : Addr} {x y : Value} {fo : Obj} {fd : FuncData} {z : Int} (hc : KCls c.w h k C (.ref f)) (hD : KCls c.w h k2 D (.ref f2)) (hk : IsCodeO h k.c1 "__lt__" 11) (hlim : h.NoLimit)
    (hi : h.get? i = some (insO C di x)) (hj : h.get? j = some (insO D dj y)) (hx : handedOut x = pure x) (hx' : handedOut y = pure y)
    (hf : h.get? f = some fo) (hfd : fo.data = .func fd) (hcmp : ∀ A g, Room A 3 → Kept h g → Pu { c with A := A } (call (.ref f) [x, y]) g (isI z)) : Pu c (compareOp .Lt (.ref i) (.ref j)) h (isB (decide (z < 0))) := by
  obtain ⟨ad, ut, hC, hNS, hmd, hcell, hf0, hf1, hf2, hf3, hf4, hf5⟩ := id hc
  obtain ⟨ad2, ut2, hC2, -⟩ := id hD
  have lt := K2_lt hy (hR.le (by decide)) hc hD hk hlim hf1 hcell hi hj hx hx' hf hfd hcmp
  refine Pu.mk fun h1 tk Q E l hq => ?_
  have X : h1.OwnSpecial i C (ad 6) "object" (Str.ofString "__lt__") := by
    refine ⟨_, _, _, _, (ad 0), _, [.type "object"], _, _, _, _, _, _, _, _, _, _, _, _, _, some (.builtin "object.__lt__"), l.top _ _ hi, rfl, l.top _ _ hC, ⟨_, _, _, l.top _ _ hNS, rfl, ?_, fun _ => rfl⟩, ?_, l.top _ _ hf1, rfl, (by kernel_rfl), ?_⟩
    · intro e he
      simp only [List.mem_toArray, List.mem_cons, List.not_mem_nil, or_false] at he
      rcases he with rfl | rfl | rfl | rfl | rfl | rfl | rfl | rfl | rfl | rfl | rfl | rfl | rfl <;> exact ⟨_, _, rfl⟩
    · with_unfolding_all rfl
    · rw [typeLookup_type, builtinLookup_eq_fast]; kernel_rfl
  have call : wpAny (model c.prog c.w) c.A (PySem.call (.ref (ad 6)) [.ref i, .ref j]) (fun v s' => ∃ b, v = .bool b ∧ Q (.bool b) s') E (c.sh h1 tk) := lt h1 tk _ _ l fun v h2 tk2 k2 p2 => by
    cases p2
    exact ⟨_, rfl, hq _ h2 tk2 k2 rfl⟩
  have hu : c.A.units < cLine := Nat.lt_of_le_of_lt (Nat.le_add_right _ _) hR.units
  show wpAny _ _ (richCompare .Lt (.ref i) (.ref j)) _ _ _
  by_cases q : D = C
  · subst q
    exact richCompare_own_same rfl X (l.top _ _ hj) rfl hu call
  · exact rc_other rfl X (l.top _ _ hj) rfl (l.top _ _ hC2) q hu call
theorem K2_gt {c : Cx} (hy : Cy c) (hR : Room c.A 4) {h : Heap} {k k2 : Codes} {C D i j di dj f f2 f2' cell g1 : Addr} {x y : Value} {fo : Obj} {fd : FuncData} {z : Int} (hc : KCls c.w h k C (.ref f)) (hD : KCls c.w h k2 D (.ref f2)) (hk : IsCodeO h k.c2 "__gt__" 14) (hlim : h.NoLimit)
    (hf1 : h.get? f2' = some (fnO 4 "__gt__" [(Str.ofString "mycmp", cell)] k.c2 (.ref g1))) (hcell : h.get? cell = some (cellO (.ref f)))
    (hi : h.get? i = some (insO C di x)) (hj : h.get? j = some (insO D dj y)) (hx : handedOut x = pure x) (hx' : handedOut y = pure y)
    (hf : h.get? f = some fo) (hfd : fo.data = .func fd) (hcmp : ∀ A g, Room A 3 → Kept h g → Pu { c with A := A } (call (.ref f) [x, y]) g (isI z)) : Pu c (call (.ref f2') [.ref i, .ref j]) h (isB (decide (0 < z))) := by
  have hcell' : h.IsCell cell (some (.ref f)) := ⟨_, hcell, rfl⟩
  obtain ⟨cb, ct, hcode⟩ := hk
  refine Pu.enterR (binds := [(Str.ofString "self", .ref i), (Str.ofString "other", .ref j)]) hf1 (by with_unfolding_all rfl) ⟨k.c2, _, _, _, by with_unfolding_all rfl, hcode, by with_unfolding_all rfl, by with_unfolding_all rfl⟩ hlim (hR.le (by decide)) (fun s _ => BindsTo.of_eq (by with_unfolding_all rfl)) ?_ ?_ (fun g L kg hns => ?_) (by with_unfolding_all rfl) (by with_unfolding_all rfl) (by with_unfolding_all rfl)
  · intro q hq
    rcases List.mem_cons.mp hq with rfl | hq
    · with_unfolding_all rfl
    · obtain rfl := List.mem_singleton.mp hq
      with_unfolding_all rfl
  · with_unfolding_all decide
  · refine Ev.gt (y := 0) (Ev.callF (Ps := [isV x, isV y]) (Ev.free (P := isV (.ref f)) ((hcell' : h.IsCell cell (some (.ref f))).keeps kg) (fun _ _ => rfl) (by with_unfolding_all rfl) (by with_unfolding_all rfl) (by with_unfolding_all rfl)) (kg _ _ hf) hfd ?_ ?_ ) .cint (by with_unfolding_all rfl)
    · refine EA.cons (P := isV x) (Ev.attrN (P1 := isV (.ref i)) (Ev.loc hns (by with_unfolding_all rfl) (fun _ _ => rfl) (by with_unfolding_all rfl) (by with_unfolding_all rfl)) fun v h' k' e => ?_) (EA.cons (P := isV y) (Ev.attrN (P1 := isV (.ref j)) (Ev.loc hns (by with_unfolding_all rfl) (fun _ _ => rfl) (by with_unfolding_all rfl) (by with_unfolding_all rfl)) fun v h' k' e => ?_) EA.nil)
      · cases e
        exact K_get (hy.at _ _) (hc.keeps (kg.trans k')) ((kg.trans k') _ _ hi) hx
      · cases e
        exact K_get (hy.at _ _) (hD.keeps (kg.trans k')) ((kg.trans k') _ _ hj) hx'
    · intro vs h' k' a
      obtain ⟨u, v, rfl, rfl, rfl⟩ := a.two
      exact hcmp _ _ (hR.deeper _) (kg.trans k')
theorem Kop_gt {c : Cx} (hy : Cy c) (hR : Room c.A 5) {h : Heap} {k k2 : Codes} {C D i j di dj f f2 : Addr} {x y : Value} {fo : Obj} {fd : FuncData} {z : Int} (hc : KCls c.w h k C (.ref f)) (hD : KCls c.w h k2 D (.ref f2)) (hk : IsCodeO h k.c2 "__gt__" 14) (hlim : h.NoLimit)
    (hi : h.get? i = some (insO C di x)) (hj : h.get? j = some (insO D dj y)) (hx : handedOut x = pure x) (hx' : handedOut y = pure y)
    (hf : h.get? f = some fo) (hfd : fo.data = .func fd) (hcmp : ∀ A g, Room A 3 → Kept h g → Pu { c with A := A } (call (.ref f) [x, y]) g (isI z)) : Pu c (compareOp .Gt (.ref i) (.ref j)) h (isB (decide (0 < z))) := by
  obtain ⟨ad, ut, hC, hNS, hmd, hcell, hf0, hf1, hf2, hf3, hf4, hf5⟩ := id hc
  obtain ⟨ad2, ut2, hC2, -⟩ := id hD
  have lt := K2_gt hy (hR.le (by decide)) hc hD hk hlim hf2 hcell hi hj hx hx' hf hfd hcmp
  refine Pu.mk fun h1 tk Q E l hq => ?_
  have X : h1.OwnSpecial i C (ad 7) "object" (Str.ofString "__gt__") := by
    refine ⟨_, _, _, _, (ad 0), _, [.type "object"], _, _, _, _, _, _, _, _, _, _, _, _, _, some (.builtin "object.__gt__"), l.top _ _ hi, rfl, l.top _ _ hC, ⟨_, _, _, l.top _ _ hNS, rfl, ?_, fun _ => rfl⟩, ?_, l.top _ _ hf2, rfl, (by kernel_rfl), ?_⟩
    · intro e he
      simp only [List.mem_toArray, List.mem_cons, List.not_mem_nil, or_false] at he
      rcases he with rfl | rfl | rfl | rfl | rfl | rfl | rfl | rfl | rfl | rfl | rfl | rfl | rfl <;> exact ⟨_, _, rfl⟩
    · with_unfolding_all rfl
    · rw [typeLookup_type, builtinLookup_eq_fast]; kernel_rfl
  have call : wpAny (model c.prog c.w) c.A (PySem.call (.ref (ad 7)) [.ref i, .ref j]) (fun v s' => ∃ b, v = .bool b ∧ Q (.bool b) s') E (c.sh h1 tk) := lt h1 tk _ _ l fun v h2 tk2 k2 p2 => by
    cases p2
    exact ⟨_, rfl, hq _ h2 tk2 k2 rfl⟩
  have hu : c.A.units < cLine := Nat.lt_of_le_of_lt (Nat.le_add_right _ _) hR.units
  show wpAny _ _ (richCompare .Gt (.ref i) (.ref j)) _ _ _
  by_cases q : D = C
  · subst q
    exact richCompare_own_same rfl X (l.top _ _ hj) rfl hu call
  · exact rc_other rfl X (l.top _ _ hj) rfl (l.top _ _ hC2) q hu call
theorem K2_eq {c : Cx} (hy : Cy c) (hR : Room c.A 4) {h : Heap} {k k2 : Codes} {C D i j di dj f f2 f3' cell g1 : Addr} {x y : Value} {fo : Obj} {fd : FuncData} {z : Int} (hc : KCls c.w h k C (.ref f)) (hD : KCls c.w h k2 D (.ref f2)) (hk : IsCodeO h k.c3 "__eq__" 17) (hlim : h.NoLimit)
    (hf1 : h.get? f3' = some (fnO 5 "__eq__" [(Str.ofString "mycmp", cell)] k.c3 (.ref g1))) (hcell : h.get? cell = some (cellO (.ref f)))
    (hi : h.get? i = some (insO C di x)) (hj : h.get? j = some (insO D dj y)) (hx : handedOut x = pure x) (hx' : handedOut y = pure y)
    (hf : h.get? f = some fo) (hfd : fo.data = .func fd) (hcmp : ∀ A g, Room A 3 → Kept h g → Pu { c with A := A } (call (.ref f) [x, y]) g (isI z)) : Pu c (call (.ref f3') [.ref i, .ref j]) h (isB (z == 0)) := by
  have hcell' : h.IsCell cell (some (.ref f)) := ⟨_, hcell, rfl⟩
  obtain ⟨cb, ct, hcode⟩ := hk
  refine Pu.enterR (binds := [(Str.ofString "self", .ref i), (Str.ofString "other", .ref j)]) hf1 (by with_unfolding_all rfl) ⟨k.c3, _, _, _, by with_unfolding_all rfl, hcode, by with_unfolding_all rfl, by with_unfolding_all rfl⟩ hlim (hR.le (by decide)) (fun s _ => BindsTo.of_eq (by with_unfolding_all rfl)) ?_ ?_ (fun g L kg hns => ?_) (by with_unfolding_all rfl) (by with_unfolding_all rfl) (by with_unfolding_all rfl)
  · intro q hq
    rcases List.mem_cons.mp hq with rfl | hq
    · with_unfolding_all rfl
    · obtain rfl := List.mem_singleton.mp hq
      with_unfolding_all rfl
  · with_unfolding_all decide
  · refine Ev.eq (y := 0) (Ev.callF (Ps := [isV x, isV y]) (Ev.free (P := isV (.ref f)) ((hcell' : h.IsCell cell (some (.ref f))).keeps kg) (fun _ _ => rfl) (by with_unfolding_all rfl) (by with_unfolding_all rfl) (by with_unfolding_all rfl)) (kg _ _ hf) hfd ?_ ?_ ) .cint (by with_unfolding_all rfl)
    · refine EA.cons (P := isV x) (Ev.attrN (P1 := isV (.ref i)) (Ev.loc hns (by with_unfolding_all rfl) (fun _ _ => rfl) (by with_unfolding_all rfl) (by with_unfolding_all rfl)) fun v h' k' e => ?_) (EA.cons (P := isV y) (Ev.attrN (P1 := isV (.ref j)) (Ev.loc hns (by with_unfolding_all rfl) (fun _ _ => rfl) (by with_unfolding_all rfl) (by with_unfolding_all rfl)) fun v h' k' e => ?_) EA.nil)
      · cases e
        exact K_get (hy.at _ _) (hc.keeps (kg.trans k')) ((kg.trans k') _ _ hi) hx
      · cases e
        exact K_get (hy.at _ _) (hD.keeps (kg.trans k')) ((kg.trans k') _ _ hj) hx'
    · intro vs h' k' a
      obtain ⟨u, v, rfl, rfl, rfl⟩ := a.two
      exact hcmp _ _ (hR.deeper _) (kg.trans k')
theorem Kop_eq {c : Cx} (hy : Cy c) (hR : Room c.A 5) {h : Heap} {k k2 : Codes} {C D i j di dj f f2 : Addr} {x y : Value} {fo : Obj} {fd : FuncData} {z : Int} (hc : KCls c.w h k C (.ref f)) (hD : KCls c.w h k2 D (.ref f2)) (hk : IsCodeO h k.c3 "__eq__" 17) (hlim : h.NoLimit)
    (hi : h.get? i = some (insO C di x)) (hj : h.get? j = some (insO D dj y)) (hx : handedOut x = pure x) (hx' : handedOut y = pure y)
    (hf : h.get? f = some fo) (hfd : fo.data = .func fd) (hcmp : ∀ A g, Room A 3 → Kept h g → Pu { c with A := A } (call (.ref f) [x, y]) g (isI z)) : Pu c (compareOp .Eq (.ref i) (.ref j)) h (isB (z == 0)) := by
  obtain ⟨ad, ut, hC, hNS, hmd, hcell, hf0, hf1, hf2, hf3, hf4, hf5⟩ := id hc
  obtain ⟨ad2, ut2, hC2, -⟩ := id hD
  have lt := K2_eq hy (hR.le (by decide)) hc hD hk hlim hf3 hcell hi hj hx hx' hf hfd hcmp
  refine Pu.mk fun h1 tk Q E l hq => ?_
  have X : h1.OwnSpecial i C (ad 8) "object" (Str.ofString "__eq__") := by
    refine ⟨_, _, _, _, (ad 0), _, [.type "object"], _, _, _, _, _, _, _, _, _, _, _, _, _, some (.builtin "object.__eq__"), l.top _ _ hi, rfl, l.top _ _ hC, ⟨_, _, _, l.top _ _ hNS, rfl, ?_, fun _ => rfl⟩, ?_, l.top _ _ hf3, rfl, (by kernel_rfl), ?_⟩
    · intro e he
      simp only [List.mem_toArray, List.mem_cons, List.not_mem_nil, or_false] at he
      rcases he with rfl | rfl | rfl | rfl | rfl | rfl | rfl | rfl | rfl | rfl | rfl | rfl | rfl <;> exact ⟨_, _, rfl⟩
    · with_unfolding_all rfl
    · rw [typeLookup_type, builtinLookup_eq_fast]; kernel_rfl
  have call : wpAny (model c.prog c.w) c.A (PySem.call (.ref (ad 8)) [.ref i, .ref j]) (fun v s' => ∃ b, v = .bool b ∧ Q (.bool b) s') E (c.sh h1 tk) := lt h1 tk _ _ l fun v h2 tk2 k2 p2 => by
    cases p2
    exact ⟨_, rfl, hq _ h2 tk2 k2 rfl⟩
  have hu : c.A.units < cLine := Nat.lt_of_le_of_lt (Nat.le_add_right _ _) hR.units
  show wpAny _ _ (richCompare .Eq (.ref i) (.ref j)) _ _ _
  by_cases q : D = C
  · subst q
    exact richCompare_own_same rfl X (l.top _ _ hj) rfl hu call
  · exact rc_other rfl X (l.top _ _ hj) rfl (l.top _ _ hC2) q hu call
theorem K2_le {c : Cx} (hy : Cy c) (hR : Room c.A 4) {h : Heap} {k k2 : Codes} {C D i j di dj f f2 f4' cell g1 : Addr} {x y : Value} {fo : Obj} {fd : FuncData} {z : Int} (hc : KCls c.w h k C (.ref f)) (hD : KCls c.w h k2 D (.ref f2)) (hk : IsCodeO h k.c4 "__le__" 20) (hlim : h.NoLimit)
    (hf1 : h.get? f4' = some (fnO 6 "__le__" [(Str.ofString "mycmp", cell)] k.c4 (.ref g1))) (hcell : h.get? cell = some (cellO (.ref f)))
    (hi : h.get? i = some (insO C di x)) (hj : h.get? j = some (insO D dj y)) (hx : handedOut x = pure x) (hx' : handedOut y = pure y)
    (hf : h.get? f = some fo) (hfd : fo.data = .func fd) (hcmp : ∀ A g, Room A 3 → Kept h g → Pu { c with A := A } (call (.ref f) [x, y]) g (isI z)) : Pu c (call (.ref f4') [.ref i, .ref j]) h (isB (decide (z ≤ 0))) := by
  have hcell' : h.IsCell cell (some (.ref f)) := ⟨_, hcell, rfl⟩
  obtain ⟨cb, ct, hcode⟩ := hk
  refine Pu.enterR (binds := [(Str.ofString "self", .ref i), (Str.ofString "other", .ref j)]) hf1 (by with_unfolding_all rfl) ⟨k.c4, _, _, _, by with_unfolding_all rfl, hcode, by with_unfolding_all rfl, by with_unfolding_all rfl⟩ hlim (hR.le (by decide)) (fun s _ => BindsTo.of_eq (by with_unfolding_all rfl)) ?_ ?_ (fun g L kg hns => ?_) (by with_unfolding_all rfl) (by with_unfolding_all rfl) (by with_unfolding_all rfl)
  · intro q hq
    rcases List.mem_cons.mp hq with rfl | hq
    · with_unfolding_all rfl
    · obtain rfl := List.mem_singleton.mp hq
      with_unfolding_all rfl
  · with_unfolding_all decide
  · refine Ev.le (y := 0) (Ev.callF (Ps := [isV x, isV y]) (Ev.free (P := isV (.ref f)) ((hcell' : h.IsCell cell (some (.ref f))).keeps kg) (fun _ _ => rfl) (by with_unfolding_all rfl) (by with_unfolding_all rfl) (by with_unfolding_all rfl)) (kg _ _ hf) hfd ?_ ?_ ) .cint (by with_unfolding_all rfl)
    · refine EA.cons (P := isV x) (Ev.attrN (P1 := isV (.ref i)) (Ev.loc hns (by with_unfolding_all rfl) (fun _ _ => rfl) (by with_unfolding_all rfl) (by with_unfolding_all rfl)) fun v h' k' e => ?_) (EA.cons (P := isV y) (Ev.attrN (P1 := isV (.ref j)) (Ev.loc hns (by with_unfolding_all rfl) (fun _ _ => rfl) (by with_unfolding_all rfl) (by with_unfolding_all rfl)) fun v h' k' e => ?_) EA.nil)
      · cases e
        exact K_get (hy.at _ _) (hc.keeps (kg.trans k')) ((kg.trans k') _ _ hi) hx
      · cases e
        exact K_get (hy.at _ _) (hD.keeps (kg.trans k')) ((kg.trans k') _ _ hj) hx'
    · intro vs h' k' a
      obtain ⟨u, v, rfl, rfl, rfl⟩ := a.two
      exact hcmp _ _ (hR.deeper _) (kg.trans k')
theorem Kop_le {c : Cx} (hy : Cy c) (hR : Room c.A 5) {h : Heap} {k k2 : Codes} {C D i j di dj f f2 : Addr} {x y : Value} {fo : Obj} {fd : FuncData} {z : Int} (hc : KCls c.w h k C (.ref f)) (hD : KCls c.w h k2 D (.ref f2)) (hk : IsCodeO h k.c4 "__le__" 20) (hlim : h.NoLimit)
    (hi : h.get? i = some (insO C di x)) (hj : h.get? j = some (insO D dj y)) (hx : handedOut x = pure x) (hx' : handedOut y = pure y)
    (hf : h.get? f = some fo) (hfd : fo.data = .func fd) (hcmp : ∀ A g, Room A 3 → Kept h g → Pu { c with A := A } (call (.ref f) [x, y]) g (isI z)) : Pu c (compareOp .LtE (.ref i) (.ref j)) h (isB (decide (z ≤ 0))) := by
  obtain ⟨ad, ut, hC, hNS, hmd, hcell, hf0, hf1, hf2, hf3, hf4, hf5⟩ := id hc
  obtain ⟨ad2, ut2, hC2, -⟩ := id hD
  have lt := K2_le hy (hR.le (by decide)) hc hD hk hlim hf4 hcell hi hj hx hx' hf hfd hcmp
  refine Pu.mk fun h1 tk Q E l hq => ?_
  have X : h1.OwnSpecial i C (ad 9) "object" (Str.ofString "__le__") := by
    refine ⟨_, _, _, _, (ad 0), _, [.type "object"], _, _, _, _, _, _, _, _, _, _, _, _, _, some (.builtin "object.__le__"), l.top _ _ hi, rfl, l.top _ _ hC, ⟨_, _, _, l.top _ _ hNS, rfl, ?_, fun _ => rfl⟩, ?_, l.top _ _ hf4, rfl, (by kernel_rfl), ?_⟩
    · intro e he
      simp only [List.mem_toArray, List.mem_cons, List.not_mem_nil, or_false] at he
      rcases he with rfl | rfl | rfl | rfl | rfl | rfl | rfl | rfl | rfl | rfl | rfl | rfl | rfl <;> exact ⟨_, _, rfl⟩
    · with_unfolding_all rfl
    · rw [typeLookup_type, builtinLookup_eq_fast]; kernel_rfl
  have call : wpAny (model c.prog c.w) c.A (PySem.call (.ref (ad 9)) [.ref i, .ref j]) (fun v s' => ∃ b, v = .bool b ∧ Q (.bool b) s') E (c.sh h1 tk) := lt h1 tk _ _ l fun v h2 tk2 k2 p2 => by
    cases p2
    exact ⟨_, rfl, hq _ h2 tk2 k2 rfl⟩
  have hu : c.A.units < cLine := Nat.lt_of_le_of_lt (Nat.le_add_right _ _) hR.units
  show wpAny _ _ (richCompare .LtE (.ref i) (.ref j)) _ _ _
  by_cases q : D = C
  · subst q
    exact richCompare_own_same rfl X (l.top _ _ hj) rfl hu call
  · exact rc_other rfl X (l.top _ _ hj) rfl (l.top _ _ hC2) q hu call
theorem K2_ge {c : Cx} (hy : Cy c) (hR : Room c.A 4) {h : Heap} {k k2 : Codes} {C D i j di dj f f2 f5' cell g1 : Addr} {x y : Value} {fo : Obj} {fd : FuncData} {z : Int} (hc : KCls c.w h k C (.ref f)) (hD : KCls c.w h k2 D (.ref f2)) (hk : IsCodeO h k.c5 "__ge__" 23) (hlim : h.NoLimit)
    (hf1 : h.get? f5' = some (fnO 7 "__ge__" [(Str.ofString "mycmp", cell)] k.c5 (.ref g1))) (hcell : h.get? cell = some (cellO (.ref f)))
    (hi : h.get? i = some (insO C di x)) (hj : h.get? j = some (insO D dj y)) (hx : handedOut x = pure x) (hx' : handedOut y = pure y)
    (hf : h.get? f = some fo) (hfd : fo.data = .func fd) (hcmp : ∀ A g, Room A 3 → Kept h g → Pu { c with A := A } (call (.ref f) [x, y]) g (isI z)) : Pu c (call (.ref f5') [.ref i, .ref j]) h (isB (decide (0 ≤ z))) := by
  have hcell' : h.IsCell cell (some (.ref f)) := ⟨_, hcell, rfl⟩
  obtain ⟨cb, ct, hcode⟩ := hk
  refine Pu.enterR (binds := [(Str.ofString "self", .ref i), (Str.ofString "other", .ref j)]) hf1 (by with_unfolding_all rfl) ⟨k.c5, _, _, _, by with_unfolding_all rfl, hcode, by with_unfolding_all rfl, by with_unfolding_all rfl⟩ hlim (hR.le (by decide)) (fun s _ => BindsTo.of_eq (by with_unfolding_all rfl)) ?_ ?_ (fun g L kg hns => ?_) (by with_unfolding_all rfl) (by with_unfolding_all rfl) (by with_unfolding_all rfl)
  · intro q hq
    rcases List.mem_cons.mp hq with rfl | hq
    · with_unfolding_all rfl
    · obtain rfl := List.mem_singleton.mp hq
      with_unfolding_all rfl
  · with_unfolding_all decide
  · refine Ev.ge (y := 0) (Ev.callF (Ps := [isV x, isV y]) (Ev.free (P := isV (.ref f)) ((hcell' : h.IsCell cell (some (.ref f))).keeps kg) (fun _ _ => rfl) (by with_unfolding_all rfl) (by with_unfolding_all rfl) (by with_unfolding_all rfl)) (kg _ _ hf) hfd ?_ ?_ ) .cint (by with_unfolding_all rfl)
    · refine EA.cons (P := isV x) (Ev.attrN (P1 := isV (.ref i)) (Ev.loc hns (by with_unfolding_all rfl) (fun _ _ => rfl) (by with_unfolding_all rfl) (by with_unfolding_all rfl)) fun v h' k' e => ?_) (EA.cons (P := isV y) (Ev.attrN (P1 := isV (.ref j)) (Ev.loc hns (by with_unfolding_all rfl) (fun _ _ => rfl) (by with_unfolding_all rfl) (by with_unfolding_all rfl)) fun v h' k' e => ?_) EA.nil)
      · cases e
        exact K_get (hy.at _ _) (hc.keeps (kg.trans k')) ((kg.trans k') _ _ hi) hx
      · cases e
        exact K_get (hy.at _ _) (hD.keeps (kg.trans k')) ((kg.trans k') _ _ hj) hx'
    · intro vs h' k' a
      obtain ⟨u, v, rfl, rfl, rfl⟩ := a.two
      exact hcmp _ _ (hR.deeper _) (kg.trans k')
theorem Kop_ge {c : Cx} (hy : Cy c) (hR : Room c.A 5) {h : Heap} {k k2 : Codes} {C D i j di dj f f2 : Addr} {x y : Value} {fo : Obj} {fd : FuncData} {z : Int} (hc : KCls c.w h k C (.ref f)) (hD : KCls c.w h k2 D (.ref f2)) (hk : IsCodeO h k.c5 "__ge__" 23) (hlim : h.NoLimit)
    (hi : h.get? i = some (insO C di x)) (hj : h.get? j = some (insO D dj y)) (hx : handedOut x = pure x) (hx' : handedOut y = pure y)
    (hf : h.get? f = some fo) (hfd : fo.data = .func fd) (hcmp : ∀ A g, Room A 3 → Kept h g → Pu { c with A := A } (call (.ref f) [x, y]) g (isI z)) : Pu c (compareOp .GtE (.ref i) (.ref j)) h (isB (decide (0 ≤ z))) := by
  obtain ⟨ad, ut, hC, hNS, hmd, hcell, hf0, hf1, hf2, hf3, hf4, hf5⟩ := id hc
  obtain ⟨ad2, ut2, hC2, -⟩ := id hD
  have lt := K2_ge hy (hR.le (by decide)) hc hD hk hlim hf5 hcell hi hj hx hx' hf hfd hcmp
  refine Pu.mk fun h1 tk Q E l hq => ?_
  have X : h1.OwnSpecial i C (ad 10) "object" (Str.ofString "__ge__") := by
    refine ⟨_, _, _, _, (ad 0), _, [.type "object"], _, _, _, _, _, _, _, _, _, _, _, _, _, some (.builtin "object.__ge__"), l.top _ _ hi, rfl, l.top _ _ hC, ⟨_, _, _, l.top _ _ hNS, rfl, ?_, fun _ => rfl⟩, ?_, l.top _ _ hf5, rfl, (by kernel_rfl), ?_⟩
    · intro e he
      simp only [List.mem_toArray, List.mem_cons, List.not_mem_nil, or_false] at he
      rcases he with rfl | rfl | rfl | rfl | rfl | rfl | rfl | rfl | rfl | rfl | rfl | rfl | rfl <;> exact ⟨_, _, rfl⟩
    · with_unfolding_all rfl
    · rw [typeLookup_type, builtinLookup_eq_fast]; kernel_rfl
  have call : wpAny (model c.prog c.w) c.A (PySem.call (.ref (ad 10)) [.ref i, .ref j]) (fun v s' => ∃ b, v = .bool b ∧ Q (.bool b) s') E (c.sh h1 tk) := lt h1 tk _ _ l fun v h2 tk2 k2 p2 => by
    cases p2
    exact ⟨_, rfl, hq _ h2 tk2 k2 rfl⟩
  have hu : c.A.units < cLine := Nat.lt_of_le_of_lt (Nat.le_add_right _ _) hR.units
  show wpAny _ _ (richCompare .GtE (.ref i) (.ref j)) _ _ _
  by_cases q : D = C
  · subst q
    exact richCompare_own_same rfl X (l.top _ _ hj) rfl hu call
  · exact rc_other rfl X (l.top _ _ hj) rfl (l.top _ _ hC2) q hu call
end Mine
end

section
-- J
namespace Mine
theorem snocInd {α : Type} {P : List α → Prop} (h0 : P []) (h1 : ∀ l a, P l → P (l ++ [a])) : ∀ l, P l := by
  have h : ∀ l : List α, P l.reverse := by
    intro l
    induction l with
    | nil => exact h0
    | cons a l ih => rw [List.reverse_cons]; exact h1 _ _ ih
  intro l
  have := h l.reverse
  rwa [List.reverse_reverse] at this
/-- a job's three times -/
structure Job where
  a : Int
  b : Int
  c : Int
def Job.p (j : Job) : Int := j.a + j.b
def Job.q (j : Job) : Int := j.b + j.c
/-- one ahead of the other: below nought -/
def Job.rule (x y : Job) : Int :=
  if x.p < x.q then (if y.p < y.q then x.p - y.p else -7) else (if y.p < y.q then 7 else y.q - x.q)
def step3 (e : Int × Int × Int) (j : Job) : Int × Int × Int :=
  (e.1 + j.a, max e.2.1 (e.1 + j.a) + j.b, max e.2.2 (max e.2.1 (e.1 + j.a) + j.b) + j.c)
def mk3 (js : List Job) : Int × Int × Int := js.foldl step3 (0, 0, 0)
def mk (js : List Job) : Int := (mk3 js).2.2
def sumBy (f : Job → Int) (js : List Job) : Int := (js.map f).sum
theorem sumBy_append (f : Job → Int) (x y : List Job) : sumBy f (x ++ y) = sumBy f x + sumBy f y := by simp [sumBy]
theorem sumBy_cons (f : Job → Int) (j : Job) (x : List Job) : sumBy f (j :: x) = f j + sumBy f x := by simp [sumBy]
theorem sumBy_nil (f : Job → Int) : sumBy f [] = 0 := rfl
theorem sumBy_perm (f : Job → Int) {x y : List Job} (h : x.Perm y) : sumBy f x = sumBy f y := by
  induction h with
  | nil => rfl
  | cons a _ ih => rw [sumBy_cons, sumBy_cons, ih]
  | swap a b l => simp only [sumBy_cons]; omega
  | trans _ _ h1 h2 => rw [h1, h2]
theorem sumBy_le {f g : Job → Int} {x : List Job} (h : ∀ j ∈ x, f j ≤ g j) : sumBy f x ≤ sumBy g x := by
  induction x with
  | nil => exact Int.le_refl _
  | cons a l ih =>
    rw [sumBy_cons, sumBy_cons]
    have h1 := h a (List.mem_cons_self ..)
    have h2 := ih fun j hj => h j (List.mem_cons_of_mem _ hj)
    omega
theorem mk3_snoc (js : List Job) (j : Job) : mk3 (js ++ [j]) = step3 (mk3 js) j := by simp [mk3]
theorem mk3_first (js : List Job) : (mk3 js).1 = sumBy Job.a js := by
  refine snocInd (P := fun js => (mk3 js).1 = sumBy Job.a js) rfl ?_ js
  intro l j ih
  rw [mk3_snoc, sumBy_append, sumBy_cons, sumBy_nil]
  show (mk3 l).1 + j.a = _
  rw [ih]; omega
/-- the second bench takes no longer than the others: no time on it is above any on the first, or any on the third -/
def Dom (js : List Job) : Prop := (∀ x ∈ js, ∀ y ∈ js, x.b ≤ y.a) ∨ (∀ x ∈ js, ∀ y ∈ js, x.b ≤ y.c)
def NonNeg (js : List Job) : Prop := ∀ x ∈ js, 0 ≤ x.a ∧ 0 ≤ x.b ∧ 0 ≤ x.c
theorem mk3_order (js : List Job) (hn : NonNeg js) : 0 ≤ (mk3 js).1 ∧ (mk3 js).1 ≤ (mk3 js).2.1 ∧ (mk3 js).2.1 ≤ (mk3 js).2.2 := by
  revert hn
  refine snocInd (P := fun js => NonNeg js → 0 ≤ (mk3 js).1 ∧ (mk3 js).1 ≤ (mk3 js).2.1 ∧ (mk3 js).2.1 ≤ (mk3 js).2.2) ?_ ?_ js
  · intro _; exact ⟨Int.le_refl _, Int.le_refl _, Int.le_refl _⟩
  · intro l j ih hn
    have hj := hn j (by simp)
    have h := ih fun x hx => hn x (by simp [hx])
    rw [mk3_snoc]
    simp only [step3]
    omega
theorem second_le (l : List Job) : ∀ B : Int, 0 ≤ B → (∀ x ∈ l, x.b ≤ B) → NonNeg l → (∀ x ∈ l, ∀ y ∈ l, x.b ≤ y.a) → (mk3 l).2.1 ≤ (mk3 l).1 + B := by
  refine snocInd (P := fun l => ∀ B : Int, 0 ≤ B → (∀ x ∈ l, x.b ≤ B) → NonNeg l → (∀ x ∈ l, ∀ y ∈ l, x.b ≤ y.a) → (mk3 l).2.1 ≤ (mk3 l).1 + B) ?_ ?_ l
  · intro B hB _ _ _; show (0 : Int) ≤ 0 + B; omega
  · intro l i ih B hB hb hn hd
    have hi := hn i (by simp)
    have hbi := hb i (by simp)
    have h1 := ih i.a hi.1 (fun x hx => hd x (by simp [hx]) i (by simp)) (fun x hx => hn x (by simp [hx])) (fun x hx y hy => hd x (by simp [hx]) y (by simp [hy]))
    rw [mk3_snoc]
    simp only [step3]
    omega
/-- under the dominance the third bench is told by the first alone -/
theorem mk_snoc (l : List Job) (j : Job) (hn : NonNeg (l ++ [j])) (hd : Dom (l ++ [j])) : mk (l ++ [j]) = max (mk l) ((mk3 l).1 + j.a + j.b) + j.c := by
  have hj := hn j (by simp)
  have hnl : NonNeg l := fun x hx => hn x (by simp [hx])
  have ho := mk3_order l hnl
  show (mk3 (l ++ [j])).2.2 = _
  rw [mk3_snoc]
  simp only [step3]
  show max (mk3 l).2.2 (max (mk3 l).2.1 ((mk3 l).1 + j.a) + j.b) + j.c = max (mk3 l).2.2 ((mk3 l).1 + j.a + j.b) + j.c
  rcases hd with hd | hd
  · have key : (mk3 l).2.1 ≤ (mk3 l).1 + j.a := second_le l j.a hj.1 (fun x hx => hd x (by simp [hx]) j (by simp)) hnl (fun x hx y hy => hd x (by simp [hx]) y (by simp [hy]))
    omega
  · have key : (mk3 l).2.1 + j.b ≤ (mk3 l).2.2 ∨ (mk3 l).2.1 ≤ 0 := by
      revert hd
      refine snocInd (P := fun l => (∀ x ∈ l ++ [j], ∀ y ∈ l ++ [j], x.b ≤ y.c) → (mk3 l).2.1 + j.b ≤ (mk3 l).2.2 ∨ (mk3 l).2.1 ≤ 0) ?_ ?_ l
      · intro _; exact .inr (Int.le_refl _)
      · intro l i _ hd
        have hb := hd j (by simp) i (by simp)
        left
        rw [mk3_snoc]
        simp only [step3]
        omega
    omega
/-- what a road through the benches, turning at x on all three, takes -/
def road (pre : List Job) (x : Job) (post : List Job) : Int := sumBy Job.a pre + x.a + x.b + x.c + sumBy Job.c post
theorem Dom.sub {l l' : List Job} (h : Dom l) (hs : ∀ x ∈ l', x ∈ l) : Dom l' := by
  rcases h with h | h
  · exact .inl fun x hx y hy => h x (hs x hx) y (hs y hy)
  · exact .inr fun x hx y hy => h x (hs x hx) y (hs y hy)
/-- no road takes longer than the whole -/
theorem road_le (js : List Job) : ∀ pre x post, js = pre ++ x :: post → road pre x post ≤ mk js := by
  refine snocInd (P := fun js => ∀ pre x post, js = pre ++ x :: post → road pre x post ≤ mk js) ?_ ?_ js
  · intro pre x post h; simp at h
  · intro l j ih pre x post h
    have hm : mk (l ++ [j]) = max (mk l) (max (mk3 l).2.1 ((mk3 l).1 + j.a) + j.b) + j.c := by show (mk3 (l ++ [j])).2.2 = _; rw [mk3_snoc]; rfl
    rcases List.eq_nil_or_concat post with rfl | ⟨post', y, rfl⟩
    · have h2 := List.append_inj' h rfl
      obtain ⟨rfl, h3⟩ := h2
      cases h3
      unfold road
      rw [sumBy_nil, hm, ← mk3_first]
      omega
    · have h2 : l ++ [j] = (pre ++ x :: post') ++ [y] := by rw [h]; simp
      obtain ⟨rfl, h3⟩ := List.append_inj' h2 rfl
      cases h3
      have := ih pre x post' rfl
      unfold road at this ⊢
      rw [List.concat_eq_append, sumBy_append, sumBy_cons, sumBy_nil, hm]
      omega
/-- some road takes as long as the whole -/
theorem road_eq (js : List Job) (hn : NonNeg js) (hd : Dom js) : js = [] ∨ ∃ pre x post, js = pre ++ x :: post ∧ mk js = road pre x post := by
  revert hn hd
  refine snocInd (P := fun js => NonNeg js → Dom js → js = [] ∨ ∃ pre x post, js = pre ++ x :: post ∧ mk js = road pre x post) ?_ ?_ js
  · intro _ _; exact .inl rfl
  · intro l j ih hn hd
    right
    have hj := hn j (by simp)
    have hm := mk_snoc l j hn hd
    rw [mk3_first] at hm
    rcases ih (fun x hx => hn x (by simp [hx])) (hd.sub fun x hx => by simp [hx]) with rfl | ⟨pre, x, post, rfl, hr⟩
    · refine ⟨[], j, [], rfl, ?_⟩
      rw [hm]
      show max 0 (0 + j.a + j.b) + j.c = 0 + j.a + j.b + j.c + 0
      omega
    · by_cases hc : sumBy Job.a (pre ++ x :: post) + j.a + j.b ≤ mk (pre ++ x :: post)
      · refine ⟨pre, x, post ++ [j], by simp, ?_⟩
        rw [hm, hr]
        unfold road
        rw [hr] at hc
        unfold road at hc
        rw [sumBy_append Job.c post, sumBy_cons, sumBy_nil]
        omega
      · refine ⟨pre ++ x :: post, j, [], rfl, ?_⟩
        rw [hm]
        unfold road
        rw [sumBy_nil]
        omega
theorem first_split {α : Type} (P : α → Prop) [DecidablePred P] : ∀ l : List α, (∃ x ∈ l, P x) → ∃ pre x post, l = pre ++ x :: post ∧ P x ∧ ∀ y ∈ pre, ¬ P y
  | [], h => by obtain ⟨x, hx, _⟩ := h; cases hx
  | a :: l, h => by
    by_cases ha : P a
    · exact ⟨[], a, l, rfl, ha, fun _ hy => nomatch hy⟩
    · obtain ⟨x, hx, hp⟩ := h
      rcases List.mem_cons.mp hx with rfl | hx
      · exact absurd hp ha
      · obtain ⟨pre, z, post, rfl, hz, hpre⟩ := first_split P l ⟨x, hx, hp⟩
        refine ⟨a :: pre, z, post, rfl, hz, fun y hy => ?_⟩
        rcases List.mem_cons.mp hy with rfl | hy
        · exact ha
        · exact hpre y hy
theorem last_split {α : Type} (P : α → Prop) [DecidablePred P] (l : List α) (h : ∃ x ∈ l, P x) : ∃ pre x post, l = pre ++ x :: post ∧ P x ∧ ∀ y ∈ post, ¬ P y := by
  obtain ⟨x, hx, hp⟩ := h
  obtain ⟨pre, z, post, e, hz, hpre⟩ := first_split P l.reverse ⟨x, List.mem_reverse.mpr hx, hp⟩
  refine ⟨post.reverse, z, pre.reverse, ?_, hz, fun y hy => hpre y (List.mem_reverse.mp hy)⟩
  have := congrArg List.reverse e
  rw [List.reverse_reverse] at this
  rw [this]; simp
/-- Johnson: an order in which no later job comes ahead of an earlier one takes no longer than any other -/
theorem johnson {σ π : List Job} (hp : σ.Perm π) (hs : σ.Pairwise fun x y => 0 ≤ y.rule x) (hn : NonNeg σ) (hd : Dom σ) : mk σ ≤ mk π := by
  rcases road_eq σ hn hd with rfl | ⟨pre, x, post, rfl, hr⟩
  · have : π = [] := List.Perm.eq_nil (hp.symm)
    subst this; exact Int.le_refl _
  · rw [hr]
    have hxp : x ∈ π := hp.subset (by simp)
    rw [List.pairwise_append] at hs
    obtain ⟨_, hs2, hs3⟩ := hs
    have hpre : ∀ y ∈ pre, 0 ≤ x.rule y := fun y hy => hs3 y hy x (by simp)
    have hpost : ∀ y ∈ post, 0 ≤ y.rule x := fun y hy => (List.pairwise_cons.mp hs2).1 y hy
    have hb : sumBy Job.b (pre ++ x :: post) = sumBy Job.b π := sumBy_perm _ hp
    have split3 : ∀ (f : Job → Int) (u v : List Job) (z : Job), sumBy f (u ++ z :: v) = sumBy f u + f z + sumBy f v := fun f u v z => by rw [sumBy_append, sumBy_cons]; omega
    have addp : ∀ l, sumBy Job.p l = sumBy Job.a l + sumBy Job.b l := fun l => by
      induction l with
      | nil => rfl
      | cons z l ih => rw [sumBy_cons, sumBy_cons, sumBy_cons, ih]; unfold Job.p; omega
    have addq : ∀ l, sumBy Job.q l = sumBy Job.b l + sumBy Job.c l := fun l => by
      induction l with
      | nil => rfl
      | cons z l ih => rw [sumBy_cons, sumBy_cons, sumBy_cons, ih]; unfold Job.q; omega
    by_cases hx : x.p < x.q
    · let f : Job → Int := fun k => if k.p < k.q ∧ k.p < x.p then k.p else k.q
      have hf : sumBy f (pre ++ x :: post) = sumBy f π := sumBy_perm _ hp
      obtain ⟨u, z, v, rfl, hz, hu⟩ := first_split (fun k : Job => k.p < k.q ∧ x.p ≤ k.p) π ⟨x, hxp, hx, Int.le_refl _⟩
      have hroad := road_le (u ++ z :: v) u z v rfl
      refine Int.le_trans ?_ hroad
      have e1 : sumBy Job.p pre ≤ sumBy f pre := sumBy_le fun y hy => by
        have := hpre y hy
        simp only [f]; unfold Job.rule at this; split at this <;> (try split at this) <;> split <;> omega
      have e2 : sumBy Job.q post ≤ sumBy f post := sumBy_le fun y hy => by
        have := hpost y hy
        simp only [f]; unfold Job.rule at this; split at this <;> (try split at this) <;> split <;> omega
      have e3 : sumBy f u ≤ sumBy Job.p u := sumBy_le fun y hy => by
        have := hu y hy
        simp only [f]; split <;> omega
      have e4 : sumBy f v ≤ sumBy Job.q v := sumBy_le fun y hy => by
        simp only [f]; split <;> omega
      have fx : f x = x.q := by simp only [f]; split <;> omega
      have fz : f z = z.q := by simp only [f]; split <;> omega
      rw [split3, split3] at hf hb
      rw [addp] at e1 e3
      rw [addq] at e2 e4
      unfold road
      unfold Job.p Job.q at *
      omega
    · let f : Job → Int := fun k => if ¬ k.p < k.q ∧ k.q < x.q then k.q else k.p
      have hf : sumBy f (pre ++ x :: post) = sumBy f π := sumBy_perm _ hp
      obtain ⟨u, z, v, rfl, hz, hv⟩ := last_split (fun k : Job => ¬ k.p < k.q ∧ x.q ≤ k.q) π ⟨x, hxp, hx, Int.le_refl _⟩
      have hroad := road_le (u ++ z :: v) u z v rfl
      refine Int.le_trans ?_ hroad
      have e1 : sumBy Job.p pre ≤ sumBy f pre := sumBy_le fun y hy => by
        have := hpre y hy
        simp only [f]; unfold Job.rule at this; split at this <;> (try split at this) <;> split <;> omega
      have e2 : sumBy Job.q post ≤ sumBy f post := sumBy_le fun y hy => by
        have := hpost y hy
        simp only [f]; unfold Job.rule at this; split at this <;> (try split at this) <;> split <;> omega
      have e3 : sumBy f u ≤ sumBy Job.p u := sumBy_le fun y hy => by
        simp only [f]; split <;> omega
      have e4 : sumBy f v ≤ sumBy Job.q v := sumBy_le fun y hy => by
        have := hv y hy
        simp only [f]; split <;> omega
      have fx : f x = x.p := by simp only [f]; split <;> omega
      have fz : f z = z.p := by simp only [f]; split <;> omega
      rw [split3, split3] at hf hb
      rw [addp] at e1 e3
      rw [addq] at e2 e4
      unfold road
      unfold Job.p Job.q at *
      omega
end Mine
end

section
-- J2
namespace Mine
/-- all places for one more -/
def insAll {α : Type} (x : α) (l : List α) : List (List α) := (List.range (l.length + 1)).map fun k => l.take k ++ [x] ++ l.drop k
def ordersOf {α : Type} (js : List α) : List (List α) := js.foldl (fun os x => os.flatMap (insAll x)) [[]]
theorem ordersOf_snoc {α : Type} (l : List α) (x : α) : ordersOf (l ++ [x]) = (ordersOf l).flatMap (insAll x) := by simp [ordersOf]
theorem mem_insAll {α : Type} {x : α} {l π : List α} : π ∈ insAll x l ↔ ∃ u v, l = u ++ v ∧ π = u ++ x :: v := by
  unfold insAll
  rw [List.mem_map]
  constructor
  · rintro ⟨k, _, rfl⟩
    exact ⟨l.take k, l.drop k, (List.take_append_drop k l).symm, by simp⟩
  · rintro ⟨u, v, rfl, rfl⟩
    exact ⟨u.length, by simp; omega, by simp⟩
theorem mem_ordersOf {α : Type} (l : List α) : ∀ π, π ∈ ordersOf l ↔ π.Perm l := by
  refine snocInd (P := fun l => ∀ π, π ∈ ordersOf l ↔ π.Perm l) ?_ ?_ l
  · intro π
    show π ∈ [[]] ↔ _
    rw [List.mem_singleton]
    exact ⟨fun h => h ▸ List.Perm.refl _, fun h => List.Perm.eq_nil h⟩
  · intro l x ih π
    rw [ordersOf_snoc, List.mem_flatMap]
    constructor
    · rintro ⟨o, ho, hπ⟩
      obtain ⟨u, v, rfl, rfl⟩ := mem_insAll.mp hπ
      have h1 := (ih _).mp ho
      exact (List.perm_middle).trans ((h1.cons x).trans (List.perm_append_singleton x l).symm)
    · intro h
      have hx : x ∈ π := h.symm.subset (by simp)
      obtain ⟨u, v, rfl⟩ := List.append_of_mem hx
      refine ⟨u ++ v, (ih _).mpr ?_, mem_insAll.mpr ⟨u, v, rfl, rfl⟩⟩
      have h2 : (x :: (u ++ v)).Perm (x :: l) := (List.perm_middle).symm.trans (h.trans (List.perm_append_singleton x l))
      exact h2.cons_inv
end Mine
end

section
-- PL15
open PySem PySem.W PyProof.Rows PySem.Spec PySem.Calls
set_option maxRecDepth 100000
namespace Mine
section
variable {c : Cx} {h : Heap} {P : VP} {env : Env} {qual : Str} {params : Arguments} {body : Expr} {scope : Scope} {cl : List (Str × Addr)} {pm : Value}
end
end Mine
end

section
-- PL16
open PySem PySem.W PyProof.Rows PySem.Spec PySem.Calls
set_option maxRecDepth 100000
namespace Mine
section
variable {c : Cx} {h0 h h' : Heap} {V : Vs} {N : Heap → Prop} {P P1 : VP} {env : Env} {rest : List Stmt}
/-- a frame stands while tables change -/
theorem Fm.wide (F : Fm h0 env h V) {W : Addr → Prop} (k : KB W h h') (hW0 : ∀ a, W a → h0.get? a = none) (hWw : ∀ a, W a → ¬ Wr env a) : Fm h0 env h' V :=
  ⟨F.kind, let ⟨m, f, e⟩ := F.loc; ⟨m, f.at' fun o eo => k _ o eo (fun w => hWw _ w (.inl rfl)), e⟩, fun b o e => k b o (F.kept b o e) (fun w => by rw [hW0 _ w] at e; cases e), F.newL,
    fun n a e => let ⟨o, eo, hd⟩ := F.cell n a e; ⟨o, k a o eo (fun w => hWw _ w (.inr ⟨n, e⟩)), hd⟩, F.apart, F.newC, F.ne, F.kinds, F.mem⟩
theorem Fx.wide (F : Fx c h0 env h V) {W : Addr → Prop} (k : KB W h h') (hW0 : ∀ a, W a → h0.get? a = none) (hWw : ∀ a, W a → ¬ Wr env a) (hWX : ∀ a ∈ c.X, ¬ W a) : Fx c h0 env h' V :=
  ⟨F.toFm.wide k hW0 hWw, fun x hx => let ⟨w, o, e⟩ := F.hid x hx; ⟨w, o, k x o e (hWX x hx)⟩⟩
theorem kb_stay {W : Addr → Prop} (k : KB W h h') (hWo : ∀ a, W a → ∃ o, h.get? a = some o ∧ plainD o.data = false) : Stay (lg c h) (lg c h') :=
  Stay.lg fun b o e q => k b o e fun w => by
    obtain ⟨o', e', hp⟩ := hWo b w
    rw [e] at e'; cases e'; rw [hp] at q; cases q
/-- x = e, where the making of e changes tables -/
theorem Ex.assignW {x : Str} {e : Expr} {p1 p2 : Pos} (F : Fx c h0 env h V) {W : Addr → Prop} {J : Heap → Prop} (hW0 : ∀ a, W a → h0.get? a = none) (hWw : ∀ a, W a → ¬ Wr env a) (hWX : ∀ a ∈ c.X, ¬ W a) (hWo : ∀ a, W a → ∃ o, h.get? a = some o ∧ plainD o.data = false) [Mo P1]
    (he : ∀ tk (Q : Value → Shared → Prop) (E : Value → Shared → Prop), (∀ v h1 tk1, KB W h h1 → J h1 → P1 v (lg c h1) → Q v (c.sh h1 tk1)) → wpAny c.M c.A (eval e env) Q E (c.sh h tk))
    (hr : ∀ v h1 h', Fx c h0 env h' (upd V x v) → KB W h h1 → J h1 → KB (Wr env) h1 h' → Stay (lg c h) (lg c h') → P1 v (lg c h') → Ex c env h0 rest h' N P)
    (hk : env.kindOf x = some .local ∨ (env.kindOf x = some .cell ∧ (env.cells.lookup x).isSome = true) := by exact own_of (by rfl)) (hs : swapsWith e (some (.Name x p1)) p2.line env = pure false := by rfl) : Ex c env h0 (.Assign [.Name x p1] e p2 :: rest) h N P :=
  Ex.cons fun tk Q E hn _ => wpAny_Assign_Name (he tk _ E fun v h1 tk1 k j p => by
    have F1 := F.wide k hW0 hWw hWX
    exact F1.toFm.store (s := c.sh h1 tk1) hk fun h2 tk2 F2 kb => hn h2 tk2 (hr v h1 h2 (F1.next F2 kb) k j kb ((kb_stay k hWo).trans (F1.stay kb)) (Mo.mo p (F1.stay kb)))) hs
theorem Pu.here {α : Type} {P : α → Heap → Prop} {t : Sem α} (x : Pu c t (lg c h) P) (hX : ∀ x ∈ c.X, ∃ o, h.get? x = some o) {tk : Nat} {Q : α → Shared → Prop} {E : Value → Shared → Prop} (hq : ∀ v h2 tk2, Kept h h2 → P v (lg c h2) → Q v (c.sh h2 tk2)) : wpAny c.M c.A t Q E (c.sh h tk) :=
  x h tk Q E ⟨Kept.refl _, hX⟩ hq
/-- sorted(a, key=kv), where the making of kv changes tables -/
theorem sorted_key {fe a kv : Expr} {kp pos : Pos} {PA : VP} {tk : Nat} {Q : Value → Shared → Prop} {E : Value → Shared → Prop} {W : Addr → Prop} {J : Heap → Prop} (hX : ∀ x ∈ c.X, ∃ o, h.get? x = some o) (hWX : ∀ a ∈ c.X, ¬ W a)
    (hf : Ev c env fe (lg c h) (isV (.builtin "sorted"))) (ha : Ev c env a (lg c h) PA)
    (hl : ∀ u h2 tk2 (Q : Value → Shared → Prop), Kept h h2 → PA u (lg c h2) → (∀ C h3 tk3, KB W h2 h3 → J h3 → Pu c (call (.builtin "sorted") [u] [(Str.ofString "key", C)]) (lg c h3) P → Q C (c.sh h3 tk3)) → wpAny c.M c.A (eval kv env) Q E (c.sh h2 tk2))
    (hJ : ∀ h1 h2, J h1 → Kept h1 h2 → J h2)
    (hq : ∀ v h4 tk4, KB W h h4 → J h4 → P v (lg c h4) → Q v (c.sh h4 tk4))
    (hs : starEach [a] env = [(false, eval a env)] := by rfl)
    (hall : (backToKw pos (keywordEach [⟨some (Str.ofString "key"), kv, kp⟩] env)).all (·.1.isSome) = true := by rfl)
    (hkw : (backToKw pos (keywordEach [⟨some (Str.ofString "key"), kv, kp⟩] env)).any (·.1.isNone) = false := by rfl)
    (he : eval (.Call fe [a] [⟨some (Str.ofString "key"), kv, kp⟩] pos) env = (do callWith pos (← eval fe env) [] (backTo pos (starEach [a] env)) (backToKw pos (keywordEach [⟨some (Str.ofString "key"), kv, kp⟩] env))) := by rfl) :
    wpAny c.M c.A (eval (.Call fe [a] [⟨some (Str.ofString "key"), kv, kp⟩] pos) env) Q E (c.sh h tk) := by
  rw [he]
  refine wpAny_bind (hf.here hX fun v h1 tk1 k1 e => ?_)
  cases e
  have X1 : ∀ {h1 : Heap}, Kept h h1 → ∀ x ∈ c.X, ∃ o, h1.get? x = some o := fun k x hx => let ⟨o, e⟩ := hX x hx; ⟨o, k _ _ e⟩
  refine callWith_kw ?_ (by rw [hs]; rfl) (by rw [hs]; rfl) hall hkw
  refine args_cons ((ha.later k1.lg).here (X1 k1) fun u h2 tk2 k2 pu => args_nil ?_) hs
  refine kws_cons (hl u h2 tk2 _ (k1.trans k2) pu fun C h3 tk3 k3 j3 p3 => kws_nil ?_)
  have k13 : KB W h h3 := (k1.trans k2).kb.trans k3
  show wpAny c.M c.A (call (.builtin "sorted") [u] [(Str.ofString "key", C)]) Q E (c.sh h3 tk3)
  exact p3.here (fun x hx => let ⟨o, e⟩ := hX x hx; ⟨o, k13 _ _ e (hWX x hx)⟩) fun v h4 tk4 k4 p4 => hq v h4 tk4 (k13.trans k4.kb) (hJ _ _ j3 k4) p4
/-- m(f), where the making of f, and the call, change tables -/
theorem call_any {m f : Expr} {mpos : Pos} {mf : Addr} {mo : Obj} {fd : FuncData} {tk : Nat} {Q : Value → Shared → Prop} {E : Value → Shared → Prop} (hX : ∀ x ∈ c.X, ∃ o, h.get? x = some o)
    (hm : Ev c env m (lg c h) (isV (.ref mf))) (hd : mo.data = .func fd)
    (hl : ∀ h1 tk1, Kept h h1 → wpAny c.M c.A (eval f env) (fun fv s2 => s2.heap.get? mf = some mo ∧ wpAny c.M c.A (call (.ref mf) [fv]) Q E s2) E (c.sh h1 tk1))
    (hs : starEach [f] env = [(false, eval f env)] := by rfl)
    (he2 : eval (.Call m [f] [] mpos) env = (do callWith mpos (← eval m env) [] (backTo mpos (starEach [f] env)) (backToKw mpos (keywordEach [] env))) := by rfl) :
    wpAny c.M c.A (eval (.Call m [f] [] mpos) env) Q E (c.sh h tk) := by
  refine Call_ (hm.here hX fun v h1 tk1 k1 e => ?_) he2
  cases e
  refine callWith_def hd ?_ hs
  exact args_cons (wpAny_mono (hl h1 tk1 k1) (fun fv s2 x => args_nil x) fun _ _ y => y) hs
end
end Mine
end

section
-- PL17
open PySem PySem.W PyProof.Rows PySem.Spec PySem.Calls
set_option maxRecDepth 100000
namespace Mine
section
variable {c : Cx} {h : Heap} {env : Env} {P : VP}
end
end Mine
end

section
-- PL18
open PySem PySem.W PyProof.Rows PySem.Spec PySem.Calls
set_option maxRecDepth 100000
namespace Mine
section
variable {c : Cx} {h : Heap} {P : VP}
theorem Fm.low {h0 h1 h : Heap} {env : Env} {V : Vs} (F : Fm h1 env h V) (k : Kept h0 h1) : Fm h0 env h V := by
  have hn : ∀ {a : Addr}, h1.get? a = none → h0.get? a = none := fun {a} e => by
    cases q : h0.get? a with
    | none => rfl
    | some o => have := k _ _ q; rw [e] at this; cases this
  exact ⟨F.kind, F.loc, k.trans F.kept, hn F.newL, F.cell, F.apart, fun n a e => hn (F.newC n a e), F.ne, F.kinds, F.mem⟩
/-- entry of a def from an actual heap, over a base h0 -/
theorem enter_at {name qual : Str} {params : Arguments} {body : List Stmt} {scope : Scope} {dV kV doc pm cdv ct : Value} {an : Option Addr} {fo : Obj} {f : Addr} {vs : List Value} {binds : List (Str × Value)} {h0 h1 : Heap} {tk : Nat} {Q : Value → Shared → Prop} {E : Value → Shared → Prop}
    (hX : c.X = []) (k0 : Kept h0 h1) (ho : h1.get? f = some fo) (hd : fo.data = .func (fnX name qual params body scope [] dV kV doc pm an cdv ct)) (hcd : h1.CodeRec cdv qual) (hlim : h1.NoLimit) (hroom : Room c.A 1)
    (hbind : ∀ s : Shared, Kept h1 s.heap → BindsTo s (fnX name qual params body scope [] dV kV doc pm an cdv ct) ⟨vs, []⟩ binds)
    (hkind : (binds.all fun y => scope.names.lookup y.1 == some .local || scope.names.lookup y.1 == some .cell) = true)
    (hck : (((cellsFrom 0 scope.names []).map (·.1)).all fun n => scope.names.lookup n == some .cell) = true) (hnd : ((cellsFrom 0 scope.names []).map (·.1)).Nodup)
    (hb : ∀ h2 L, Kept h1 h2 → Fx { c with A := c.A.deeper (envOfC qual scope L f cdv) } h0 (envOfC qual scope L f cdv) h2 (Vof binds) → (∀ a, Wr (envOfC qual scope L f cdv) a → h1.get? a = none) →
      Ex { c with A := c.A.deeper (envOfC qual scope L f cdv) } (envOfC qual scope L f cdv) h0 body h2 (fun _ => False) P)
    (hq : ∀ v h3 tk3, Kept h0 h3 → P v (lg c h3) → Q v (c.sh h3 tk3))
    (hco : scope.isCoroutine = false := by rfl) (hgen : scope.isGenerator = false := by rfl) (hk : scope.kind = .function := by rfl) : wpAny c.M c.A (call (.ref f) vs) Q E (c.sh h1 tk) := by
  refine wpAny_call ?_
  refine codeAny_call_function (s := c.sh h1 tk) (Nat.lt_of_succ_lt (hroom.depth : c.A.depth + 1 < recursionLimit)) ho hd hco hgen rfl hcd (hbind (c.sh h1 tk) (Kept.refl h1) _ _ _ _ ?_)
  refine wpAny_newFunctionEnv_cells hk (kindsX hkind _) fun env' he s' x => ?_
  subst he
  have hk1 := x.toInCall.keep
  refine ⟨hlim.keeps hk1, codeAny_func ?_⟩
  obtain ⟨h2, tk2, rfl, _⟩ := x.done
  have F : Fm h1 (envOfC qual scope (c.sh h1 tk).heap.objs.size f cdv) h2 (Vof binds) := by
    have hb : ∀ n a, (cellsFrom ((c.sh h1 tk).heap.objs.size + 1) scope.names []).lookup n = some a → (c.sh h1 tk).heap.objs.size < a := fun n a e => x.above n a (mem_of_lookup e)
    refine ⟨hk, ⟨_, x.toInCall.ns, fun y hy => ?_⟩, x.toInCall.keep, Heap.get?_none_of_le (Nat.le_refl _), fun n a e => ?_, x.apart, fun n a e => Heap.get?_none_of_le (Nat.le_of_lt (hb n a e)), fun n a e => Nat.ne_of_gt (hb n a e), cellsFrom_kinds hck,
      fun n a e => lookup_of_mem_nodup (cellsFrom_names scope.names 0 ((c.sh h1 tk).heap.objs.size + 1) [] [] rfl ▸ hnd) e⟩
    · exact bindL_V binds _ _ (fun _ _ => rfl) y hy
    · have := x.cell n a e
      have hkn := cellsFrom_kinds hck n a e
      rwa [bindC_V binds _ _ (fun _ _ => rfl) n (by intro q; have q' : scope.names.lookup n = some .local := q; rw [hkn] at q'; cases q')] at this
  refine hb h2 _ hk1 ⟨F.low k0, fun x hx => by rw [show c.X = [] from hX] at hx; cases hx⟩ (fun a w => F.newWr w) tk2 _ _ (fun _ _ q => q.elim) (fun v h3 tk3 k3 p => ?_)
  exact hq v h3 tk3 k3 p
end
end Mine
end

section
-- N1
open PySem PySem.W PyProof.Rows PySem.Spec PySem.Calls
set_option maxRecDepth 100000
namespace Mine
section
variable {c : Cx} {env : Env} {h : Heap} {P P1 P2 : VP} {pos : Pos}
theorem b_abs {x : Int} {vs : List Value} (a : AllP [isI x] vs h) : Pu c (call (.builtin "abs") vs) h (isI (if x < 0 then -x else x)) := by
  obtain ⟨u, rfl, ⟨t, rfl⟩⟩ := a.one
  exact Pu.mk fun h1 tk Q E l hq => call_abs_int fun u tk' => hq _ h1 tk' (Kept.refl _) ⟨_, rfl⟩
theorem b_range2 {a b : Int} {n : Nat} {vs : List Value} (hsm : Builtin.Range.small a b 1 = true) (hn : Builtin.Range.rangeSize a b 1 = (n : Int)) (x : AllP [isI a, isI b] vs h) : Pu c (call (.type "range") vs) h (isR a b 1 n) := by
  obtain ⟨u, v, rfl, ⟨t, rfl⟩, ⟨t', rfl⟩⟩ := x.two
  refine Pu.mk fun h1 tk Q E l hq => ?_
  exact call_range_2 (s := c.sh h1 tk) (hq _ _ (tk + 1) (Kept.push _ _) ⟨_, _, _, _, rfl, alloc_is (h2 := h1) (a := 0) l rfl, hsm, hn⟩)
theorem cmp_neB {a b : Value} {x y : Bool} (ha : isB x a h) (hb : isB y b h) : Pu c (compareOp .NotEq a b) h (isB (x != y)) := by
  obtain rfl : a = .bool x := ha
  obtain rfl : b = .bool y := hb
  exact Pu.mk fun h1 tk Q E _ hq => ne_bool (hq _ h1 _ (Kept.refl _) rfl)
theorem cmp_isB {a b : Value} {x y : Bool} (ha : isB x a h) (hb : isB y b h) : Pu c (compareOp .Is a b) h (isB (x == y)) := by
  obtain rfl : a = .bool x := ha
  obtain rfl : b = .bool y := hb
  exact Pu.mk fun h1 tk Q E _ hq => wpAny_is_plain rfl (hq _ h1 _ (Kept.refl _) (by cases x <;> cases y <;> rfl))
/-- a test of a bool -/
theorem Tst.itemB {value slice : Expr} {z : Bool} (x : Ev c env (.Subscript value slice pos) h (isB z)) : Tst c env (.Subscript value slice pos) h z := Tst.of x
theorem set_at {D : Addr} {its : Array Value} {n : Nat} {j : Nat} {k : Int} {t : Tok} {v : Value} {prog : Program} {w : World} {A : Around} {s : Shared} {E : Value → Shared → Prop} {Q : Unit → Shared → Prop} (ho : s.heap.get? D = some { cls := .type "list", data := .seq its n }) (hj : j < its.size) (hk : k = (j : Int)) (hk0 : 0 ≤ k) (hfit : k < 2 ^ 63)
    (hq : ∀ h' n', Heap.SameBut D s.heap h' → h'.get? D = some { cls := .type "list", data := .seq (its.setIfInBounds j v) n' } → Q () { s with heap := h' }) : wpAny (model prog w) A (setItem (.ref D) (.int k t) v) Q E s := by
  have hl : s.heap.IsList D its := ⟨_, ho, rfl, n, rfl⟩
  unfold setItem
  try with_reducible refine wpAny_holding ?_
  first | refine wpAny_bind (wpAny_pure ?_) | skip
  refine wpAny_bind (wpAny_sequenceKey hl.typeIs (by decide) ?_)
  refine wpAny_bind (wpAny_callSpecial?_slot (name := Str.ofString "__setitem__") hl.typeIs slot_list_setitem (wpAny_call_entry slot_list_setitem hl.typeIs entry_list_setitem ?_ (args_list_setitem _ _ _)))
  show wpAny _ _ (Builtin.List.listSubscript? (.int k t) >>= _) _ _ s
  refine wpAny_bind (wpAny_listSubscript_int (fitsIndex_of hk0 hfit) ?_)
  clear hfit hk0
  subst hk
  show wpAny _ _ ((seqItemAt D j >>= fun r => pure (r.map (j, ·))) >>= _) _ _ s
  refine wpAny_bind (wpAny_bind (wpAny_seqItemAt ho rfl (wpAny_pure ?_)))
  rw [Array.getElem?_eq_getElem hj]
  show wpAny _ _ (setSeqItemAt D j v >>= _) _ _ s
  refine wpAny_bind (wpAny_setSeqItemAt ho rfl ?_)
  have fin : ∀ n', (Obj.mapSeq (·.setIfInBounds j v) { cls := .type "list", data := .seq its n }) = { cls := .type "list", data := .seq (its.setIfInBounds j v) n' } → Q () { s with heap := s.heap.update D (Obj.mapSeq (·.setIfInBounds j v)) } := fun n' e =>
    hq _ n' (Heap.SameBut.update ..) (by rw [Heap.get?_update_self _ ho (by rw [e]; rfl), e])
  have fin' := fin _ rfl
  first
    | exact wpAny_bind (wpAny_pure (wpAny_pure ⟨.none, rfl, wpAny_pure fin'⟩))
    | exact wpAny_pure ⟨.none, rfl, wpAny_pure fin'⟩
/-- x[k] = e, x a hidden list -/
theorem Sx.setItem {x : Str} {i e : Expr} {p sp tp : Pos} {its : Array Value} {n j : Nat} {D : Addr} {h0 : Heap} {V : Vs} {N : Heap → Prop} (F : Fx (c.hide D) h0 env h V) (hD0 : h0.get? D = none) (hv : V x = some (.ref D)) (hD : h.get? D = some { cls := .type "list", data := .seq its n }) [Mo P1]
    (hi : Ev (c.hide D) env i (lg (c.hide D) h) (isI (j : Int))) (hj : j < its.size) (hfit : (j : Int) < 2 ^ 63) (he : Ev (c.hide D) env e (lg (c.hide D) h) P1)
    (hr : ∀ v h' n', Fx (c.hide D) h0 env h' V → h'.get? D = some { cls := .type "list", data := .seq (its.setIfInBounds j v) n' } → (∀ b o, h.get? b = some o → b ≠ D → h'.get? b = some o) → P1 v (lg (c.hide D) h') → N h')
    (hk : env.kindOf x = some .local ∨ (env.kindOf x = some .cell ∧ (env.cells.lookup x).isSome = true) := by exact own_of (by rfl)) (hd : (x == ("__debug__" : Str)) = false := by decide)
    (hs : swapsWith e (some (.Subscript (.Name x p) i sp)) tp.line env = pure false := by rfl) :
    Sx (c.hide D) env h0 (.Assign [.Subscript (.Name x p) i sp] e tp) h N P := Sx.mk fun tk Q E hn _ => by
  refine wpAny_Assign_Subscript (he h tk _ E F.lt fun v h1 tk1 k1 pv => ?_) hs
  have nm : Ev (c.hide D) env (.Name x p) (lg (c.hide D) h) (isV (.ref D)) := F.var hv rfl hk hd p
  refine nm h1 tk1 _ E (F.lt.trans k1) fun u h2 tk2 k2 eu => ?_
  cases eu
  refine hi h2 tk2 _ E (F.lt.trans (k1.trans k2)) fun u h3 tk3 k3 pi => ?_
  obtain ⟨t, rfl⟩ := pi
  have k13 := (k1.trans k2).trans k3
  refine set_at (s := c.sh h3 tk3) (k13 _ _ hD) hj rfl (Int.natCast_nonneg j) hfit fun h4 n' hs4 hD4 => ?_
  have F2 := F.at k13
  have hw : ¬ Wr env D := (F.hid D List.mem_cons_self).1
  have F3 : Fx (c.hide D) h0 env h4 V := ⟨F2.toFm.sameBut hs4 hD0 hw, fun z hz => by
    obtain ⟨w, o, e⟩ := F2.hid z hz
    refine ⟨w, ?_⟩
    by_cases q : z = D
    · exact ⟨_, q ▸ hD4⟩
    · exact ⟨o, hs4.extBut z o q e⟩⟩
  exact hn h4 tk3 (hr v h4 n' F3 hD4 (fun b o e q => hs4.extBut b o q (k13 b o e)) (Mo.mo pv (((k2.trans k3).lg).trans (lg_hide hs4)).stay))
theorem Are.rep {α : Type} {R : α → VP} {xs : List α} {vs : List Value} (a : Are R xs vs h) : ∀ n, Are R (List.replicate n xs).flatten (List.replicate n vs).flatten h
  | 0 => Are.nil
  | n + 1 => by rw [List.replicate_succ, List.replicate_succ, List.flatten_cons, List.flatten_cons]; exact a.append (Are.rep a n)
theorem b_listmul {x : Int} {xs : List Int} {u v : Value} (hu : isL isI xs u h) (hv : isI x v h) (h0 : 0 ≤ x) (hsz : xs.length * x.toNat ≤ 2 ^ 20) (hhi : x < 2 ^ 20) : Pu c (binaryOp .Mult u v) h (andC (isL isI (List.replicate x.toNat xs).flatten) (isNew h)) := Pu.mk fun h1 tk Q E l hq => by
  obtain ⟨a, vs, n, rfl, ea, ra⟩ := hu
  obtain ⟨t, rfl⟩ := hv
  have ea1 := l.top _ _ ea
  have hl : vs.length = xs.length := ra.len
  have hsz' : vs.toArray.size * x.toNat ≤ 2 ^ 24 := by rw [List.size_toArray, hl]; omega
  refine wpAny_binaryOp_repeat_ref (T := "list") (U := "int") (by decide) ⟨_, ea1, rfl⟩ (fun s' => typeIs_int s' x t) noFill_list_mul F.fills_int_mul F.slot_int_rmul repeat_list F.slot_int_index.lookup
    (call_meets F.slot_int_rmul (typeIs_int (c.sh h1 tk) x t) F.entry_int_rmul (F.args_int_rmul_2 _ _) (int___rmul___int_list x t a vs.toArray n)
      ⟨ea1, rfl, ⟨_, ea1, rfl⟩, call_meets F.slot_list_mul ⟨_, ea1, rfl⟩ F.entry_list_mul (F.args_list_mul_2 _ _)
        (AutoListH.list___mul___list_int_3 a vs.toArray n x t (by simp [Builtin.List.listFitsIndex]; omega) (by omega) (by simp [Builtin.List.listTooLong, sizeLine]; omega)) ⟨ea1, ?_⟩⟩)
  refine hq _ _ tk (Kept.push _ _) ⟨⟨_, (List.replicate x.toNat vs).flatten, 0, rfl, ?_, ?_⟩, _, rfl, ?_⟩
  · rw [alloc_is (h2 := h1) (a := 0) l rfl]
    congr 3
    exact listMul_foldl_if ..
  · exact (ra.rep _).stay ((l.keep.trans (Kept.push _ _).lg).stay)
  · cases e : h.get? h1.objs.size with
    | none => rfl
    | some o => exact absurd (Heap.lt_size (l.top _ _ e)) (Nat.lt_irrefl _)
/-- x = e, an int, where e may read the hidden list -/
theorem Ex.assignU {D : Addr} {x : Str} {e : Expr} {p1 p2 : Pos} {h0 : Heap} {V : Vs} {N : Heap → Prop} {rest : List Stmt} {z : Int} (F : Fx (c.hide D) h0 env h V) (he : Ev c env e (lg c h) (isI z))
    (hr : ∀ v h', Fx (c.hide D) h0 env h' (upd V x v) → KB (Wr env) h h' → Stay (lg (c.hide D) h) (lg (c.hide D) h') → isI z v h' → Ex (c.hide D) env h0 rest h' N P)
    (hk : env.kindOf x = some .local ∨ (env.kindOf x = some .cell ∧ (env.cells.lookup x).isSome = true) := by exact own_of (by rfl)) (hs : swapsWith e (some (.Name x p1)) p2.line env = pure false := by rfl) : Ex (c.hide D) env h0 (.Assign [.Name x p1] e p2 :: rest) h N P :=
  Ex.cons fun tk Q E hn _ => wpAny_Assign_Name (he h tk _ E F.unhide.lt fun v h1 tk1 k p => (F.toFm.at k).store (s := c.sh h1 tk1) hk fun h2 tk2 F2 kb =>
    have kb' : KB (Wr env) h h2 := k.kb.trans kb
    hn h2 tk2 (hr v h2 (F.next F2 kb') kb' (F.stay kb') p)) hs
theorem Are.set {α : Type} {R : α → VP} : ∀ {xs : List α} {vs : List Value} (a : Are R xs vs h) (i : Nat) {x : α} {v : Value}, R x v h → Are R (xs.set i x) (vs.set i v) h
  | [], vs, a, i, x, v, r => by
    have : vs = [] := List.eq_nil_of_length_eq_zero a.len
    subst this
    exact Are.nil
  | y :: xs, vs, a, i, x, v, r => by
    obtain ⟨u, vs', rfl, q, b⟩ := a.uncons
    cases i with
    | zero => exact Are.cons r b
    | succ i => exact Are.cons q (Are.set b i r)
end
end Mine
end

section
-- N2
open PySem PySem.W PyProof.Rows PySem.Spec PySem.Calls PySem.SeqAt PySem.AutoSeq1 PySem.MeetsSeq PySem.MeetsSeq2 PySem.MeetsSeq3
set_option maxRecDepth 100000
namespace Mine
/-- a comparison that tells b and changes nothing -/
def RcOp (op : CmpOp) (A : Around) (s : Shared) (y x : Value) (b : Bool) : Prop := ∀ (prog : Program) (w : World) (E : Value → Shared → Prop) (Q : Value → Shared → Prop), Q (.bool b) s → wpAny (model prog w) A (richCompare op y x) Q E s
/-- what lists of one length tell: at the first place that differs -/
structure Lex (op : CmpOp) (A : Around) (s : Shared) (items items2 : Array Value) (e : Nat → Bool) (z r : Bool) : Prop where
  eq : ∀ j (h1 : j < items.size) (h2 : j < items2.size), EqAt A s items[j] items2[j] (e j)
  first : ∀ j (h1 : j < items.size) (h2 : j < items2.size), e j = false → (∀ m, m < j → e m = true) → RcOp op A s items[j] items2[j] r
  all : (∀ j, j < items.size → e j = true) → r = z
theorem loop_lt (l b : Addr) (items items2 : Array Value) (n n2 : Nat) (dd dd2 : Option Addr) (sl sl2 : Array (Option Value)) (hsz : items.size = items2.size) (e : Nat → Bool) (r : Bool) (k : Nat) :
    ∀ i : Nat, items.size - i = k → (∀ m, m < i → e m = true) → Meets (Builtin.«list.__eq__.loop» ⟨[.ref l, .ref b, rawInt i, rawInt 0], []⟩)
      (fun A R s => s.heap.get? l = some { cls := .type "list", dict := dd, data := .seq items n, slots := sl } ∧ s.heap.get? b = some { cls := .type "list", dict := dd2, data := .seq items2 n2, slots := sl2 } ∧
        Lex .Lt A.in1 s items items2 e false r ∧ R (.ok (.ret (.bool r))) s) := by
  induction k with
  | zero =>
    intro i hk hm prog w A R s h
    obtain ⟨hp, g, d, tk, os⟩ := s; obtain ⟨hl, hb, he, h⟩ := h
    have hr := he.all fun j hj => hm j (by omega)
    wp_walk using wpAny_loadPart' hl, wpAny_loadPart' hb
    have hi1 : items[((i : Nat) : Int).toNat]? = none := by simp; omega
    have hi2 : items2[((i : Nat) : Int).toNat]? = none := by simp; omega
    rw [hi1, hi2]
    wp_walk using wpAny_loadPart' hl, wpAny_loadPart' hb
    rw [hr] at h
    show R (.ok (.ret (.bool (decide (items.size < items2.size))))) _
    rw [hsz]
    simpa using h
  | succ k ih =>
    intro i hk hm prog w A R s h
    obtain ⟨hp, g, d, tk, os⟩ := s; obtain ⟨hl, hb, he, h⟩ := h
    wp_walk using wpAny_loadPart' hl, wpAny_loadPart' hb
    have hlt : i < items.size := by omega
    have hlt2 : i < items2.size := by omega
    have hi1 : items[((i : Nat) : Int).toNat]? = some items[i] := by simp [hlt]
    have hi2 : items2[((i : Nat) : Int).toNat]? = some items2[i] := by simp [hlt2]
    have hc : ((i : Int) + 1) = ((i + 1 : Nat) : Int) := by push_cast; rfl
    rw [hi1, hi2]
    refine wpAny_bind (he.eq i hlt hlt2 prog w _ _ ?_)
    cases hb' : e i with
    | true =>
      wp_walk
      rw [hc]
      exact ⟨plainId_quiet plain_eq_loop _, codeAny_builtin entry_eq_loop (by
        rw [Around.under_plainId plain_eq_loop _]
        exact ih (i + 1) (by omega) (fun m q => if q' : m = i then q' ▸ hb' else hm m (by omega)) prog w A R _ ⟨hl, hb, he, h⟩)⟩
    | false =>
      wp_walk using wpAny_loadPart' hl, wpAny_loadPart' hb
      rw [hi1, hi2]
      refine wpAny_bind (he.first i hlt hlt2 hb' hm prog w _ _ ?_)
      wp_walk
      exact h
theorem list_ltAt (l b : Addr) (items items2 : Array Value) (n n2 : Nat) (dd dd2 : Option Addr) (sl sl2 : Array (Option Value)) (hsz : items.size = items2.size) (e : Nat → Bool) (r : Bool) :
    Meets (Builtin.«list.__lt__» ⟨[.ref l, .ref b], []⟩)
      (fun A R s => s.heap.get? l = some { cls := .type "list", dict := dd, data := .seq items n, slots := sl } ∧ s.heap.get? b = some { cls := .type "list", dict := dd2, data := .seq items2 n2, slots := sl2 } ∧
        Lex .Lt A.in1 s items items2 e false r ∧ R (.ok (.ret (.bool r))) s) := by
  intro prog w A R s h
  obtain ⟨hp, g, d, tk, os⟩ := s; obtain ⟨hl, hb, he, h⟩ := h
  have f3 := AutoSeq1.sub_list_list
  wp_walk using wpAny_loadPart' hl, wpAny_loadPart' hb
  exact ⟨plainId_quiet plain_eq_loop _, codeAny_builtin entry_eq_loop (by
    rw [Around.under_plainId plain_eq_loop _]
    exact loop_lt l b items items2 n n2 dd dd2 sl sl2 hsz e r _ 0 rfl (fun _ q => absurd q (Nat.not_lt_zero _)) prog w A R _ ⟨hl, hb, he, h⟩)⟩
theorem loop_le (l b : Addr) (items items2 : Array Value) (n n2 : Nat) (dd dd2 : Option Addr) (sl sl2 : Array (Option Value)) (hsz : items.size = items2.size) (e : Nat → Bool) (r : Bool) (k : Nat) :
    ∀ i : Nat, items.size - i = k → (∀ m, m < i → e m = true) → Meets (Builtin.«list.__eq__.loop» ⟨[.ref l, .ref b, rawInt i, rawInt 1], []⟩)
      (fun A R s => s.heap.get? l = some { cls := .type "list", dict := dd, data := .seq items n, slots := sl } ∧ s.heap.get? b = some { cls := .type "list", dict := dd2, data := .seq items2 n2, slots := sl2 } ∧
        Lex .LtE A.in1 s items items2 e true r ∧ R (.ok (.ret (.bool r))) s) := by
  induction k with
  | zero =>
    intro i hk hm prog w A R s h
    obtain ⟨hp, g, d, tk, os⟩ := s; obtain ⟨hl, hb, he, h⟩ := h
    have hr := he.all fun j hj => hm j (by omega)
    wp_walk using wpAny_loadPart' hl, wpAny_loadPart' hb
    have hi1 : items[((i : Nat) : Int).toNat]? = none := by simp; omega
    have hi2 : items2[((i : Nat) : Int).toNat]? = none := by simp; omega
    rw [hi1, hi2]
    wp_walk using wpAny_loadPart' hl, wpAny_loadPart' hb
    rw [hr] at h
    show R (.ok (.ret (.bool (decide (items.size ≤ items2.size))))) _
    rw [hsz]
    simpa using h
  | succ k ih =>
    intro i hk hm prog w A R s h
    obtain ⟨hp, g, d, tk, os⟩ := s; obtain ⟨hl, hb, he, h⟩ := h
    wp_walk using wpAny_loadPart' hl, wpAny_loadPart' hb
    have hlt : i < items.size := by omega
    have hlt2 : i < items2.size := by omega
    have hi1 : items[((i : Nat) : Int).toNat]? = some items[i] := by simp [hlt]
    have hi2 : items2[((i : Nat) : Int).toNat]? = some items2[i] := by simp [hlt2]
    have hc : ((i : Int) + 1) = ((i + 1 : Nat) : Int) := by push_cast; rfl
    rw [hi1, hi2]
    refine wpAny_bind (he.eq i hlt hlt2 prog w _ _ ?_)
    cases hb' : e i with
    | true =>
      wp_walk
      rw [hc]
      exact ⟨plainId_quiet plain_eq_loop _, codeAny_builtin entry_eq_loop (by
        rw [Around.under_plainId plain_eq_loop _]
        exact ih (i + 1) (by omega) (fun m q => if q' : m = i then q' ▸ hb' else hm m (by omega)) prog w A R _ ⟨hl, hb, he, h⟩)⟩
    | false =>
      wp_walk using wpAny_loadPart' hl, wpAny_loadPart' hb
      rw [hi1, hi2]
      refine wpAny_bind (he.first i hlt hlt2 hb' hm prog w _ _ ?_)
      wp_walk
      exact h
theorem list_leAt (l b : Addr) (items items2 : Array Value) (n n2 : Nat) (dd dd2 : Option Addr) (sl sl2 : Array (Option Value)) (hsz : items.size = items2.size) (e : Nat → Bool) (r : Bool) :
    Meets (Builtin.«list.__le__» ⟨[.ref l, .ref b], []⟩)
      (fun A R s => s.heap.get? l = some { cls := .type "list", dict := dd, data := .seq items n, slots := sl } ∧ s.heap.get? b = some { cls := .type "list", dict := dd2, data := .seq items2 n2, slots := sl2 } ∧
        Lex .LtE A.in1 s items items2 e true r ∧ R (.ok (.ret (.bool r))) s) := by
  intro prog w A R s h
  obtain ⟨hp, g, d, tk, os⟩ := s; obtain ⟨hl, hb, he, h⟩ := h
  have f3 := AutoSeq1.sub_list_list
  wp_walk using wpAny_loadPart' hl, wpAny_loadPart' hb
  exact ⟨plainId_quiet plain_eq_loop _, codeAny_builtin entry_eq_loop (by
    rw [Around.under_plainId plain_eq_loop _]
    exact loop_le l b items items2 n n2 dd dd2 sl sl2 hsz e r _ 0 rfl (fun _ q => absurd q (Nat.not_lt_zero _)) prog w A R _ ⟨hl, hb, he, h⟩)⟩
theorem loop_gt (l b : Addr) (items items2 : Array Value) (n n2 : Nat) (dd dd2 : Option Addr) (sl sl2 : Array (Option Value)) (hsz : items.size = items2.size) (e : Nat → Bool) (r : Bool) (k : Nat) :
    ∀ i : Nat, items.size - i = k → (∀ m, m < i → e m = true) → Meets (Builtin.«list.__eq__.loop» ⟨[.ref l, .ref b, rawInt i, rawInt 4], []⟩)
      (fun A R s => s.heap.get? l = some { cls := .type "list", dict := dd, data := .seq items n, slots := sl } ∧ s.heap.get? b = some { cls := .type "list", dict := dd2, data := .seq items2 n2, slots := sl2 } ∧
        Lex .Gt A.in1 s items items2 e false r ∧ R (.ok (.ret (.bool r))) s) := by
  induction k with
  | zero =>
    intro i hk hm prog w A R s h
    obtain ⟨hp, g, d, tk, os⟩ := s; obtain ⟨hl, hb, he, h⟩ := h
    have hr := he.all fun j hj => hm j (by omega)
    wp_walk using wpAny_loadPart' hl, wpAny_loadPart' hb
    have hi1 : items[((i : Nat) : Int).toNat]? = none := by simp; omega
    have hi2 : items2[((i : Nat) : Int).toNat]? = none := by simp; omega
    rw [hi1, hi2]
    wp_walk using wpAny_loadPart' hl, wpAny_loadPart' hb
    rw [hr] at h
    show R (.ok (.ret (.bool (decide (items.size > items2.size))))) _
    rw [hsz]
    simpa using h
  | succ k ih =>
    intro i hk hm prog w A R s h
    obtain ⟨hp, g, d, tk, os⟩ := s; obtain ⟨hl, hb, he, h⟩ := h
    wp_walk using wpAny_loadPart' hl, wpAny_loadPart' hb
    have hlt : i < items.size := by omega
    have hlt2 : i < items2.size := by omega
    have hi1 : items[((i : Nat) : Int).toNat]? = some items[i] := by simp [hlt]
    have hi2 : items2[((i : Nat) : Int).toNat]? = some items2[i] := by simp [hlt2]
    have hc : ((i : Int) + 1) = ((i + 1 : Nat) : Int) := by push_cast; rfl
    rw [hi1, hi2]
    refine wpAny_bind (he.eq i hlt hlt2 prog w _ _ ?_)
    cases hb' : e i with
    | true =>
      wp_walk
      rw [hc]
      exact ⟨plainId_quiet plain_eq_loop _, codeAny_builtin entry_eq_loop (by
        rw [Around.under_plainId plain_eq_loop _]
        exact ih (i + 1) (by omega) (fun m q => if q' : m = i then q' ▸ hb' else hm m (by omega)) prog w A R _ ⟨hl, hb, he, h⟩)⟩
    | false =>
      wp_walk using wpAny_loadPart' hl, wpAny_loadPart' hb
      rw [hi1, hi2]
      refine wpAny_bind (he.first i hlt hlt2 hb' hm prog w _ _ ?_)
      wp_walk
      exact h
theorem list_gtAt (l b : Addr) (items items2 : Array Value) (n n2 : Nat) (dd dd2 : Option Addr) (sl sl2 : Array (Option Value)) (hsz : items.size = items2.size) (e : Nat → Bool) (r : Bool) :
    Meets (Builtin.«list.__gt__» ⟨[.ref l, .ref b], []⟩)
      (fun A R s => s.heap.get? l = some { cls := .type "list", dict := dd, data := .seq items n, slots := sl } ∧ s.heap.get? b = some { cls := .type "list", dict := dd2, data := .seq items2 n2, slots := sl2 } ∧
        Lex .Gt A.in1 s items items2 e false r ∧ R (.ok (.ret (.bool r))) s) := by
  intro prog w A R s h
  obtain ⟨hp, g, d, tk, os⟩ := s; obtain ⟨hl, hb, he, h⟩ := h
  have f3 := AutoSeq1.sub_list_list
  wp_walk using wpAny_loadPart' hl, wpAny_loadPart' hb
  exact ⟨plainId_quiet plain_eq_loop _, codeAny_builtin entry_eq_loop (by
    rw [Around.under_plainId plain_eq_loop _]
    exact loop_gt l b items items2 n n2 dd dd2 sl sl2 hsz e r _ 0 rfl (fun _ q => absurd q (Nat.not_lt_zero _)) prog w A R _ ⟨hl, hb, he, h⟩)⟩
theorem loop_ge (l b : Addr) (items items2 : Array Value) (n n2 : Nat) (dd dd2 : Option Addr) (sl sl2 : Array (Option Value)) (hsz : items.size = items2.size) (e : Nat → Bool) (r : Bool) (k : Nat) :
    ∀ i : Nat, items.size - i = k → (∀ m, m < i → e m = true) → Meets (Builtin.«list.__eq__.loop» ⟨[.ref l, .ref b, rawInt i, rawInt 5], []⟩)
      (fun A R s => s.heap.get? l = some { cls := .type "list", dict := dd, data := .seq items n, slots := sl } ∧ s.heap.get? b = some { cls := .type "list", dict := dd2, data := .seq items2 n2, slots := sl2 } ∧
        Lex .GtE A.in1 s items items2 e true r ∧ R (.ok (.ret (.bool r))) s) := by
  induction k with
  | zero =>
    intro i hk hm prog w A R s h
    obtain ⟨hp, g, d, tk, os⟩ := s; obtain ⟨hl, hb, he, h⟩ := h
    have hr := he.all fun j hj => hm j (by omega)
    wp_walk using wpAny_loadPart' hl, wpAny_loadPart' hb
    have hi1 : items[((i : Nat) : Int).toNat]? = none := by simp; omega
    have hi2 : items2[((i : Nat) : Int).toNat]? = none := by simp; omega
    rw [hi1, hi2]
    wp_walk using wpAny_loadPart' hl, wpAny_loadPart' hb
    rw [hr] at h
    show R (.ok (.ret (.bool (decide (items.size ≥ items2.size))))) _
    rw [hsz]
    simpa using h
  | succ k ih =>
    intro i hk hm prog w A R s h
    obtain ⟨hp, g, d, tk, os⟩ := s; obtain ⟨hl, hb, he, h⟩ := h
    wp_walk using wpAny_loadPart' hl, wpAny_loadPart' hb
    have hlt : i < items.size := by omega
    have hlt2 : i < items2.size := by omega
    have hi1 : items[((i : Nat) : Int).toNat]? = some items[i] := by simp [hlt]
    have hi2 : items2[((i : Nat) : Int).toNat]? = some items2[i] := by simp [hlt2]
    have hc : ((i : Int) + 1) = ((i + 1 : Nat) : Int) := by push_cast; rfl
    rw [hi1, hi2]
    refine wpAny_bind (he.eq i hlt hlt2 prog w _ _ ?_)
    cases hb' : e i with
    | true =>
      wp_walk
      rw [hc]
      exact ⟨plainId_quiet plain_eq_loop _, codeAny_builtin entry_eq_loop (by
        rw [Around.under_plainId plain_eq_loop _]
        exact ih (i + 1) (by omega) (fun m q => if q' : m = i then q' ▸ hb' else hm m (by omega)) prog w A R _ ⟨hl, hb, he, h⟩)⟩
    | false =>
      wp_walk using wpAny_loadPart' hl, wpAny_loadPart' hb
      rw [hi1, hi2]
      refine wpAny_bind (he.first i hlt hlt2 hb' hm prog w _ _ ?_)
      wp_walk
      exact h
theorem list_geAt (l b : Addr) (items items2 : Array Value) (n n2 : Nat) (dd dd2 : Option Addr) (sl sl2 : Array (Option Value)) (hsz : items.size = items2.size) (e : Nat → Bool) (r : Bool) :
    Meets (Builtin.«list.__ge__» ⟨[.ref l, .ref b], []⟩)
      (fun A R s => s.heap.get? l = some { cls := .type "list", dict := dd, data := .seq items n, slots := sl } ∧ s.heap.get? b = some { cls := .type "list", dict := dd2, data := .seq items2 n2, slots := sl2 } ∧
        Lex .GtE A.in1 s items items2 e true r ∧ R (.ok (.ret (.bool r))) s) := by
  intro prog w A R s h
  obtain ⟨hp, g, d, tk, os⟩ := s; obtain ⟨hl, hb, he, h⟩ := h
  have f3 := AutoSeq1.sub_list_list
  wp_walk using wpAny_loadPart' hl, wpAny_loadPart' hb
  exact ⟨plainId_quiet plain_eq_loop _, codeAny_builtin entry_eq_loop (by
    rw [Around.under_plainId plain_eq_loop _]
    exact loop_ge l b items items2 n n2 dd dd2 sl sl2 hsz e r _ 0 rfl (fun _ q => absurd q (Nat.not_lt_zero _)) prog w A R _ ⟨hl, hb, he, h⟩)⟩
end Mine
end

section
-- N3
open PySem PySem.W PyProof.Rows PySem.Spec PySem.Calls PySem.SeqAt PySem.AutoSeq1 PySem.MeetsSeq PySem.MeetsSeq2 PySem.MeetsSeq3
set_option maxRecDepth 100000
namespace Mine
section
variable {α : Type} {R : α → VP} {h : Heap} {A : Around} {s : Shared} {op : CmpOp} {eqf opf : α → α → Bool} {z : Bool}
def lexL (eqf opf : α → α → Bool) (z : Bool) : List α → List α → Bool
  | x :: xs, y :: ys => if eqf x y then lexL eqf opf z xs ys else opf x y
  | _, _ => z
def eqL (eqf : α → α → Bool) : List α → List α → Bool
  | x :: xs, y :: ys => eqf x y && eqL eqf xs ys
  | _, _ => true
def eAt (eqf : α → α → Bool) (xs ys : List α) (j : Nat) : Bool := match xs[j]?, ys[j]? with
  | some x, some y => eqf x y
  | _, _ => true
theorem lexL_first : ∀ {xs ys : List α} {j : Nat} {x y : α}, xs[j]? = some x → ys[j]? = some y → eqf x y = false → (∀ m, m < j → eAt eqf xs ys m = true) → lexL eqf opf z xs ys = opf x y
  | a :: xs, b :: ys, 0, x, y, h1, h2, h3, _ => by
    cases h1; cases h2
    simp [lexL, h3]
  | a :: xs, b :: ys, j + 1, x, y, h1, h2, h3, h4 => by
    have h0 : eqf a b = true := h4 0 (by omega)
    simp only [lexL, h0, if_true]
    exact lexL_first (j := j) h1 h2 h3 fun m hm => h4 (m + 1) (by omega)
theorem lexL_all : ∀ {xs ys : List α}, xs.length = ys.length → (∀ m, m < xs.length → eAt eqf xs ys m = true) → lexL eqf opf z xs ys = z
  | [], [], _, _ => rfl
  | a :: xs, b :: ys, hl, h4 => by
    have h0 : eqf a b = true := h4 0 (by simp)
    simp only [lexL, h0, if_true]
    exact lexL_all (by simpa using hl) fun m hm => h4 (m + 1) (by simpa using hm)
theorem eqL_all : ∀ {xs ys : List α}, xs.length = ys.length → (List.range xs.length).all (eAt eqf xs ys) = eqL eqf xs ys
  | [], [], _ => rfl
  | a :: xs, b :: ys, hl => by
    rw [List.length_cons, List.range_succ_eq_map, List.all_cons, List.all_map]
    show (eqf a b && _) = (eqf a b && eqL eqf xs ys)
    rw [← eqL_all (xs := xs) (ys := ys) (by simpa using hl)]
    rfl
/-- how things of one sort are compared -/
structure Kit (R : α → VP) (op : CmpOp) (h : Heap) (A : Around) (s : Shared) (eqf opf : α → α → Bool) (xs ys : List α) : Prop where
  eq : ∀ (i : Nat) x y u v, xs[i]? = some x → ys[i]? = some y → R x u h → R y v h → EqAt A s u v (eqf x y)
  rc : ∀ (i : Nat) x y u v, xs[i]? = some x → ys[i]? = some y → R x u h → R y v h → RcOp op A s u v (opf x y)
theorem Kit.lex {xs ys : List α} {vs ws : List Value} (k : Kit R op h A s eqf opf xs ys) (a : Are R xs vs h) (b : Are R ys ws h) (hl : xs.length = ys.length) : Lex op A s vs.toArray ws.toArray (eAt eqf xs ys) z (lexL eqf opf z xs ys) := by
  have ha := a.len
  have hb := b.len
  have get : ∀ j, j < vs.length → ∃ x y u v, xs[j]? = some x ∧ ys[j]? = some y ∧ vs[j]? = some u ∧ ws[j]? = some v ∧ R x u h ∧ R y v h := fun j hj => by
    have h1 : xs[j]? = some xs[j] := List.getElem?_eq_getElem (by omega)
    have h2 : ys[j]? = some ys[j] := List.getElem?_eq_getElem (by omega)
    obtain ⟨u, hu, ru⟩ := a.get h1
    obtain ⟨v, hv, rv⟩ := b.get h2
    exact ⟨_, _, u, v, h1, h2, hu, hv, ru, rv⟩
  have item : ∀ (l : List Value) j (hj : j < l.toArray.size) u, l[j]? = some u → l.toArray[j] = u := fun l j hj u e => by
    rw [List.getElem_toArray]
    exact (List.getElem?_eq_some_iff.mp e).2
  refine ⟨fun j h1 h2 => ?_, fun j h1 h2 e1 e2 => ?_, fun e => lexL_all hl fun m hm => e m (by simpa [ha] using hm)⟩
  · obtain ⟨x, y, u, v, q1, q2, q3, q4, ru, rv⟩ := get j (by simpa using h1)
    rw [item vs j h1 u q3, item ws j h2 v q4, show eAt eqf xs ys j = eqf x y by unfold eAt; rw [q1, q2]]
    exact k.eq j x y u v q1 q2 ru rv
  · obtain ⟨x, y, u, v, q1, q2, q3, q4, ru, rv⟩ := get j (by simpa using h1)
    have e3 : eqf x y = false := by
      have : eAt eqf xs ys j = eqf x y := by unfold eAt; rw [q1, q2]
      rw [← this]; exact e1
    rw [item vs j h1 u q3, item ws j h2 v q4, lexL_first q1 q2 e3 e2]
    exact k.rc j x y u v q1 q2 ru rv
theorem eq_lists {xs ys : List α} {u v : Value} (hu : isL R xs u s.heap) (hv : isL R ys v s.heap) (hl : xs.length = ys.length) (hA : A.units < cLine) (k : Kit R op s.heap A.in1 s eqf opf xs ys) : RcAt A s u v (eqL eqf xs ys) := by
  obtain ⟨a, vs, rfl, ha, ra⟩ := hu.list
  obtain ⟨b, ws, rfl, hb, rb⟩ := hv.list
  have L := k.lex (z := true) ra rb hl
  have q := RcAt.lists (e := eAt eqf xs ys) ha hb (by simp [ra.len, rb.len, hl]) hA L.eq
  rw [List.size_toArray, ra.len, eqL_all hl] at q
  exact q
theorem ne_lists {xs ys : List α} {u v : Value} (hu : isL R xs u s.heap) (hv : isL R ys v s.heap) (hl : xs.length = ys.length) (hA : A.units < cLine) (k : Kit R op s.heap A.in1 s eqf opf xs ys) : RcNeAt A s u v (!eqL eqf xs ys) := by
  obtain ⟨a, vs, rfl, ha, ra⟩ := hu.list
  obtain ⟨b, ws, rfl, hb, rb⟩ := hv.list
  have L := k.lex (z := true) ra rb hl
  have q := RcNeAt.lists (e := eAt eqf xs ys) ha hb (by simp [ra.len, rb.len, hl]) hA L.eq
  rw [List.size_toArray, ra.len, eqL_all hl] at q
  exact q
theorem lt_lists {xs ys : List α} {u v : Value} (hu : isL R xs u s.heap) (hv : isL R ys v s.heap) (hl : xs.length = ys.length) (hA : A.units < cLine) (k : Kit R .Lt s.heap A.in1 s eqf opf xs ys) : RcOp .Lt A s u v (lexL eqf opf false xs ys) := fun prog w E Q hq => by
  obtain ⟨a, vs, n, rfl, ha, ra⟩ := hu
  obtain ⟨b, ws, n2, rfl, hb, rb⟩ := hv
  have L := k.lex (z := false) ra rb hl
  exact richCompare_meets_room (op := .Lt) ⟨_, ha, rfl⟩ ⟨_, hb, rfl⟩ PySem.F.slot_list_lt PySem.F.entry_list_lt (PySem.F.args_list_lt_2 _ _) (list_ltAt a b vs.toArray ws.toArray n n2 none none #[] #[] (by simp [ra.len, rb.len, hl]) _ _)
    ⟨ha, hb, L, (⟨(fun x => nomatch x), hq⟩ : Value.bool (lexL eqf opf false xs ys) ≠ Value.notImplemented ∧ Q (.bool _) s)⟩ hA
theorem le_lists {xs ys : List α} {u v : Value} (hu : isL R xs u s.heap) (hv : isL R ys v s.heap) (hl : xs.length = ys.length) (hA : A.units < cLine) (k : Kit R .LtE s.heap A.in1 s eqf opf xs ys) : RcOp .LtE A s u v (lexL eqf opf true xs ys) := fun prog w E Q hq => by
  obtain ⟨a, vs, n, rfl, ha, ra⟩ := hu
  obtain ⟨b, ws, n2, rfl, hb, rb⟩ := hv
  have L := k.lex (z := true) ra rb hl
  exact richCompare_meets_room (op := .LtE) ⟨_, ha, rfl⟩ ⟨_, hb, rfl⟩ PySem.F.slot_list_le PySem.F.entry_list_le (PySem.F.args_list_le_2 _ _) (list_leAt a b vs.toArray ws.toArray n n2 none none #[] #[] (by simp [ra.len, rb.len, hl]) _ _)
    ⟨ha, hb, L, (⟨(fun x => nomatch x), hq⟩ : Value.bool (lexL eqf opf true xs ys) ≠ Value.notImplemented ∧ Q (.bool _) s)⟩ hA
theorem gt_lists {xs ys : List α} {u v : Value} (hu : isL R xs u s.heap) (hv : isL R ys v s.heap) (hl : xs.length = ys.length) (hA : A.units < cLine) (k : Kit R .Gt s.heap A.in1 s eqf opf xs ys) : RcOp .Gt A s u v (lexL eqf opf false xs ys) := fun prog w E Q hq => by
  obtain ⟨a, vs, n, rfl, ha, ra⟩ := hu
  obtain ⟨b, ws, n2, rfl, hb, rb⟩ := hv
  have L := k.lex (z := false) ra rb hl
  exact richCompare_meets_room (op := .Gt) ⟨_, ha, rfl⟩ ⟨_, hb, rfl⟩ PySem.F.slot_list_gt PySem.F.entry_list_gt (PySem.F.args_list_gt_2 _ _) (list_gtAt a b vs.toArray ws.toArray n n2 none none #[] #[] (by simp [ra.len, rb.len, hl]) _ _)
    ⟨ha, hb, L, (⟨(fun x => nomatch x), hq⟩ : Value.bool (lexL eqf opf false xs ys) ≠ Value.notImplemented ∧ Q (.bool _) s)⟩ hA
theorem ge_lists {xs ys : List α} {u v : Value} (hu : isL R xs u s.heap) (hv : isL R ys v s.heap) (hl : xs.length = ys.length) (hA : A.units < cLine) (k : Kit R .GtE s.heap A.in1 s eqf opf xs ys) : RcOp .GtE A s u v (lexL eqf opf true xs ys) := fun prog w E Q hq => by
  obtain ⟨a, vs, n, rfl, ha, ra⟩ := hu
  obtain ⟨b, ws, n2, rfl, hb, rb⟩ := hv
  have L := k.lex (z := true) ra rb hl
  exact richCompare_meets_room (op := .GtE) ⟨_, ha, rfl⟩ ⟨_, hb, rfl⟩ PySem.F.slot_list_ge PySem.F.entry_list_ge (PySem.F.args_list_ge_2 _ _) (list_geAt a b vs.toArray ws.toArray n n2 none none #[] #[] (by simp [ra.len, rb.len, hl]) _ _)
    ⟨ha, hb, L, (⟨(fun x => nomatch x), hq⟩ : Value.bool (lexL eqf opf true xs ys) ≠ Value.notImplemented ∧ Q (.bool _) s)⟩ hA
end
end Mine
end

section
-- N4
open PySem PySem.W PyProof.Rows PySem.Spec PySem.Calls
set_option maxRecDepth 100000
namespace Mine
section
variable {c : Cx} {α : Type} {R : α → VP} [∀ x, Mo (R x)] {xs : List α} {h : Heap} {T : Value}
/-- sorted(it), two items or more -/
theorem b_sorted0 {v : Value} {lt : Nat → Nat → Bool} (hR : c.A.handled = none)
    (hc : Coll c R xs v h) (h2 : 2 ≤ xs.length) (h64 : xs.length < 64) (has : asksT xs.length (kas_sort xs.length) = true) (hp : ∀ i ∈ sortPerm xs.length lt, i < xs.length)
    (hT : ∀ x u g, R x u g → ∃ a o, u = .ref a ∧ g.get? a = some o ∧ o.cls = T) (hT1 : (T != Value.type "tuple") = true) (hT2 : (T == T) = true)
    (hcmp : ∀ X (i j : Nat) x y u v g, xs[i]? = some x → xs[j]? = some y → Kept h g → R x u g → R y v g → Pu { c with A := c.A.in1.in1, X := X } (keyLt' oneType' u v) g (fun b _ => b = lt i j)) :
    Pu c (call (.builtin "sorted") [v]) h (isL R (permL (sortPerm xs.length lt) xs)) := Pu.mk fun h1 tk Q E l hq => by
  refine call_function_entry kind_sorted plain_sorted entry_sorted (args_sorted1 _) ?_
  unfold Builtin.«sorted»
  refine wpAny_bind (m := checkCount "sorted" 1 1 _) (wpAny_pure ?_)
  refine wpAny_bind (hc (c.sh h1 tk) _ _ _ hR l fun vs h2' tk2 k2 vr => ?_)
  have hvl := vr.len
  have l2 := l.trans k2
  refine wpAny_bind (wpAny_newList ?_ (by rw [sizeLine_eq]; omega))
  have hoL : (h2'.push (seqObj "list" vs.toArray 0)).get? h2'.objs.size = some (seqObj "list" vs.toArray 0) := Heap.get?_push_size _ rfl
  have hD : h2'.get? h2'.objs.size = none := Heap.get?_none_of_le (Nat.le_refl _)
  refine wpAny_bind (wpAny_holding (wpAny_call_entry slot_list_sort ⟨_, hoL, rfl⟩ entry_list_sort ?body (args_list_sort _)))
  case body =>
    show wpAny c.M c.A.in1.in1 (Builtin.«list.sort» ⟨[.ref h2'.objs.size], []⟩) _ _ (c.sh (h2'.push (seqObj "list" vs.toArray 0)) tk2)
    rw [list_sort_plain]
    generalize hDe : h2'.objs.size = D at hoL hD ⊢
    have s1 := Heap.SameBut.update (h2'.push (seqObj "list" vs.toArray 0)) D (Obj.mapSeq fun _ => (#[] : Array Value))
    obtain ⟨e1, ho1⟩ : ∃ e1, ((h2'.push (seqObj "list" vs.toArray 0)).update D (Obj.mapSeq fun _ => (#[] : Array Value))).get? D = some (seqObj "list" #[] e1) := ⟨_, get?_update_seq hoL fun _ => #[]⟩
    have kp : Kept h2' ((h2'.push (seqObj "list" vs.toArray 0)).update D (Obj.mapSeq fun _ => (#[] : Array Value))) := fun b o e => (s1.2 b (fun q => by rw [q, hD] at e; cases e)).trans (Heap.get?_push_of_some _ e)
    refine wpAny_bind (listItems_at (s := c.sh _ tk2) hoL rfl ?_)
    refine wpAny_bind (listUpdate_at (s := c.sh _ tk2) hoL rfl ?_ (by rw [List.size_toArray, sizeLine_eq]; omega) (Nat.zero_le _))
    show wpAny c.M _ _ _ _ (c.sh ((h2'.push (seqObj "list" vs.toArray 0)).update D (Obj.mapSeq fun _ => (#[] : Array Value))) tk2)
    generalize hH3 : (h2'.push (seqObj "list" vs.toArray 0)).update D (Obj.mapSeq fun _ => (#[] : Array Value)) = H3 at ho1 kp
    refine wpAny_bind (seqEpoch_at (s := c.sh H3 tk2) ho1 rfl ?_)
    refine wpAny_bind (wpAny_newTuple ?_ (by show vs.length ≤ _; rw [sizeLine_eq]; omega))
    refine wpAny_bind (wpAny_newList ?_ (Nat.zero_le _))
    have hH5 : Kept H3 ((H3.push (seqObj "tuple" vs.toArray 0)).push (seqObj "list" #[] 0)) := (Kept.push _ _).trans (Kept.push _ _)
    refine wpAny_holding ?_
    show wpAny c.M _ _ _ _ (c.sh ((H3.push (seqObj "tuple" vs.toArray 0)).push (seqObj "list" #[] 0)) tk2)
    generalize (H3.push (seqObj "tuple" vs.toArray 0)).push (seqObj "list" #[] 0) = H5 at hH5 ⊢
    have k5 : Kept h2' H5 := kp.trans hH5
    have hD5 := hH5 _ _ ho1
    have ltD : ∀ g, Kept h2' g → (∃ o, g.get? D = some o) → Lt (c.hide D) h g := fun g kg hd => ⟨fun b o e => by
        have e2 := lg_sub _ _ (l2.keep b o e)
        refine lg_get (kg _ _ e2) fun q => ?_
        rcases List.mem_cons.mp q with rfl | q
        · rw [e2] at hD; cases hD
        · exact lg_not (l2.keep b o e) q, fun y hy => by
      rcases List.mem_cons.mp hy with rfl | hy
      · exact hd
      · obtain ⟨o, e⟩ := l2.old y hy; exact ⟨o, kg _ _ e⟩⟩
    have vrD : ∀ g, Kept h2' g → Are R xs vs (lg (c.hide D) g) := fun g kg => vr.stay fun b o eb q => lg_get (kg _ _ (lg_sub _ _ eb)) fun z => by
      rcases List.mem_cons.mp z with rfl | z
      · rw [lg_sub _ _ eb] at hD; cases hD
      · exact lg_not eb z
    dsimp only
    have hn2 : ¬ vs.toArray.size < 2 := by rw [List.size_toArray]; omega
    rw [if_neg hn2, if_neg hn2]
    have hzs : (vs.toArray.zip vs.toArray).size = xs.length := by simp [hvl]
    refine wpAny_bind (kas_kind (T := T) (by omega) (fun v hv => ?_) hT1 hT2 ?_)
    · obtain ⟨i, hi, rfl⟩ := List.getElem_of_mem hv
      obtain ⟨a, o, e, eo, ec⟩ := hT _ _ _ ((vrD H5 k5).at' i xs[i] vs[i] (List.getElem?_eq_getElem (by omega)) (List.getElem?_eq_getElem hi))
      rw [e]
      exact ec ▸ (Looks.ld (lg_sub _ _ eo)).andThen .now
    have est : SortSt.mk' oneType' (vs.toArray.zip vs.toArray) #[] 7 none = kas_st oneType' (vs.toArray.zip vs.toArray) (List.toArray (List.range xs.length)) := by
      have e := kas_range (vs.toArray.zip vs.toArray)
      rw [hzs] at e
      show _ = SortSt.mk' oneType' ((List.toArray (List.range xs.length)).map (kas_item (vs.toArray.zip vs.toArray))) #[] 7 none
      rw [e]
    rw [est]
    have hps : sortPerm xs.length lt = (runT lt (kas_sort xs.length)).toList := by unfold sortPerm; rw [if_neg (by omega)]
    refine wpAny_bind (wpAny_mono (kas_runs (E := E) (Q := fun _ st' s' => ∃ p : Array Nat, p.size = xs.length ∧ arrOf st' = p.map (kas_item (vs.toArray.zip vs.toArray)) ∧ failedOf st' = none ∧ p = runT lt (kas_sort xs.length) ∧ ∃ g tk', s' = c.sh g tk' ∧ Kept H5 g) (G := fun p s' => p = runT lt (kas_sort xs.length) ∧ ∃ g tk', s' = c.sh g tk' ∧ Kept H5 g) (by omega) h64 (fun p' st' s' a1 a2 a3 a4 => ⟨p', a1, a2, a3, a4⟩) ?run) ?fin fun _ _ e => e)
    case fin =>
      rintro ⟨⟨⟩, st'⟩ s' ⟨p, a1, a2, a3, rfl, g, tk', rfl, kg⟩
      have hDg := kg _ _ hD5
      have hout : (arrOf st').map (·.2) = List.toArray ((runT lt (kas_sort xs.length)).toList.map fun i => vs.getD i Value.none) := by
        rw [a2]
        apply Array.toList_inj.mp
        rw [Array.map_map, Array.toList_map]
        exact List.map_congr_left fun i _ => by show (kas_item _ i).2 = _; rw [zip_get rfl]
      have hsz : (List.toArray ((runT lt (kas_sort xs.length)).toList.map fun i => vs.getD i Value.none)).size ≤ sizeLine := by rw [List.size_toArray, List.length_map, Array.length_toList, a1, sizeLine_eq]; omega
      try dsimp only
      rw [hout]
      generalize hou : (runT lt (kas_sort xs.length)).toList.map (fun i => vs.getD i Value.none) = out at hsz ⊢
      have s2 := Heap.SameBut.update g D (Obj.mapSeq fun _ => List.toArray out)
      obtain ⟨c2, hc2⟩ : ∃ c2, (g.update D (Obj.mapSeq fun _ => List.toArray out)).get? D = some (seqObj "list" (List.toArray out) c2) := ⟨_, get?_update_seq hDg fun _ => List.toArray out⟩
      refine wpAny_bind (seqEpoch_at (s := c.sh g tk') hDg rfl ?_)
      refine wpAny_bind (listUpdate_at (s := c.sh g tk') hDg rfl ?_ (Nat.zero_le _) (Nat.le_succ_of_le hsz))
      rw [a3]
      simp only [bne_self_eq_false, Bool.false_eq_true, if_false]
      have k3 : Kept h2' (g.update D (Obj.mapSeq fun _ => List.toArray out)) := fun b o e => (s2.2 b (fun q => by rw [q, hD] at e; cases e)).trans (kg _ _ (k5 _ _ e))
      refine wpAny_pure ⟨_, rfl, wpAny_pure ⟨_, rfl, hq _ _ tk' (k2.trans k3) ⟨D, out, c2, rfl, lg_get hc2 (fun z => ?_), ?_⟩⟩⟩
      · obtain ⟨o, e⟩ := l2.old D z
        rw [e] at hD; cases hD
      · rw [hps]
        have : ∀ p : List Nat, (∀ i ∈ p, i < xs.length) → Are R (permL p xs) (p.map fun i => vs.getD i Value.none) (lg c h2') := by
          intro p
          induction p with
          | nil => intro _; exact Are.nil
          | cons i p ih =>
            intro hp
            have hi := hp i List.mem_cons_self
            unfold permL
            rw [List.filterMap_cons, List.getElem?_eq_getElem hi, List.map_cons]
            refine Are.cons ?_ (ih fun j hj => hp j (List.mem_cons_of_mem _ hj))
            refine vr.at' i _ _ (List.getElem?_eq_getElem hi) ?_
            have hi' : i < vs.length := by omega
            simp [hi']
        have t := this _ (hps ▸ hp)
        rw [hou] at t
        exact t.stay k3.lg.stay
    case run =>
      refine runT_wp (n := xs.length) (I := fun s' => ∃ g tk', s' = c.sh g tk' ∧ Kept H5 g) (fun i j s'' C hi hj hI hC => ?_) _ _ _ has ⟨H5, tk2, rfl, Kept.refl _⟩ fun s'' hI => ⟨rfl, hI⟩
      obtain ⟨g, tk', rfl, kg⟩ := hI
      unfold kas_cmp
      rw [zip_get rfl, zip_get rfl]
      have l' := ltD g (k5.trans kg) ⟨_, kg _ _ hD5⟩
      have arg := vrD g (k5.trans kg)
      have gi : ∀ i, i < xs.length → vs[i]? = some (vs.getD i Value.none) := fun i hi => by
        have : i < vs.length := by omega
        simp [this]
      refine hcmp _ i j xs[i] xs[j] _ _ _ (List.getElem?_eq_getElem hi) (List.getElem?_eq_getElem hj) l'.keep (arg.at' i _ _ (List.getElem?_eq_getElem hi) (gi i hi)) (arg.at' j _ _ (List.getElem?_eq_getElem hj) (gi j hj)) g tk' _ _ ⟨l'.lg.keep, l'.lg.old⟩ fun b g2 tk2 k2 e => ?_
      subst e
      exact hC _ ⟨g2, tk2, rfl, kg.trans k2⟩
end
end Mine
end

section
-- N5
open PySem PySem.W PyProof.Rows PySem.Spec PySem.Calls PySem.SeqAt
set_option maxRecDepth 100000
namespace Mine
section
variable {h : Heap} {A : Around} {s : Shared} {xs ys : List Int}
theorem kit_lt : Kit isI .Lt h A s (· == ·) (fun x y => decide (x < y)) xs ys := ⟨fun _ x y u v _ _ ⟨t, e⟩ ⟨t', e'⟩ => by subst e e'; exact EqAt.int_int x t y t', fun _ x y u v _ _ ⟨t, e⟩ ⟨t', e'⟩ => by subst e e'; exact fun prog w E Q hq => lt_int hq⟩
theorem kit_le : Kit isI .LtE h A s (· == ·) (fun x y => decide (x ≤ y)) xs ys := ⟨fun _ x y u v _ _ ⟨t, e⟩ ⟨t', e'⟩ => by subst e e'; exact EqAt.int_int x t y t', fun _ x y u v _ _ ⟨t, e⟩ ⟨t', e'⟩ => by subst e e'; exact fun prog w E Q hq => le_int hq⟩
theorem kit_gt : Kit isI .Gt h A s (· == ·) (fun x y => decide (y < x)) xs ys := ⟨fun _ x y u v _ _ ⟨t, e⟩ ⟨t', e'⟩ => by subst e e'; exact EqAt.int_int x t y t', fun _ x y u v _ _ ⟨t, e⟩ ⟨t', e'⟩ => by subst e e'; exact fun prog w E Q hq => gt_int hq⟩
theorem kit_ge : Kit isI .GtE h A s (· == ·) (fun x y => decide (y ≤ x)) xs ys := ⟨fun _ x y u v _ _ ⟨t, e⟩ ⟨t', e'⟩ => by subst e e'; exact EqAt.int_int x t y t', fun _ x y u v _ _ ⟨t, e⟩ ⟨t', e'⟩ => by subst e e'; exact fun prog w E Q hq => ge_int hq⟩
theorem kit_eq : Kit isI .Eq h A s (· == ·) (· == ·) xs ys := ⟨fun _ x y u v _ _ ⟨t, e⟩ ⟨t', e'⟩ => by subst e e'; exact EqAt.int_int x t y t', fun _ x y u v _ _ ⟨t, e⟩ ⟨t', e'⟩ => by subst e e'; exact fun prog w E Q hq => eq_int hq⟩
theorem kit_eqB {xs ys : List Bool} : Kit isB .NotEq h A s (· == ·) (· != ·) xs ys := ⟨fun _ x y u v _ _ e e' => by cases e; cases e'; exact EqAt.bool_bool x y, fun _ x y u v _ _ e e' => by cases e; cases e'; exact fun prog w E Q hq => ne_bool hq⟩
end
section
variable {c : Cx} {h : Heap} {xs ys : List Int} {u v : Value}
theorem cmp_ltL (hu : isL isI xs u h) (hv : isL isI ys v h) (hl : xs.length = ys.length) (hA : c.A.units < cLine) : Pu c (compareOp .Lt u v) h (isB (lexL (· == ·) (fun x y => decide (x < y)) false xs ys)) :=
  Pu.mk fun h1 tk Q E l hq => lt_lists (s := c.sh h1 tk) (Mo.mo hu l.top.stay) (Mo.mo hv l.top.stay) hl hA kit_lt _ _ E Q (hq _ h1 tk (Kept.refl _) rfl)
theorem cmp_leL (hu : isL isI xs u h) (hv : isL isI ys v h) (hl : xs.length = ys.length) (hA : c.A.units < cLine) : Pu c (compareOp .LtE u v) h (isB (lexL (· == ·) (fun x y => decide (x ≤ y)) true xs ys)) :=
  Pu.mk fun h1 tk Q E l hq => le_lists (s := c.sh h1 tk) (Mo.mo hu l.top.stay) (Mo.mo hv l.top.stay) hl hA kit_le _ _ E Q (hq _ h1 tk (Kept.refl _) rfl)
theorem cmp_gtL (hu : isL isI xs u h) (hv : isL isI ys v h) (hl : xs.length = ys.length) (hA : c.A.units < cLine) : Pu c (compareOp .Gt u v) h (isB (lexL (· == ·) (fun x y => decide (y < x)) false xs ys)) :=
  Pu.mk fun h1 tk Q E l hq => gt_lists (s := c.sh h1 tk) (Mo.mo hu l.top.stay) (Mo.mo hv l.top.stay) hl hA kit_gt _ _ E Q (hq _ h1 tk (Kept.refl _) rfl)
theorem cmp_geL (hu : isL isI xs u h) (hv : isL isI ys v h) (hl : xs.length = ys.length) (hA : c.A.units < cLine) : Pu c (compareOp .GtE u v) h (isB (lexL (· == ·) (fun x y => decide (y ≤ x)) true xs ys)) :=
  Pu.mk fun h1 tk Q E l hq => ge_lists (s := c.sh h1 tk) (Mo.mo hu l.top.stay) (Mo.mo hv l.top.stay) hl hA kit_ge _ _ E Q (hq _ h1 tk (Kept.refl _) rfl)
theorem cmp_eqL (hu : isL isI xs u h) (hv : isL isI ys v h) (hl : xs.length = ys.length) (hA : c.A.units < cLine) : Pu c (compareOp .Eq u v) h (isB (eqL (· == ·) xs ys)) :=
  Pu.mk fun h1 tk Q E l hq => eq_lists (s := c.sh h1 tk) (Mo.mo hu l.top.stay) (Mo.mo hv l.top.stay) hl hA kit_eq _ _ E Q (hq _ h1 tk (Kept.refl _) rfl)
theorem cmp_neL (hu : isL isI xs u h) (hv : isL isI ys v h) (hl : xs.length = ys.length) (hA : c.A.units < cLine) : Pu c (compareOp .NotEq u v) h (isB (!eqL (· == ·) xs ys)) :=
  Pu.mk fun h1 tk Q E l hq => ne_lists (s := c.sh h1 tk) (Mo.mo hu l.top.stay) (Mo.mo hv l.top.stay) hl hA kit_eq _ _ E Q (hq _ h1 tk (Kept.refl _) rfl)
theorem cmp_neBL {xs ys : List Bool} (hu : isL isB xs u h) (hv : isL isB ys v h) (hl : xs.length = ys.length) (hA : c.A.units < cLine) : Pu c (compareOp .NotEq u v) h (isB (!eqL (· == ·) xs ys)) :=
  Pu.mk fun h1 tk Q E l hq => ne_lists (s := c.sh h1 tk) (Mo.mo hu l.top.stay) (Mo.mo hv l.top.stay) hl hA kit_eqB _ _ E Q (hq _ h1 tk (Kept.refl _) rfl)
theorem eqL_is {α : Type} [DecidableEq α] : ∀ {xs ys : List α}, xs.length = ys.length → eqL (· == ·) xs ys = decide (xs = ys)
  | [], [], _ => rfl
  | x :: xs, y :: ys, hl => by
    show ((x == y) && eqL _ xs ys) = _
    rw [eqL_is (by simpa using hl)]
    by_cases q : x = y
    · subst q; simp
    · simp [q]
/-- a list of ints, or an int -/
def isRI : List Int ⊕ Int → VP
  | .inl xs => isL isI xs
  | .inr z => isI z
instance {x : List Int ⊕ Int} : Mo (isRI x) := ⟨fun {v h h'} p s => by
  cases x with
  | inl xs => exact Mo.mo (P := isL isI xs) p s
  | inr z => exact Mo.mo (P := isI z) p s⟩
def eqRI : List Int ⊕ Int → List Int ⊕ Int → Bool
  | .inl x, .inl y => eqL (· == ·) x y
  | .inr x, .inr y => x == y
  | _, _ => false
def ltRI : List Int ⊕ Int → List Int ⊕ Int → Bool
  | .inl x, .inl y => lexL (· == ·) (fun x y => decide (x < y)) false x y
  | .inr x, .inr y => decide (x < y)
  | _, _ => false
abbrev isPR (p : List Int × Int) : VP := isL isRI [.inl p.1, .inr p.2]
def ltPR (p q : List Int × Int) : Bool := if eqL (· == ·) p.1 q.1 then decide (p.2 < q.2) else lexL (· == ·) (fun x y => decide (x < y)) false p.1 q.1
theorem kit_ri {A : Around} {s : Shared} {p q : List Int × Int} (hl : p.1.length = q.1.length) (hA : A.units < cLine) : Kit isRI .Lt s.heap A s eqRI ltRI [.inl p.1, .inr p.2] [.inl q.1, .inr q.2] := by
  refine ⟨fun i x y u v hx hy hu hv => ?_, fun i x y u v hx hy hu hv => ?_⟩
  · match i, hx, hy with
    | 0, hx, hy =>
      cases hx; cases hy
      obtain ⟨a, vs, n, rfl, ha⟩ := id hu
      obtain ⟨b, ws, n2, rfl, hb⟩ := id hv
      by_cases q' : a = b
      · subst q'
        have e : p.1 = q.1 := by
          have h1 := ha.1; rw [hb.1] at h1
          cases h1
          refine List.ext_getElem? fun i => ?_
          by_cases hi : i < p.1.length
          · obtain ⟨u1, e1, t1, r1⟩ := ha.2.get (List.getElem?_eq_getElem hi)
            obtain ⟨u2, e2, t2, r2⟩ := hb.2.get (List.getElem?_eq_getElem (show i < q.1.length by omega))
            rw [e1] at e2; cases e2
            rw [r1] at r2
            injection r2 with r3 r4
            rw [List.getElem?_eq_getElem hi, List.getElem?_eq_getElem (show i < q.1.length by omega)]
            exact congrArg some r3
          · rw [List.getElem?_eq_none (by omega), List.getElem?_eq_none (by omega)]
        have e2 : eqRI (.inl p.1) (.inl q.1) = true := by show eqL _ p.1 q.1 = true; rw [eqL_is hl]; simpa using e
        rw [e2]
        exact EqAt.same _
      · exact EqAt.of_refs q' (eq_lists (op := .Eq) hu hv hl hA kit_eq)
    | 1, hx, hy =>
      cases hx; cases hy
      obtain ⟨t, rfl⟩ := hu; obtain ⟨t', rfl⟩ := hv
      exact EqAt.int_int _ _ _ _
  · match i, hx, hy with
    | 0, hx, hy =>
      cases hx; cases hy
      exact lt_lists hu hv hl hA kit_lt
    | 1, hx, hy =>
      cases hx; cases hy
      obtain ⟨t, rfl⟩ := hu; obtain ⟨t', rfl⟩ := hv
      exact fun prog w E Q hq => lt_int hq
theorem lexRI {x1 y1 x2 y2 : List Int ⊕ Int} : lexL eqRI ltRI false [x1, x2] [y1, y2] = (bif eqRI x1 y1 then (bif eqRI x2 y2 then false else ltRI x2 y2) else ltRI x1 y1) := by
  simp only [lexL]
  cases eqRI x1 y1 <;> cases eqRI x2 y2 <;> rfl
/-- the sort's question of two pairs -/
theorem key_ltPR {p q : List Int × Int} (hu : isPR p u h) (hv : isPR q v h) (hl : p.1.length = q.1.length) (hA : c.A.in1.units < cLine) (hA2 : c.A.units < cLine) : Pu c (keyLt' oneType' u v) h (fun b _ => b = ltPR p q) := Pu.mk fun h1 tk Q E l hq => by
  have hu1 := Mo.mo hu l.top.stay
  have hv1 := Mo.mo hv l.top.stay
  obtain ⟨a, vs, n, rfl, ha, ra⟩ := hu1
  obtain ⟨b, ws, n2, rfl, hb, rb⟩ := hv1
  rw [keyLt'_oneType, oneLt'_eq]
  simp only [if_true]
  refine wpAny_bind (wpAny_cRoomFor hA2 ?_)
  have L := (kit_ri (A := c.A.in1) (s := c.sh h1 tk) hl hA).lex (z := false) ra rb rfl
  refine wpAny_bind (wpAny_callSpecialIfBound?_slot ⟨_, ha, rfl⟩ PySem.F.slot_list_lt (call_meets PySem.F.slot_list_lt ⟨_, ha, rfl⟩ PySem.F.entry_list_lt (PySem.F.args_list_lt_2 _ _) (list_ltAt a b vs.toArray ws.toArray n n2 none none #[] #[] (by simp [ra.len, rb.len]) _ _) ⟨ha, hb, L, ?_⟩))
  have e : lexL eqRI ltRI false [.inl p.1, .inr p.2] [.inl q.1, .inr q.2] = ltPR p q := by
    rw [lexRI]
    show (bif eqL (· == ·) p.1 q.1 then (bif p.2 == q.2 then false else decide (p.2 < q.2)) else lexL (· == ·) (fun x y => decide (x < y)) false p.1 q.1) = ltPR p q
    unfold ltPR
    cases eqL (· == ·) p.1 q.1 with
    | false => rfl
    | true =>
      show (bif p.2 == q.2 then false else decide (p.2 < q.2)) = decide (p.2 < q.2)
      by_cases q2 : p.2 = q.2
      · simp [q2]
      · rw [show (p.2 == q.2) = false by simpa using q2]; rfl
  rw [e]
  exact wpAny_truthy_bool (hq _ h1 tk (Kept.refl _) rfl)
end
end Mine
end

section
-- C1
open PySem PySem.W PyProof.Rows PySem.Spec PySem.Calls
set_option maxRecDepth 100000
set_option maxHeartbeats 8000000
namespace Mine
abbrev JK := Job × Int
abbrev isJ4 (p : JK) : VP := isL isI [p.1.a, p.1.b, p.1.c, p.2]
abbrev isE3 (e : Int × Int × Int) : VP := isL isI [e.1, e.2.1, e.2.2]
def sortB (j : Job) : Bool := decide (j.a < j.c)
def soonerZ (x y : Job) : Int := if sortB x != sortB y then (if sortB x then -1 else 1) else if sortB x then x.a + x.b - y.a - y.b else y.b + y.c - x.b - x.c
theorem c_sooner {c : Cx} {h : Heap} {mg mb : Str → Option Value} {u v : Value} {x y : JK} (hR : Room c.A 2)
    (G : Pg (hdx.heap_39 c.w.params) [16] mg mb h) (hu : isJ4 x u h) (hv : isJ4 y v h) : Pu c (call (.ref 35) [u, v]) h (isI (soonerZ x.1 y.1)) := by
  refine Pu.enter (binds := [(Str.ofString "one", u), (Str.ofString "other", v)]) (G.X _ _ (by k_is) rfl) rfl (G.code rfl (by rfl)) G.lim (hR.le (by decide)) (fun s _ => BindsTo.of_eq rfl) (by rfl) (by rfl) (by decide +kernel) fun h1 h2 L kb F => ?_
  have hh := hR.handled
  have one := F.var (x := Str.ofString "one") rfl (Mo.mo hu (kb.trans F.kept.lg).stay)
  have other := F.var (x := Str.ofString "other") rfl (Mo.mo hv (kb.trans F.kept.lg).stay)
  refine Ex.assignComp0 (R := isJ4) (S := isB) (xs := [x, y]) F (by exact hh) (Ev.list (R := isJ4) (EL.cons (one _) (EL.cons (other _) EL.nil))).itL (fun j => sortB j.1) (fun j w C D m hx hj hw k hn hm => ?_) (by exact Nat.le_of_ble_eq_true rfl) rfl fun v1 h3 F3 _ s3 p1 => ?_
  · exact Ev.lt (Ev.item (Ev.own hn hm hw) .cint (by decide) (by decide) rfl) (Ev.item (Ev.own hn hm hw) .cint (by decide) (by decide) rfl)
  have sorts := F3.var (P := isL isB [sortB x.1, sortB y.1]) (x := Str.ofString "sorts") rfl p1
  refine Ex.ite F3 (Tst.cmp (P1 := isB (sortB x.1)) (P2 := isB (sortB y.1)) (Ev.item (sorts _) .cint (by decide) (by decide) rfl) (Ev.item (sorts _) .cint (by decide) (by decide) rfl) fun a b h' k pa pb => cmp_neB pa pb) (fun e h4 k4 => ?_) (fun e h4 k4 => Ex.nil ?_)
  · have F4 := F3.at k4
    have sorts := F4.var (P := isL isB [sortB x.1, sortB y.1]) (x := Str.ofString "sorts") rfl (Mo.mo p1 k4.lg.stay)
    refine Ex.ret F4 (Pu.toI (Ev.ifI (x := -1) (y := 1) (Tst.itemB (Ev.item (sorts _) .cint (by decide) (by decide) rfl)) (fun _ => Ev.neg (x := 1) .cint) (fun _ => .cint)) ?_)
    unfold soonerZ
    rw [if_pos e]
  · have F4 := F3.at k4
    have sorts := F4.var (P := isL isB [sortB x.1, sortB y.1]) (x := Str.ofString "sorts") rfl (Mo.mo p1 k4.lg.stay)
    have hu4 := Mo.mo hu (kb.trans F4.kept.lg).stay
    have hv4 := Mo.mo hv (kb.trans F4.kept.lg).stay
    have e0 : ¬ (sortB x.1 != sortB y.1) = true := by rw [e]; simp
    refine Ex.ite F4 (Tst.itemB (z := sortB x.1) (Ev.item (sorts _) .cint (by decide) (by decide) rfl)) (fun e2 h5 k5 => ?_) (fun e2 h5 k5 => Ex.nil ?_)
    · have F5 := F4.at k5
      have one := F5.var (x := Str.ofString "one") rfl (Mo.mo hu4 k5.lg.stay)
      have other := F5.var (x := Str.ofString "other") rfl (Mo.mo hv4 k5.lg.stay)
      refine Ex.ret F5 (Pu.toI (Ev.sub (Ev.sub (Ev.add (Ev.item (one _) .cint (by decide) (by decide) rfl) (Ev.item (one _) .cint (by decide) (by decide) rfl)) (Ev.item (other _) .cint (by decide) (by decide) rfl)) (Ev.item (other _) .cint (by decide) (by decide) rfl)) ?_)
      unfold soonerZ
      rw [if_neg e0, if_pos e2]
    · have F5 := F4.at k5
      have one := F5.var (x := Str.ofString "one") rfl (Mo.mo hu4 k5.lg.stay)
      have other := F5.var (x := Str.ofString "other") rfl (Mo.mo hv4 k5.lg.stay)
      refine Ex.ret F5 (Pu.toI (Ev.sub (Ev.sub (Ev.add (Ev.item (other _) .cint (by decide) (by decide) rfl) (Ev.item (other _) .cint (by decide) (by decide) rfl)) (Ev.item (one _) .cint (by decide) (by decide) rfl)) (Ev.item (one _) .cint (by decide) (by decide) rfl)) ?_)
      unfold soonerZ
      rw [if_neg e0, if_neg (by rw [e2]; simp)]
/-- a step; the job's list may have more than three -/
theorem c_step2 {c : Cx} {h : Heap} {mg mb : Str → Option Value} {u v : Value} {e : Int × Int × Int} {l : List Int} {j : Job} (hR : Room c.A 2)
    (G : Pg (hdx.heap_39 c.w.params) [16] mg mb h) (hu : isE3 e u h) (hv : isL isI l v h) (l0 : l[0]? = some j.a) (l1 : l[1]? = some j.b) (l2 : l[2]? = some j.c) : Pu c (call (.ref 42) [u, v]) h (isE3 (step3 e j)) := by
  refine Pu.enter (binds := [(Str.ofString "hours", u), (Str.ofString "job", v)]) (G.X _ _ (by k_is) rfl) rfl (G.code rfl (by rfl)) G.lim (hR.le (by decide)) (fun s _ => BindsTo.of_eq rfl) (by rfl) (by rfl) (by decide +kernel) fun h1 h2 L kb F => ?_
  have hh := hR.handled
  have e0 := F.var (x := Str.ofString "hours") rfl (Mo.mo hu (kb.trans F.kept.lg).stay)
  have j0 := F.var (x := Str.ofString "job") rfl (Mo.mo hv (kb.trans F.kept.lg).stay)
  refine Ex.assign F (Ev.add (x := e.1) (y := j.a) (Ev.item (e0 _) .cint (by decide) (by decide) rfl) (Ev.item (j0 _) .cint (by decide) (by decide) l0)) fun v1 h3 F3 _ _ p1 => ?_
  have e0 := F3.var (x := Str.ofString "hours") rfl (Mo.mo hu (kb.trans F3.kept.lg).stay)
  have j0 := F3.var (x := Str.ofString "job") rfl (Mo.mo hv (kb.trans F3.kept.lg).stay)
  have f0 := F3.var (x := Str.ofString "first") rfl p1
  have g3 := G.at (kb.trans F3.kept.lg)
  refine Ex.assign F3 (Ev.add (y := j.b) (Ev.max2 (y := e.2.1) hh (g3.bi (by k_is) (by boot_by_name)) (f0 _) (Ev.item (e0 _) .cint (by decide) (by decide) rfl)) (Ev.item (j0 _) .cint (by decide) (by decide) l1)) fun v2 h4 F4 _ s4 p2 => ?_
  have e0 := F4.var (x := Str.ofString "hours") rfl (Mo.mo hu (kb.trans F4.kept.lg).stay)
  have j0 := F4.var (x := Str.ofString "job") rfl (Mo.mo hv (kb.trans F4.kept.lg).stay)
  have f0 := F4.var (x := Str.ofString "first") rfl (Mo.mo p1 s4)
  have s0 := F4.var (x := Str.ofString "second") rfl p2
  have g4 := G.at (kb.trans F4.kept.lg)
  refine Ex.ret F4 (Pu.toL (Ev.list (R := isI) (EL.cons (f0 _) (EL.cons (s0 _) (EL.cons (Ev.add (y := j.c) (Ev.max2 (y := e.2.2) hh (g4.bi (by k_is) (by boot_by_name)) (s0 _) (Ev.item (e0 _) .cint (by decide) (by decide) rfl)) (Ev.item (j0 _) .cint (by decide) (by decide) l2)) EL.nil)))) ?_)
  have m1 : max (e.1 + j.a) e.2.1 = max e.2.1 (e.1 + j.a) := by omega
  have m2 : max (max e.2.1 (e.1 + j.a) + j.b) e.2.2 = max e.2.2 (max e.2.1 (e.1 + j.a) + j.b) := by omega
  rw [m1, m2]
  rfl
end Mine
end

section
-- N6
open PySem PySem.W PyProof.Rows PySem.Spec PySem.Calls
set_option maxRecDepth 100000
namespace Mine
section
variable {c : Cx} {env : Env} {h0 h : Heap} {V : Vs} {N : Heap → Prop} {P : VP}
/-- next(it), an item being left -/
theorem b_next {prog : Program} {w : World} {A : Around} {s : Shared} {E : Value → Shared → Prop} {I l : Addr} {i : Nat} {items : Array Value} {x : Value} {Q : Value → Shared → Prop} (hit : s.heap.IsListIter I l i) (hl : s.heap.IsList l items) (hx : items[i]? = some x)
    (hQ : ∀ h', h'.IsListIter I l (i + 1) → Heap.SameBut I s.heap h' → Q x { s with heap := h' }) : wpAny (model prog w) A (call (.builtin "next") [.ref I]) Q E s := by
  obtain ⟨o, ho, hc, hd⟩ := id hit
  obtain ⟨ol, hol, _, nl, hdl⟩ := hl
  refine call_function_entry (by decide +kernel) (by decide +kernel) kdk_entry_next (kdk_args_next _) ?_
  unfold Builtin.«next»
  refine wpAny_bind (m := someArgs "next" 1 2 _) (wpAny_of_eq (a := [Value.ref I]) (by first | rfl | kernel_rfl!) ?_)
  dsimp only
  refine wpAny_bind (wpAny_specialOf (name := Str.ofString "__next__") hit.typeIs slot_listiter_next.lookup ?_)
  refine wpAny_ite_split (fun hab => absurd hab (by decide)) (fun _ => ?_)
  refine wpAny_bind (wpAny_callSpecial?_slot (name := Str.ofString "__next__") hit.typeIs slot_listiter_next (wpAny_call_entry slot_listiter_next hit.typeIs entry_listiter_next ?_ (args_listiter_next _)))
  show wpAny _ _ (field (.ref I) 0 >>= _) _ _ s
  refine wpAny_bind (wpAny_field ho hd (x := .ref l) rfl ?_)
  show wpAny _ _ (if (Value.ref l == Value.none) = true then _ else _) _ _ s
  rw [if_neg (show ¬ ((Value.ref l == Value.none) = true) from Bool.false_ne_true)]
  show wpAny _ _ (field (.ref I) 1 >>= _) _ _ s
  refine wpAny_bind (wpAny_field ho hd (x := .int i 0) rfl ?_)
  show wpAny _ _ (seqItems? (.ref l) >>= _) _ _ s
  refine wpAny_bind (wpAny_seqItems hol hdl ?_)
  simp only [Int.toNat_natCast, hx]
  have e : (s.heap.update I (Obj.mapFields (·.setIfInBounds 1 (rawInt ((i : Int) + 1))))).IsListIter I l (i + 1) := ⟨_, Heap.get?_update_self _ ho (Obj.isFreed_of_fields (Obj.data_mapFields hd _)), (Obj.cls_mapFields ..).trans hc, by
    rw [Obj.data_mapFields hd]; simp [rawInt]⟩
  refine wpAny_bind (wpAny_setField ho hd (by simp) (wpAny_pure ⟨x, rfl, wpAny_pure ⟨_, rfl, hQ _ e (Heap.SameBut.update ..)⟩⟩))
/-- try: x = next(it) -/
theorem Sx.tryNext {x : Str} {fe ite : Expr} {hd : ExceptHandler} {hs : List ExceptHandler} {p1 p2 p pos : Pos} {α : Type} {R : α → VP} [∀ x, Mo (R x)] {xs : List α} {x0 : α} {I : Addr} (F : Fx c h0 env h V) (hI : isIter R xs 0 (.ref I) (lg c h)) (hI0 : h0.get? I = none) (hx0 : xs[0]? = some x0)
    (hf : Ev c env fe (lg c h) (isV (.builtin "next"))) (hit : Ev c env ite (lg c h) (isV (.ref I)))
    (hr : ∀ v h', Fx c h0 env h' (upd V x v) → isIter R xs 1 (.ref I) (lg c h') → Strg h h' → R x0 v (lg c h') → N h')
    (hk : env.kindOf x = some .local ∨ (env.kindOf x = some .cell ∧ (env.cells.lookup x).isSome = true) := by exact own_of (by rfl))
    (hsw : swapsWith (.Call fe [ite] [] p) (some (.Name x p1)) p2.line env = pure false := by rfl)
    (hst : starEach [ite] env = (false, eval ite env) :: starEach [] env := by rfl) (hplain : (backTo p (starEach ([] : List Expr) env)).any (·.1) = false := by rfl)
    (he : eval (.Call fe [ite] [] p) env = (do callWith p (← eval fe env) [] (backTo p (starEach [ite] env)) (backToKw p (keywordEach [] env))) := by rfl) :
    Sx c env h0 (.Try [.Assign [.Name x p1] (.Call fe [ite] [] p) p2] (hd :: hs) [] [] pos) h N P := Sx.mk fun tk Q E hn _ => by
  refine wpAny_Try_except (wpAny_execs_cons (wpAny_Assign_Name (Call_ (hf h tk _ _ F.lt fun f h1 tk1 k1 ef => ?_) he) hsw))
  cases ef
  refine callWith_builtin1 (args_cons (hit h1 tk1 _ _ (F.lt.trans k1) fun u h2 tk2 k2 eu => args_nil ?_) hst) hst hplain
  cases eu
  have k12 := k1.trans k2
  obtain ⟨I', l, vs, oI, n, eI', e, hc, hdI, hl, ar⟩ := hI
  cases eI'
  have hIX := lg_not e
  have hlX := lg_not hl
  have e2 := k12 _ _ (lg_sub _ _ e)
  have hl2 := k12 _ _ (lg_sub _ _ hl)
  have hIW : ¬ Wr env I := F.toFm.notWr (lg_sub _ _ e) ⟨fun _ _ q => (by rw [q] at hdI; cases hdI), fun _ q => (by rw [q] at hdI; cases hdI)⟩
  have hlI : l ≠ I := fun q => by rw [q, e2] at hl2; cases hl2; cases hdI
  obtain ⟨v0, hv0, r0⟩ := ar.get hx0
  refine b_next (s := c.sh h2 tk2) (l := l) (i := 0) (items := vs.toArray) ⟨oI, e2, hc, hdI⟩ ⟨_, hl2, rfl, n, rfl⟩ (by simpa using hv0) fun h3 it3 sb => ?_
  have weak : strongO oI = false := (iter_fields hc hdI).weak
  have hk2' : ∀ b o, b ≠ I → h2.get? b = some o → h3.get? b = some o := fun b o q eo => sb.extBut b o q eo
  have F2 := F.at k12
  have F3 : Fx c h0 env h3 V := by
    refine ⟨⟨F2.kind, ?_, fun b o eo => hk2' b o (fun q => ?_) (F2.kept b o eo), F2.newL, fun n a ea => ?_, F2.apart, F2.newC, F2.ne, F2.kinds, F2.mem⟩, fun z hz => let ⟨w, o, e⟩ := F2.hid z hz; ⟨w, o, hk2' z o (fun q => hIX (q ▸ hz)) e⟩⟩
    · obtain ⟨m, f, e⟩ := F2.loc
      exact ⟨m, f.at' fun o eo => hk2' _ o (fun q => hIW (.inl q.symm)) eo, e⟩
    · rw [q, hI0] at eo; cases eo
    · obtain ⟨o, eo, hd⟩ := F2.cell n a ea
      exact ⟨o, hk2' a o (fun q => hIW (.inr ⟨n, q ▸ ea⟩)) eo, hd⟩
  have st23 : Strg h2 h3 := but_str e2 weak fun b o q eo => hk2' b o (by simpa using q) eo
  refine F3.toFm.store (s := c.sh h3 tk2) hk fun h4 tk4 F4 kb4 => ?_
  have st34 : Strg h3 h4 := F3.toFm.str kb4
  have sy : Stay (lg c h) (lg c h4) := (k12.lg.stay.trans (st23.trans st34).lg.stay)
  obtain ⟨o3, eo3, hc3, hd3⟩ := it3
  refine wpAny_execs_nil (wpAny_execs_nil (hn h4 tk4 (hr v0 h4 (F3.next F4 kb4) ⟨I, l, vs, o3, n, rfl, lg_get (kb4 _ _ eo3 hIW) hIX, hc3, hd3, sy _ _ hl rfl, ar.stay sy⟩ (k12.str.trans (st23.trans st34)) (Mo.mo r0 sy))))
end
end Mine
end

section
-- C3
open PySem PySem.W PyProof.Rows PySem.Spec PySem.Calls
set_option maxRecDepth 100000
set_option maxHeartbeats 8000000
namespace Mine
theorem foldl_take' {α β : Type} (f : β → α → β) (b : β) {xs : List α} {i : Nat} {y : α} (h : xs[i]? = some y) : (xs.take (i + 1)).foldl f b = f ((xs.take i).foldl f b) y := by
  rw [List.take_add_one, h, List.foldl_append]; rfl
theorem c_reduce {c : Cx} {h : Heap} {mg mb : Str → Option Value} {α β : Type} {R : α → VP} [∀ x, Mo (R x)] {S : β → VP} [∀ x, Mo (S x)] {f : Addr} {fo : Obj} {fd : FuncData} {u v : Value} {xs : List α} {b0 : β} (g : β → α → β) (hR : Room c.A 4)
    (G : Pg (hdx.heap_39 c.w.params) [16] mg mb h) (hfo : h.get? f = some fo) (hfd : fo.data = .func fd)
    (hcall : ∀ (A : Around) h' u v b a, Room A 3 → Kept h h' → S b u h' → R a v h' → Pu { c with A := A } (call (.ref f) [u, v]) h' (S (g b a)))
    (hu : isL R xs u h) (hv : S b0 v h) (hv2 : ∃ t o, v = .ref t ∧ h.get? t = some o ∧ ∃ its n, o.data = .seq its n) : Pu c (call (.ref 30) [.ref f, u, v]) h (S (xs.foldl g b0)) := by
  refine Pu.enter (binds := [(Str.ofString "function", .ref f), (Str.ofString "sequence", u), (Str.ofString "initial", v)]) (G.X _ _ (by k_is) rfl) rfl (G.code rfl (by rfl)) G.lim (hR.le (by decide)) (fun s ks => BindsTo.of_defaults rfl (ks _ _ (G.X _ _ (by k_is) rfl)) rfl rfl rfl) (by rfl) (by rfl) (by decide +kernel) fun h1 h2 L kb F => ?_
  have hh := hR.handled
  have g2 := G.at (kb.trans F.kept.lg)
  have sequence := F.var (P := isL R xs) (x := Str.ofString "sequence") rfl (Mo.mo hu (kb.trans F.kept.lg).stay)
  refine Ex.assign' (P1 := fun v hp => isIter R xs 0 v hp ∧ isNew (lg c h2) v) F (Ev.callB (g2.bi (by k_is) (by boot_by_name)) (EA.cons (sequence _) EA.nil) fun vs h' k q => (b_iter q).mono fun _ _ _ z => ⟨z.1, z.2.low k⟩) fun w ha h3 k3 pp Fa kb3 F3 => ?_
  obtain ⟨it0, new0⟩ := pp
  have it3 := it0.kb Fa kb3
  obtain ⟨I, l, ws, oI, n, rfl, eI, rI⟩ := id it3
  have hI0 : h1.get? I = none := new_below F.kept new0 eI
  have g3 := G.at (kb.trans F3.kept.lg)
  have initial := F3.var (P := isV v) (x := Str.ofString "initial") rfl rfl
  obtain ⟨t, ot, rfl, et, its, m, hdt⟩ := hv2
  have e22 := g3.X _ _ (show (hdx.heap_39 c.w.params).lookup 22 = some _ by k_is) rfl
  refine Ex.ite F3 (Tst.isOther (initial _) (g3.gl (by k_is)) ((kb.trans F3.kept.lg) _ _ et) e22 (fun q => ?_) (by decide)) (fun q => nomatch q) (fun _ h4 k4 => ?_)
  · have := (kb.trans F3.kept.lg) _ _ et
    rw [q, e22] at this
    cases this; cases hdt
  have F4 := F3.at k4
  have initial := F4.var (P := S b0) (x := Str.ofString "initial") rfl (Mo.mo hv (kb.trans F4.kept.lg).stay)
  refine Ex.assign F4 (initial _) fun w5 h5 F5 kb5 s5 p5 => Ex.nil ?_
  have it5 := (it3.kb F3 k4.kb).kb F4 kb5
  have itv := F5.var (P := isV (.ref I)) (x := Str.ofString "it") rfl rfl
  refine Ex.of (Sx.forI (R := R) (xs := xs) (by exact hh) F5 (Nat.zero_le _) it5 hI0 (itv _)
    (fun i V h => V (Str.ofString "function") = some (.ref f) ∧ ∃ w, V (Str.ofString "value") = some w ∧ S ((xs.take i).foldl g b0) w (lg c h))
    (fun h' k => ⟨rfl, w5, rfl, Mo.mo p5 k.lg.stay⟩) (fun i V a b x s => let ⟨e, w, e', q⟩ := x; ⟨e, w, e', Mo.mo q s.lg.stay⟩) ?_ ?_)
  · rintro i y w V1 a hy ⟨e1, w', e2, q⟩ hr F6
    have function := F6.var (P := isV (.ref f)) (x := Str.ofString "function") ((upd_ne (by decide)).trans e1) rfl
    have value := F6.var (P := S ((xs.take i).foldl g b0)) (x := Str.ofString "value") ((upd_ne (by decide)).trans e2) q
    have element := F6.var (P := R y) (x := Str.ofString "element") upd_eq hr
    refine Ex.assign (P1 := S (g ((xs.take i).foldl g b0) y)) F6 (Ev.callF (function _) ((kb.trans F6.kept.lg) _ _ hfo) hfd (EA.cons (value _) (EA.cons (element _) EA.nil)) fun vs h' k z => ?_) fun w7 h7 F7 kb7 s7 p7 => Ex.nil ⟨_, F7, ⟨(upd_ne (by decide)).trans ((upd_ne (by decide)).trans e1), w7, upd_eq, ?_⟩, kb7⟩
    · obtain ⟨z1, z2, rfl, s1, s2⟩ := z.two
      exact hcall _ _ _ _ _ _ (hR.deeper _) ((kb.trans F6.kept.lg).trans k) s1 s2
    · rw [foldl_take' _ _ hy]; exact p7
  · rintro V1 a ⟨e1, w', e2, q⟩ F6
    rw [List.take_length] at q
    have value := F6.var (P := S (xs.foldl g b0)) (x := Str.ofString "value") e2 q
    exact Ex.ret F6 (value _)
/-- reduce without a start -/
theorem c_reduce1 {c : Cx} {h : Heap} {mg mb : Str → Option Value} {α : Type} {R : α → VP} [∀ x, Mo (R x)] {f : Addr} {fo : Obj} {fd : FuncData} {u : Value} {xs : List α} {x0 : α} (g : α → α → α) (hR : Room c.A 4)
    (G : Pg (hdx.heap_39 c.w.params) [16] mg mb h) (hfo : h.get? f = some fo) (hfd : fo.data = .func fd)
    (hcall : ∀ (A : Around) h' u v b a, Room A 3 → Kept h h' → R b u h' → R a v h' → Pu { c with A := A } (call (.ref f) [u, v]) h' (R (g b a)))
    (hu : isL R (x0 :: xs) u h) : Pu c (call (.ref 30) [.ref f, u]) h (R (xs.foldl g x0)) := by
  refine Pu.enter (binds := [(Str.ofString "function", .ref f), (Str.ofString "sequence", u), (Str.ofString "initial", .ref 22)]) (G.X _ _ (by k_is) rfl) rfl (G.code rfl (by rfl)) G.lim (hR.le (by decide)) (fun s ks => BindsTo.of_defaults rfl (ks _ _ (G.X _ _ (by k_is) rfl)) rfl rfl rfl) (by rfl) (by rfl) (by decide +kernel) fun h1 h2 L kb F => ?_
  have hh := hR.handled
  have g2 := G.at (kb.trans F.kept.lg)
  have sequence := F.var (P := isL R (x0 :: xs)) (x := Str.ofString "sequence") rfl (Mo.mo hu (kb.trans F.kept.lg).stay)
  refine Ex.assign' (P1 := fun v hp => isIter R (x0 :: xs) 0 v hp ∧ isNew (lg c h2) v) F (Ev.callB (g2.bi (by k_is) (by boot_by_name)) (EA.cons (sequence _) EA.nil) fun vs h' k q => (b_iter q).mono fun _ _ _ z => ⟨z.1, z.2.low k⟩) fun w ha h3 k3 pp Fa kb3 F3 => ?_
  obtain ⟨it0, new0⟩ := pp
  have it3 := it0.kb Fa kb3
  obtain ⟨I, l, ws, oI, n, rfl, eI, rI⟩ := id it3
  have hI0 : h1.get? I = none := new_below F.kept new0 eI
  have g3 := G.at (kb.trans F3.kept.lg)
  have initial := F3.var (P := isV (.ref 22)) (x := Str.ofString "initial") rfl rfl
  refine Ex.ite F3 (Tst.isSelf (initial _) (g3.gl (by k_is))) (fun _ h4 k4 => ?_) (fun q => nomatch q)
  have F4 := F3.at k4
  have it4 := it3.kb F3 k4.kb
  have g4 := G.at (kb.trans F4.kept.lg)
  have itv := F4.var (P := isV (.ref I)) (x := Str.ofString "it") rfl rfl
  refine Ex.of (Sx.tryNext F4 it4 hI0 (x0 := x0) rfl (g4.bi (by k_is) (by boot_by_name)) (itv _) fun v5 h5 F5 it5 st5 p5 => Ex.nil ?_)
  have itv := F5.var (P := isV (.ref I)) (x := Str.ofString "it") rfl rfl
  refine Ex.of (Sx.forI (R := R) (xs := x0 :: xs) (by exact hh) F5 (i0 := 1) (by simp) it5 hI0 (itv _)
    (fun i V h => V (Str.ofString "function") = some (.ref f) ∧ ∃ w, V (Str.ofString "value") = some w ∧ R ((xs.take (i - 1)).foldl g x0) w (lg c h) ∧ 1 ≤ i)
    (fun h' k => ⟨rfl, v5, rfl, Mo.mo p5 k.lg.stay, Nat.le_refl _⟩) (fun i V a b x s => let ⟨e, w, e', q, q'⟩ := x; ⟨e, w, e', Mo.mo q s.lg.stay, q'⟩) ?_ ?_)
  · rintro i y w V1 a hy ⟨e1, w', e2, q, hi⟩ hr F6
    obtain ⟨i, rfl⟩ : ∃ j, i = j + 1 := ⟨i - 1, by omega⟩
    have hy' : xs[i]? = some y := by simpa using hy
    rw [Nat.add_sub_cancel] at q
    have function := F6.var (P := isV (.ref f)) (x := Str.ofString "function") ((upd_ne (by decide)).trans e1) rfl
    have value := F6.var (P := R ((xs.take i).foldl g x0)) (x := Str.ofString "value") ((upd_ne (by decide)).trans e2) q
    have element := F6.var (P := R y) (x := Str.ofString "element") upd_eq hr
    refine Ex.assign (P1 := R (g ((xs.take i).foldl g x0) y)) F6 (Ev.callF (function _) ((kb.trans F6.kept.lg) _ _ hfo) hfd (EA.cons (value _) (EA.cons (element _) EA.nil)) fun vs h' k z => ?_) fun w7 h7 F7 kb7 s7 p7 => Ex.nil ⟨_, F7, ⟨(upd_ne (by decide)).trans ((upd_ne (by decide)).trans e1), w7, upd_eq, ?_, by omega⟩, kb7⟩
    · obtain ⟨z1, z2, rfl, s1, s2⟩ := z.two
      exact hcall _ _ _ _ _ _ (hR.deeper _) ((kb.trans F6.kept.lg).trans k) s1 s2
    · rw [Nat.add_sub_cancel, foldl_take' _ _ hy']; exact p7
  · rintro V1 a ⟨e1, w', e2, q, hi⟩ F6
    rw [show (x0 :: xs).length - 1 = xs.length by simp, List.take_length] at q
    have value := F6.var (P := R (xs.foldl g x0)) (x := Str.ofString "value") e2 q
    exact Ex.ret F6 (value _)
end Mine
end

section
-- D0
open PySem PySem.W PyProof.Rows PySem.Spec PySem.Calls
set_option maxRecDepth 100000
set_option maxHeartbeats 8000000
namespace Mine
theorem KTab.keeps {h h' : Heap} (x : KTab h) (k : Kept h h') : KTab h' := x.elim (fun e => .inl (k _ _ e)) fun ⟨c, e⟩ => .inr ⟨c, e.keeps k⟩
theorem KTab.at16 {h : Heap} (x : KTab h) : ∃ vs, h.get? 16 = some (tabO vs) := x.elim (fun e => ⟨_, e⟩) fun ⟨_, e⟩ => ⟨_, e.tab⟩
/-- the table stands while iterators and names change -/
theorem KTab.strg {h h' : Heap} (x : KTab h) (k : Strg h h') : KTab h' := by
  rcases x with e | ⟨kk, t, ⟨b0, t0, t1, t2, t3, t4, e⟩, kt, m0, m1, m2, m3, m4, m5⟩
  · exact .inl (k _ _ e rfl)
  · have hm : ∀ {a n l}, IsCodeO h a n l → IsCodeO h' a n l := fun ⟨cb, ct, e⟩ => ⟨cb, ct, k _ _ e (by rfl)⟩
    exact .inr ⟨kk, k _ _ t rfl, ⟨b0, t0, t1, t2, t3, t4, k _ _ e (by rfl)⟩, k _ _ kt rfl, hm m0, hm m1, hm m2, hm m3, hm m4, hm m5⟩
structure LBase2 (w : World) (mg mb : Str → Option Value) (h : Heap) : Prop where
  G : Pg (hdx.heap_39 w.params) [16] mg mb h
  K : KBase w h
theorem LBase2.kb {w : World} {mg mb : Str → Option Value} {h h' : Heap} (x : LBase2 w mg mb h) (k : KB (· = 16) h h') : LBase2 w mg mb h' := by
  have hg0 : ∀ b, b ≠ 16 → ∀ o, h.get? b = some o → h'.get? b = some o := fun b q1 o e => k b o e q1
  refine ⟨⟨fun a o e q => hg0 a ?_ _ (x.G.X a o e q), x.G.nb, x.G.g.at' (hg0 _ (by decide)), x.G.b.at' (hg0 _ (by decide)), ?_, x.G.bt⟩, x.K.of fun a o _ h2 e => hg0 a h2 o e⟩
  · rintro rfl; simp at q
  · obtain ⟨m, hm, e⟩ := x.G.lim
    exact ⟨m, hm.at' (hg0 _ (by decide)), e⟩
theorem LBase2.keeps {w : World} {mg mb : Str → Option Value} {h h' : Heap} (x : LBase2 w mg mb h) (k : Kept h h') : LBase2 w mg mb h' := x.kb k.kb
def soonLt (js : List JK) (i j : Nat) : Bool := match js[i]?, js[j]? with
  | some x, some y => decide (soonerZ x.1 y.1 < 0)
  | _, _ => false
theorem c_sorted2 {c : Cx} (hy : Cy c) (hR : Room c.A 8) (hd : c.A.depth ≤ 500) (hu' : c.A.units ≤ 1998) {h : Heap} {mg mb : Str → Option Value} (G : Pg (hdx.heap_39 c.w.params) [16] mg mb h) {k : Codes} {C : Addr} {u : Value} {js : List JK}
    (hc : KCls c.w h k C (.ref 35)) (hk : KCodes h k) (hO2 : h.get? 2 = some statO) (hn2 : 2 ≤ js.length) (hn : js.length ≤ 5) (hp : ∀ i ∈ sortPerm js.length (soonLt js), i < js.length) (hu : isL isJ4 js u h) :
    Pu c (call (.builtin "sorted") [u] [(Str.ofString "key", .ref C)]) h (isL isJ4 (permL (sortPerm js.length (soonLt js)) js)) := by
  have hh := hR.handled
  have has : asksT js.length (kas_sort js.length) = true := by
    have : js.length = 2 ∨ js.length = 3 ∨ js.length = 4 ∨ js.length = 5 := by omega
    rcases this with q | q | q | q <;> rw [q]
    · exact asks5.1
    · exact asks5.2.1
    · exact asks5.2.2.1
    · exact asks5.2.2.2
  refine b_sortedK (c := c) (h := h) (R := isJ4) (KK := isK C isJ4) (xs := js) (T := .ref C) (q := C) (v := u) (lt := soonLt js) hh (hu.coll (by rw [sizeLine_eq]; omega)) (by omega) (fun _ => has) hp
    (fun x u g ⟨i, dd, u', e, ho, _⟩ => ⟨i, _, e, ho, rfl⟩) (by rfl) (by simp) (fun X i x v g hx kg r => ?_) (fun X i j x y u v g hx hy' kg ku kv => ?_)
  · exact K_new (c := { c with A := c.A.in1.in1, X := X }) (hy.at _ _) hh hd (by show c.A.units + 1 + 1 ≤ 2000; omega) (hc.keeps kg) (hk.keeps kg) (kg _ _ hO2) r
  · obtain ⟨iu, du, u', rfl, eu, ru⟩ := ku
    obtain ⟨iv, dv, v', rfl, ev, rv⟩ := kv
    have e35 := G.X _ _ (show (hdx.heap_39 c.w.params).lookup 35 = some _ by k_is) rfl
    have kc := K_cmp (c := { c with A := c.A.in1.in1, X := X }) (z := soonerZ x.1 y.1) (hy.at _ _) (Room.in1 (n := 5) (Room.in1 (n := 6) (hR.le (by decide)))) (hc.keeps kg) (hk.keeps kg) (G.at kg).lim eu ev
      (by obtain ⟨t, vs, n, rfl, _⟩ := ru; rfl) (by obtain ⟨t, vs, n, rfl, _⟩ := rv; rfl) (kg _ _ e35) rfl fun A g' hA kg' => c_sooner (c := { c with A := A, X := X }) (hA.le (by decide)) (G.at (kg.trans kg')) (Mo.mo ru kg'.stay) (Mo.mo rv kg'.stay)
    refine kc.mono fun b g' _ e => ?_
    rw [e]
    unfold soonLt
    rw [hx, hy']
/-- the right side of «order = ..» -/
theorem e_order2 {c : Cx} (hy : Cy c) (hX : c.X = []) (hR : Room c.A 10) (hd : c.A.depth ≤ 500) (hu : c.A.units ≤ 1998) {env : Env} {h : Heap} {tk : Nat} {mg mb : Str → Option Value} (L : LBase2 c.w mg mb h) (ht : KTab h)
    {fe ra m fx : Expr} {kp pos mpos : Pos} {js : List JK} {Q : Value → Shared → Prop} {E : Value → Shared → Prop}
    (hn2 : 2 ≤ js.length) (hn : js.length ≤ 5) (hp : ∀ i ∈ sortPerm js.length (soonLt js), i < js.length)
    (hf : Ev c env fe h (isV (.builtin "sorted"))) (hr : Ev c env ra h (isL isJ4 js)) (hm : Ev c env m h (isV (.ref 21))) (hfx : Ev c env fx h (isV (.ref 35)))
    (hq : ∀ v h4 tk4, KB (· = 16) h h4 → KTab h4 → isL isJ4 (permL (sortPerm js.length (soonLt js)) js) v h4 → Q v (c.sh h4 tk4))
    (hs : starEach [ra] env = [(false, eval ra env)] := by rfl) (hs2 : starEach [fx] env = [(false, eval fx env)] := by rfl)
    (he : eval (.Call fe [ra] [⟨some (Str.ofString "key"), .Call m [fx] [] mpos, kp⟩] pos) env = (do callWith pos (← eval fe env) [] (backTo pos (starEach [ra] env)) (backToKw pos (keywordEach [⟨some (Str.ofString "key"), .Call m [fx] [] mpos, kp⟩] env))) := by rfl)
    (he2 : eval (.Call m [fx] [] mpos) env = (do callWith mpos (← eval m env) [] (backTo mpos (starEach [fx] env)) (backToKw mpos (keywordEach [] env))) := by rfl) :
    wpAny c.M c.A (eval (.Call fe [ra] [⟨some (Str.ofString "key"), .Call m [fx] [] mpos, kp⟩] pos) env) Q E (c.sh h tk) := by
  have noX : ∀ {P : Addr → Prop}, ∀ x ∈ c.X, P x := fun x hx => by rw [hX] at hx; cases hx
  have hlg : ∀ g, lg c g = g := fun g => by rw [lg, hX]; rfl
  refine sorted_key (W := fun b => b = 16) (J := KTab) (PA := isL isJ4 js) noX noX (by rw [hlg]; exact hf) (by rw [hlg]; exact hr) (fun u h2 tk2 Q2 k2 pu hQ2 => ?_) (fun h1 h2 j k => j.keeps k) (fun v h4 tk4 k4 j4 p4 => hq v h4 tk4 k4 j4 (by rwa [hlg] at p4)) hs (by rfl) (by rfl) he
  rw [hlg] at pu
  refine call_any noX (mf := 21) (by rw [hlg]; exact hm.later k2) (mo := KO c.w 21) (by with_unfolding_all rfl) (fun h3 tk3 k3 => ?_) hs2 he2
  have k03 : Kept h h3 := k2.trans k3
  have L3 := L.keeps k03
  have t3 := ht.keeps k03
  refine hfx h3 tk3 _ _ ⟨by rw [hlg]; exact k03, noX⟩ fun f h5 tk5 k5 f5 => ?_
  cases f5
  have L5 := L3.keeps k5
  have kt5 := t3.keeps k5
  refine ⟨L5.K.o21, K_make hy hR L5.K kt5 fun C k h6 tk6 k6 hC hk => ?_⟩
  have L6 := L5.kb k6
  refine hQ2 (.ref C) h6 tk6 ((k3.trans k5).kb.trans k6) (.inr ⟨k, hk⟩) ?_
  rw [hlg]
  have hj6 : isL isJ4 js u h6 := Mo.mo (Mo.mo pu (k3.trans k5).stay) fun b o e q => k6 b o e (by
    rintro rfl
    obtain ⟨vs, z⟩ := kt5.at16
    rw [z] at e; cases e; cases q)
  exact c_sorted2 hy (hR.le (by decide)) hd hu L6.G hC hk L6.K.o2 hn2 hn hp hj6
end Mine
end

section
-- B7z
open PySem PySem.W PyProof.Rows PySem.Spec PySem.Calls PySem.W.X
set_option maxRecDepth 100000
set_option maxHeartbeats 8000000
namespace Mine
/-- the addresses that stand -/
def liveL (h : Heap) : List Addr := (List.range h.objs.size).filter fun a => (h.get? a).isSome
theorem not_live {h : Heap} {a : Addr} (e : h.get? a = none) : a ∉ liveL h := fun q => by
  have := (List.mem_filter.mp q).2
  rw [e] at this; cases this
/-- what is new of h2 -/
abbrev freshOf (h1 h2 : Heap) : Heap := hideAll h2 (liveL h1)
theorem fresh_not {h1 h2 : Heap} {a : Addr} {o : Obj} (e : (freshOf h1 h2).get? a = some o) : h1.get? a = none := by
  cases q : h1.get? a with
  | none => rfl
  | some o' =>
    have hm : a ∈ liveL h1 := List.mem_filter.mpr ⟨List.mem_range.mpr (Heap.lt_size q), by rw [q]; rfl⟩
    rw [hideAll_none _ hm] at e; cases e
theorem Md.atN {h₁ h : Heap} {news : List (Addr × Obj)} {vs : Array Value} (D : Md [16] h₁ h news) (h16 : h.get? 16 = some (tabO vs)) (i : Nat) (a : Addr) (o : Obj) (hi : news[i]? = some (a, o)) (hc : o.cls ≠ .none) : (freshOf h₁ h).get? a = some o := by
  have e := D.own _ (List.mem_of_getElem? hi)
  refine hideAll_get _ e.1 (not_live (e.2.resolve_right fun q => ?_))
  have q' : a = 16 := by simpa using q
  have e1 := e.1
  rw [show (a, o).1 = 16 from q', h16] at e1
  cases e1
  exact hc rfl
theorem Md.atM {h₁ h : Heap} {news : List (Addr × Obj)} (D : Md [] h₁ h news) (i : Nat) (a : Addr) (o : Obj) (hi : news[i]? = some (a, o)) : (freshOf h₁ h).get? a = some o := by
  have e := D.own _ (List.mem_of_getElem? hi)
  exact hideAll_get _ e.1 (not_live (e.2.resolve_right fun q => nomatch q))
theorem fresh_hide {h1 h2 : Heap} {X : List Addr} (hX : ∀ a ∈ X, ∃ o, h1.get? a = some o) {a : Addr} {o : Obj} (e : (freshOf h1 h2).get? a = some o) : (hideAll h2 X).get? a = some o :=
  hideAll_get _ (of_hideAll _ e) fun q => by
    obtain ⟨o', e'⟩ := hX a q
    rw [fresh_not e] at e'; cases e'
theorem hide_not {h : Heap} {X : List Addr} {a : Addr} {o : Obj} (e : (hideAll h X).get? a = some o) : a ∉ X := fun q => by rw [hideAll_none _ q] at e; cases e
theorem hide_kept {h h' : Heap} {X : List Addr} (k : Kept h h') : Kept (hideAll h X) (hideAll h' X) := fun b o e => hideAll_get _ (k _ _ (of_hideAll _ e)) (hide_not e)
/-- cmp_to_key(f): the class's objects are new; the codes are none of X -/
theorem K_makeN {c : Cx} (hy : Cy c) (hR : Room c.A 10) {h1 : Heap} {tk : Nat} {v : Value} {X : List Addr} {Q : Value → Shared → Prop} {E : Value → Shared → Prop} (hb : KBase c.w h1) (ht : KTab (hideAll h1 X)) (hX : ∀ a ∈ X, ∃ o, h1.get? a = some o)
    (hq : ∀ C k h2 tk2, KB (· = 16) h1 h2 → KCls c.w (freshOf h1 h2) k C v → KCodes (hideAll h2 X) k → Q (.ref C) (c.sh h2 tk2)) : wpAny c.M c.A (call (.ref 21) [v]) Q E (c.sh h1 tk) := by
  obtain ⟨prog, w, A, g, d, os, X'⟩ := c
  obtain ⟨rfl, rfl⟩ := hy
  have hdp : A.depth + 10 < recursionLimit := hR.depth
  show wpAny (model PRG w) A _ Q E ⟨h1, #[], d, tk, os⟩
  refine' e_call ?ht ?_; (case ht => with_unfolding_all rfl)
  obtain ⟨mb, mg, q1, q2, q3, q4, q5⟩ := hb.b
  obtain ⟨sl, q7⟩ := hb.o4
  rcases ht with ht | ⟨⟨kc, kt, c0, c1, c2, c3, c4, c5⟩, hk⟩
  · have n16 := hide_not ht
    refine ctk1 q1 q2 q3 q4 q5 hb.o1 hb.o2 hb.o3 q7 hb.o20 hb.o21 (of_hideAll _ ht) hdp ?_
    intros
    rename_i D
    have h16 := D.at 18 _ _ rfl
    refine e_pure (by with_unfolding_all rfl) ?_
    refine hq _ ⟨_, _, _, _, _, _, _, _⟩ _ _ (fun b o e q => D.keep b o e (by simpa using q)) (KCls.mk' (D.atN h16 1 _ _ rfl (fun q => nomatch q)) (D.atN h16 2 _ _ rfl (fun q => nomatch q)) (D.atN h16 0 _ _ rfl (fun q => nomatch q)) (D.atN h16 17 _ _ rfl (fun q => nomatch q)) (D.atN h16 13 _ _ rfl (fun q => nomatch q)) (D.atN h16 11 _ _ rfl (fun q => nomatch q)) (D.atN h16 9 _ _ rfl (fun q => nomatch q)) (D.atN h16 7 _ _ rfl (fun q => nomatch q)) (D.atN h16 5 _ _ rfl (fun q => nomatch q)) (D.atN h16 3 _ _ rfl (fun q => nomatch q)))
      ⟨hideAll_get _ h16 n16, ⟨_, _, _, _, _, _, fresh_hide hX (D.atN h16 15 _ _ rfl (fun q => nomatch q))⟩, ?_, (IsCodeO.mk' (fresh_hide hX (D.atN h16 14 _ _ rfl (fun q => nomatch q)))), (IsCodeO.mk' (fresh_hide hX (D.atN h16 12 _ _ rfl (fun q => nomatch q)))), (IsCodeO.mk' (fresh_hide hX (D.atN h16 10 _ _ rfl (fun q => nomatch q)))), (IsCodeO.mk' (fresh_hide hX (D.atN h16 8 _ _ rfl (fun q => nomatch q)))), (IsCodeO.mk' (fresh_hide hX (D.atN h16 6 _ _ rfl (fun q => nomatch q)))), (IsCodeO.mk' (fresh_hide hX (D.atN h16 4 _ _ rfl (fun q => nomatch q))))⟩
    have e := D.own _ (List.mem_of_getElem? (i := 16) rfl)
    refine hideAll_get _ e.1 fun q => ?_
    rcases e.2 with z | z
    · obtain ⟨o', e'⟩ := hX _ q
      rw [z] at e'; cases e'
    · have z' := List.mem_singleton.mp z
      exact n16 (z' ▸ q)
  · obtain ⟨ht16, ⟨b0, t0, t1, t2, t3, t4, hkc⟩, hkt, m0, m1, m2, m3, m4, m5⟩ := id hk
    refine ctk2 q1 q2 q3 q4 q5 hb.o1 hb.o2 hb.o3 q7 hb.o20 hb.o21 (of_hideAll _ ht16) (of_hideAll _ hkc) (of_hideAll _ hkt) hdp ?_
    intros
    rename_i D
    have kk : Kept h1 _ := fun b o e => D.keep b o e List.not_mem_nil
    refine e_pure (by with_unfolding_all rfl) ?_
    exact hq _ ⟨kc, kt, c0, c1, c2, c3, c4, c5⟩ _ _ kk.kb (KCls.mk' (D.atM 1 _ _ rfl) (D.atM 2 _ _ rfl) (D.atM 0 _ _ rfl) (D.atM 9 _ _ rfl) (D.atM 8 _ _ rfl) (D.atM 7 _ _ rfl) (D.atM 6 _ _ rfl) (D.atM 5 _ _ rfl) (D.atM 4 _ _ rfl) (D.atM 3 _ _ rfl)) (hk.keeps (hide_kept kk))
end Mine
end

section
-- D1
open PySem PySem.W PyProof.Rows PySem.Spec PySem.Calls
set_option maxRecDepth 100000
set_option maxHeartbeats 8000000
namespace Mine
/-- a call of a class of cmp_to_key's -/
theorem callWith_K {prog : Program} {w : World} {A : Around} {E : Value → Shared → Prop} {s : Shared} {C NS bT : Addr} {tn tq : Tok} {env : Env} {pos : Pos} {e : Expr} {Q : Value → Shared → Prop}
    (h : wpAny (model prog w) A (spliced (backTo pos (starEach [e] env))) (fun vs s₁ => s₁.heap.get? C = some (clsO C NS bT tn tq) ∧ wpAny (model prog w) A (call (.ref C) vs) Q E s₁) E s)
    (he : starEach [e] env = [(false, eval e env)] := by rfl) :
    wpAny (model prog w) A (callWith pos (.ref C) [] (backTo pos (starEach [e] env)) []) Q E s := by
  rw [he] at h ⊢
  unfold callWith
  refine wpAny_bind (wpAny_holding (Calls.evalArgs_plain (wpAny_mono h (fun vs s₁ h₁ => ?_) fun _ _ x => x)))
  obtain ⟨hh, g, d, t, os⟩ := s₁
  obtain ⟨hC, hk⟩ := h₁
  have f1 := tc_lookup
  have hT : (⟨hh, g, d, t, os⟩ : Shared).TypeIs (.ref C) "type" := ⟨_, hC, rfl⟩
  refine wpAny_bind (wpAny_standAt ?_)
  show wpAny _ _ (keeperOf (.ref C) >>= _) _ _ _
  refine wpAny_bind (m := keeperOf (.ref C)) ?_
  refine e_load (a := C) (by with_unfolding_all rfl) hC ?_
  repeat (first
    | refine e_pure (a := Keeper.machine) (by with_unfolding_all rfl) ?_
    | refine e_load (a := C) (by with_unfolding_all rfl) hC ?_)
  show wpAny _ _ (call (.ref C) vs [] >>= fun r => do holding [r] point; pure r) _ _ _
  exact wpAny_bind (wpAny_mono hk (fun r s' hr => wpAny_bind (wpAny_holding (wpAny_point (wpAny_pure hr)))) fun _ _ x => x)
/-- the codes of the methods -/
structure MCodes (h : Heap) (k : Codes) : Prop where
  m1 : IsCodeO h k.c1 "__lt__" 11
  m2 : IsCodeO h k.c2 "__gt__" 14
  m3 : IsCodeO h k.c3 "__eq__" 17
  m4 : IsCodeO h k.c4 "__le__" 20
  m5 : IsCodeO h k.c5 "__ge__" 23
/-- a key of the job p: an instance of a class of cmp_to_key's over _law_sooner -/
def isKey (w : World) (p : JK) : VP := fun v h => ∃ C k i dd u, v = .ref i ∧ KCls w h k C (.ref 35) ∧ MCodes h k ∧ h.get? i = some (insO C dd u) ∧ isJ4 p u h
theorem cst_of_codeO {h h' : Heap} (c : Cst h h') {a : Addr} {n : String} {l : Int} (x : IsCodeO h a n l) : IsCodeO h' a n l := by
  obtain ⟨cb, ct, e⟩ := x
  exact ⟨cb, ct, c _ _ e rfl⟩
theorem KCls.cst {w : World} {h h' : Heap} {k : Codes} {C : Addr} {v : Value} (x : KCls w h k C v) (c : Cst h h') : KCls w h' k C v := by
  obtain ⟨ad, ut, hC, hNS, hmd, hcell, hf0, hf1, hf2, hf3, hf4, hf5⟩ := x
  exact ⟨ad, ut, c _ _ hC rfl, c _ _ hNS (by with_unfolding_all rfl), c _ _ hmd rfl, c _ _ hcell rfl, c _ _ hf0 rfl, c _ _ hf1 rfl, c _ _ hf2 rfl, c _ _ hf3 rfl, c _ _ hf4 rfl, c _ _ hf5 rfl⟩
theorem isKey.cst {w : World} {p : JK} {v : Value} {h h' : Heap} (x : isKey w p v h) (c : Cst h h') : isKey w p v h' := by
  obtain ⟨C, k, i, dd, u, e, hC, ⟨m1, m2, m3, m4, m5⟩, hi, hu⟩ := x
  exact ⟨C, k, i, dd, u, e, hC.cst c, ⟨cst_of_codeO c m1, cst_of_codeO c m2, cst_of_codeO c m3, cst_of_codeO c m4, cst_of_codeO c m5⟩, c _ _ hi rfl, Mo.mo hu c.stay⟩
theorem KTab.cst2 {h h' : Heap} (x : KTab h) (k : Cst2 h h') : KTab h' := by
  rcases x with e | ⟨kk, t, ⟨b0, t0, t1, t2, t3, t4, e⟩, kt, m0, m1, m2, m3, m4, m5⟩
  · exact .inl (k _ _ e rfl)
  · exact .inr ⟨kk, k _ _ t rfl, ⟨b0, t0, t1, t2, t3, t4, k _ _ e (by rfl)⟩, k _ _ kt rfl, cst_of_codeO k.cst m0, cst_of_codeO k.cst m1, cst_of_codeO k.cst m2, cst_of_codeO k.cst m3, cst_of_codeO k.cst m4, cst_of_codeO k.cst m5⟩
end Mine
end

section
-- J3
namespace Mine
def fac : Nat → Nat
  | 0 => 1
  | n + 1 => fac n * (n + 1)
theorem len_of_ordersOf {α : Type} {l π : List α} (h : π ∈ ordersOf l) : π.length = l.length := ((mem_ordersOf l π).mp h).length_eq
theorem length_flatMap_const {α β : Type} (f : α → List β) (k : Nat) : ∀ l : List α, (∀ x ∈ l, (f x).length = k) → (l.flatMap f).length = l.length * k
  | [], _ => by simp
  | x :: l, h => by
    rw [List.flatMap_cons, List.length_append, h x (by simp), length_flatMap_const f k l fun y hy => h y (by simp [hy]), List.length_cons, Nat.succ_mul, Nat.add_comm]
theorem insAll_length {α : Type} (x : α) (l : List α) : (insAll x l).length = l.length + 1 := by simp [insAll]
theorem ordersOf_length {α : Type} : ∀ l : List α, (ordersOf l).length = fac l.length := by
  refine snocInd rfl fun l x ih => ?_
  rw [ordersOf_snoc, length_flatMap_const _ (l.length + 1) _ fun o ho => by rw [insAll_length, len_of_ordersOf ho], ih, List.length_append]
  rfl
theorem fac_le : ∀ n, n ≤ 5 → fac n ≤ 120 := by decide
theorem ordersOf_take_succ {α : Type} {js : List α} {i : Nat} {x : α} (h : js[i]? = some x) : ordersOf (js.take (i + 1)) = (ordersOf (js.take i)).flatMap fun o => (List.range (i + 1)).map fun p => o.take p ++ [x] ++ o.drop p := by
  rw [List.take_add_one, h]
  show ordersOf (js.take i ++ [x]) = _
  rw [ordersOf_snoc]
  have hi : i < js.length := (List.getElem?_eq_some_iff.mp h).1
  have : ∀ L : List (List α), (∀ o ∈ L, o.length = i) → L.flatMap (insAll x) = L.flatMap fun o => (List.range (i + 1)).map fun p => o.take p ++ [x] ++ o.drop p := by
    intro L
    induction L with
    | nil => intro _; rfl
    | cons o L ih =>
      intro hL
      rw [List.flatMap_cons, List.flatMap_cons, ih fun z hz => hL z (by simp [hz])]
      congr 1
      unfold insAll
      rw [hL o (by simp)]
  exact this _ fun o ho => by rw [len_of_ordersOf ho, List.length_take]; omega
end Mine
end

section
-- C2
open PySem PySem.W PyProof.Rows PySem.Spec PySem.Calls
set_option maxRecDepth 100000
set_option maxHeartbeats 8000000
namespace Mine
theorem c_orders2 {c : Cx} {h : Heap} {mg mb : Str → Option Value} {u : Value} {js : List JK} (hR : Room c.A 2) (hsz : js.length ≤ 5)
    (G : Pg (hdx.heap_39 c.w.params) [16] mg mb h) (hu : isL isJ4 js u h) : Pu c (call (.ref 47) [u]) h (isL (isL isJ4) (ordersOf js)) := by
  refine Pu.enter (binds := [(Str.ofString "jobs", u)]) (G.X _ _ (by k_is) rfl) rfl (G.code rfl (by rfl)) G.lim (hR.le (by decide)) (fun s _ => BindsTo.of_eq rfl) (by rfl) (by rfl) (by decide +kernel) fun h1 h2 L kb F => ?_
  have hh := hR.handled
  refine Ex.assign (P1 := isL (isL isJ4) (ordersOf (js.take 0))) F (Ev.list (R := isL isJ4) (EL.cons (Ev.list (R := isJ4) EL.nil) EL.nil)) fun v1 h3 F3 _ _ p1 => ?_
  have jobs := F3.var (P := isL isJ4 js) (x := Str.ofString "jobs") rfl (Mo.mo hu (kb.trans F3.kept.lg).stay)
  have big : js.length ≤ sizeLine := Nat.le_trans hsz (by decide)
  refine Ex.for_ (R := isJ4) (xs := js) (by exact hh) F3 (jobs _).itL (Wr _) (fun _ x => x) (fun _ w => F3.toFm.wrObj w)
    (fun i V h => ∃ vo, V (Str.ofString "orders") = some vo ∧ isL (isL isJ4) (ordersOf (js.take i)) vo (lg c h))
    (fun h' k => ⟨v1, rfl, Mo.mo p1 k.lg.stay⟩) (fun i V h h' x s => let ⟨vo, e, q⟩ := x; ⟨vo, e, Mo.mo q s.lg.stay⟩) ?_ ?_
  · rintro i j v V1 g hj ⟨vo, e1, q1⟩ hr F5 kb5 st5
    have hi : i < js.length := (List.getElem?_eq_some_iff.mp hj).1
    have g5 := G.at (kb.trans F5.kept.lg)
    have orders := F5.var (P := isL (isL isJ4) (ordersOf (js.take i))) (x := Str.ofString "orders") ((upd_ne (by decide)).trans e1) q1
    have hlen : ∀ o ∈ ordersOf (js.take i), o.length = i := fun o ho => by rw [len_of_ordersOf ho, List.length_take]; omega
    have hflat : ((ordersOf (js.take i)).flatMap fun o => (rangeL 0 1 (i + 1)).map fun p => o.take p.toNat ++ [j] ++ o.drop p.toNat) = ordersOf (js.take (i + 1)) := by
      rw [ordersOf_take_succ hj, rangeL_one]
      congr 1
      funext o
      rw [List.map_map]
      apply List.map_congr_left
      intro p _
      simp
    refine Ex.assignComp2 (R := isL isJ4) (T := isI) (S := isL isJ4) (xs := ordersOf (js.take i)) F5 (by exact hh) (orders _).itL (fun _ => rangeL 0 1 (i + 1)) (fun o p => o.take p.toNat ++ [j] ++ o.drop p.toNat)
      (fun o w C D m h1 ho ho' k hn hm => ?_) (fun o p w z C D m h1 ho hp ho' hp' k hn hm hm' => ?_) ?_ rfl fun v6 h6 F6 kb6 s6 p6 => ?_
    · have hol := hlen o ho
      exact Ev.itR (Ev.range ((g5.at k).bi (by k_is) (by boot_by_name)) (Pu.toI (Ev.add (Ev.callB (Ps := [isL isJ4 o]) ((g5.at k).bi (by k_is) (by boot_by_name)) (EA.cons (Ev.own hn hm ho') EA.nil) fun vs h' _ q => b_len (by rw [hol]; exact Nat.le_trans (Nat.le_of_lt hi) big) q) .cint) (by rw [hol]; omega)) (by omega))
    · have hol := hlen o ho
      obtain ⟨q, hq, hpq⟩ := rangeL_mem hp
      have hpn : p = ((p.toNat : Nat) : Int) := by omega
      have big2 : o.length ≤ sizeLine := by rw [hol]; exact Nat.le_trans (Nat.le_of_lt hi) big
      refine Ev.addL (Ev.addL (Pu.toL (Ev.slice (Ev.own hn hm ho') .none (.some (Ev.own hn hm' hp')) big2) (by rw [hpn]; exact pick_take _ _)) (Ev.list (R := isJ4) (EL.cons (F5.varC (P := isJ4 j) upd_eq hr k rfl rfl) EL.nil)) ?_)
        (Pu.toL (Ev.slice (Ev.own hn hm ho') (.some (Ev.own hn hm' hp')) .none big2) (by rw [hpn]; exact pick_drop _ _)) ?_
      · rw [List.length_take]; have : i ≤ 5 := by omega
        unfold sizeLine; simp; omega
      · rw [List.length_append, List.length_take, List.length_drop]; unfold sizeLine; simp; omega
    · rw [hflat, ordersOf_length]
      exact Nat.le_trans (fac_le _ (by rw [List.length_take]; omega)) (by decide)
    · refine Ex.nil ⟨_, F6, ⟨v6, upd_eq, ?_⟩, kb6⟩
      rw [hflat] at p6; exact p6
  · rintro V1 g ⟨vo, e1, q1⟩ F5 kb5 st5
    rw [List.take_length] at q1
    have orders := F5.var (P := isL (isL isJ4) (ordersOf js)) e1 q1
    exact Ex.ret F5 (orders _)
/-- the times of one machine -/
def mach (j : Job) (m : Nat) : Int := if m = 0 then j.a else if m = 1 then j.b else j.c
def passS (p : Nat → Int) : Nat → Int × List Int → Int × List Int
  | 0, s => s
  | i + 1, s => (max (passS p i s).1 ((passS p i s).2.getD i 0) + p i, (passS p i s).2.set i (max (passS p i s).1 ((passS p i s).2.getD i 0) + p i))
theorem passS_len (p : Nat → Int) (s : Int × List Int) : ∀ i, (passS p i s).2.length = s.2.length
  | 0 => rfl
  | i + 1 => by show (List.set _ _ _).length = _; rw [List.length_set, passS_len p s i]
def doneE (js : List Job) : Nat → List Int
  | 0 => List.replicate (js.length + 1) 0
  | m + 1 => (passS (fun i => mach (js.getD i ⟨0, 0, 0⟩) m) js.length (0, doneE js m)).2
theorem doneE_len (js : List Job) : ∀ m, (doneE js m).length = js.length + 1
  | 0 => by simp [doneE]
  | m + 1 => by show (passS _ _ _).2.length = _; rw [passS_len]; exact doneE_len js m
theorem are_any {xs : List Int} {vs : List Value} {h h' : Heap} (a : Are isI xs vs h) : Are isI xs vs h' := ⟨a.len, fun i x v hx hv => a.at' i x v hx hv⟩
theorem c_done {c : Cx} {h : Heap} {mg mb : Str → Option Value} {u : Value} {js : List JK} (hR : Room c.A 2) (hsz : js.length ≤ 5)
    (G : Pg (hdx.heap_39 c.w.params) [16] mg mb h) (hu : isL isJ4 js u h) : Pu c (call (.ref 54) [u]) h (isI (maxL (doneE (js.map (·.1)) 3))) := by
  refine Pu.enter (binds := [(Str.ofString "order", u)]) (G.X _ _ (by k_is) rfl) rfl (G.code rfl (by rfl)) G.lim (hR.le (by decide)) (fun s _ => BindsTo.of_eq rfl) (by rfl) (by rfl) (by decide +kernel) fun h1 h2 L kb F => ?_
  have hh := hR.handled
  have big : js.length ≤ sizeLine := Nat.le_trans hsz (by decide)
  generalize hjj : js.map (·.1) = jj
  have hjl : jj.length = js.length := by rw [← hjj, List.length_map]
  have g2 := G.at (kb.trans F.kept.lg)
  have order := F.var (P := isL isJ4 js) (x := Str.ofString "order") rfl (Mo.mo hu (kb.trans F.kept.lg).stay)
  refine Ex.assign (P1 := andC (isL isI (doneE jj 0)) (isNew (lg c h2))) F (Ev.bin (P1 := isL isI [0]) (P2 := isI (js.length + 1 : Int)) (Ev.list (R := isI) (EL.cons .cint EL.nil)) (Ev.add (Ev.callB (Ps := [isL isJ4 js]) (g2.bi (by k_is) (by boot_by_name)) (EA.cons (order _) EA.nil) fun vs h' _ q => b_len big q) .cint) fun a b h' k pa pb => ?_) fun v5 h7 F7 kb7 s7 p5 => ?_
  · refine Pu.mono (b_listmul pa pb (by omega) (by simp; omega) (by omega)) fun v hp kp q => ⟨?_, ?_⟩
    · have e : (List.replicate ((js.length : Int) + 1).toNat [(0 : Int)]).flatten = doneE jj 0 := by
        show _ = List.replicate (jj.length + 1) 0
        rw [hjl, show ((js.length : Int) + 1).toNat = js.length + 1 by omega]
        simp
      rw [← e]; exact q.1
    · exact q.2.low k
  obtain ⟨⟨D, vs, n, rfl, hD, ar⟩, hnew⟩ := p5
  have hD0 := new_below F.kept hnew hD
  have FD := F7.hide (lg_sub _ _ hD) rfl
  have hDX : D ∉ c.X := lg_not hD
  have kbD := kept_hide kb hD0
  have gD := G.at (kbD.trans FD.kept.lg)
  have u0 := Mo.mo hu kbD.stay
  refine Ex.of (Sx.unhide (D := D) (Sx.for_ (R := isI) (xs := rangeL 0 1 3) (by exact hh) FD (Ev.itR (Ev.range (n := 3) (gD.bi (by k_is) (by boot_by_name)) .cint (by decide)))
    (fun a => Wr _ a ∨ a = D) (fun _ => .inl) (fun a w => ?_)
    (fun m V g => V (Str.ofString "order") = some u ∧ V (Str.ofString "ends") = some (.ref D) ∧ ∃ vs n, g.get? D = some { cls := .type "list", data := .seq vs.toArray n } ∧ Are isI (doneE jj m) vs g) ?_ ?_ ?_ ?_))
  · rcases w with w | rfl
    · obtain ⟨o, e, q⟩ := FD.toFm.wrObj w; exact ⟨o, e, .inl q⟩
    · exact ⟨_, lg_sub _ _ hD, .inr List.mem_cons_self⟩
  · exact fun g k => ⟨rfl, rfl, vs, n, k _ _ (lg_sub _ _ hD), are_any ar⟩
  · rintro i V g g' ⟨e1, e2, vs, m, hd, ar⟩ s
    exact ⟨e1, e2, vs, m, s _ _ hd rfl, are_any ar⟩
  · rintro m y w V1 g hy ⟨e1, e2, vs, nn, hd, ar⟩ hr F8 kb8 st8
    obtain ⟨hm, rfl⟩ := rangeL_at hy
    have ey : (0 : Int) + (m : Int) * 1 = (m : Int) := by omega
    rw [ey] at hr
    refine Ex.assign (P1 := isI 0) F8 .cint fun vf h9 F9 kb9 s9 pf => ?_
    have hd9 := kb9 _ _ hd (F8.hid D List.mem_cons_self).1
    have g9 := G.at (kbD.trans F9.kept.lg)
    have order9 := F9.var (P := isL isJ4 js) (x := Str.ofString "order") ((upd_ne (by decide)).trans ((upd_ne (by decide)).trans e1)) (Mo.mo u0 F9.kept.lg.stay)
    generalize hp : (fun i => mach (jj.getD i ⟨0, 0, 0⟩) m) = p
    refine Ex.of (Sx.for_ (R := isI) (xs := rangeL 0 1 js.length) (by exact hh) F9 (Ev.itR (Ev.range (n := js.length) (g9.bi (by k_is) (by boot_by_name)) (Ev.callB (Ps := [isL isJ4 js]) (g9.bi (by k_is) (by boot_by_name)) (EA.cons (order9 _) EA.nil) fun vs h' _ q => b_len big q) (by omega)))
      (fun a => Wr _ a ∨ a = D) (fun _ => .inl) (fun a w => ?_)
      (fun i V g => V (Str.ofString "order") = some u ∧ V (Str.ofString "ends") = some (.ref D) ∧ V (Str.ofString "machine") = some w ∧ ∃ vf vs n, V (Str.ofString "free") = some vf ∧ isI (passS p i (0, doneE jj m)).1 vf g ∧ g.get? D = some { cls := .type "list", data := .seq vs.toArray n } ∧ Are isI (passS p i (0, doneE jj m)).2 vs g) ?_ ?_ ?_ ?_)
    · rcases w with w | rfl
      · obtain ⟨o, e, q⟩ := F9.toFm.wrObj w; exact ⟨o, e, .inl q⟩
      · exact ⟨_, hd9, .inr List.mem_cons_self⟩
    · exact fun g k => ⟨(upd_ne (by decide)).trans ((upd_ne (by decide)).trans e1), (upd_ne (by decide)).trans ((upd_ne (by decide)).trans e2), (upd_ne (by decide)).trans upd_eq, vf, vs, nn, upd_eq, pf, k _ _ hd9, are_any ar⟩
    · rintro i V g g' ⟨q1, q2, q3, vf, vs, n, q4, q5, q6, q7⟩ s
      exact ⟨q1, q2, q3, vf, vs, n, q4, q5, s _ _ q6 rfl, are_any q7⟩
    · rintro i y wk V2 g10 hyi ⟨q1, q2, q3, vf, vs, n, q4, q5, q6, q7⟩ hri F10 kb10 st10
      obtain ⟨hi, rfl⟩ := rangeL_at hyi
      have eyi : (0 : Int) + (i : Int) * 1 = (i : Int) := by omega
      rw [eyi] at hri
      have F10u := F10.unhide
      have g10' := G.at (kb.trans F10u.kept.lg)
      have hlen : (passS p i (0, doneE jj m)).2.length = jj.length + 1 := by rw [passS_len]; exact doneE_len jj m
      have hjx : js[i]? = some js[i] := List.getElem?_eq_getElem hi
      have hpi : p i = mach js[i].1 m := by
        rw [← hp]
        show mach (jj.getD i _) m = _
        rw [← hjj]
        simp [hi]
      have order := F10u.var (P := isL isJ4 js) (x := Str.ofString "order") ((upd_ne (by decide)).trans q1) (Mo.mo (Mo.mo u0 F10.kept.lg.stay) lg_hide_sub.stay)
      have ends := F10u.var (P := isL isI (passS p i (0, doneE jj m)).2) (x := Str.ofString "ends") ((upd_ne (by decide)).trans q2) ⟨D, vs, n, rfl, lg_get q6 hDX, are_any q7⟩
      have machine := F10u.var (P := isI (m : Int)) (x := Str.ofString "machine") ((upd_ne (by decide)).trans q3) hr
      have free := F10u.var (P := isI (passS p i (0, doneE jj m)).1) (x := Str.ofString "free") ((upd_ne (by decide)).trans q4) q5
      have k := F10u.var (P := isI (i : Int)) (x := Str.ofString "k") upd_eq hri
      refine Ex.assignU (z := max (passS p i (0, doneE jj m)).1 ((passS p i (0, doneE jj m)).2.getD i 0) + p i) F10 (Ev.add (Ev.max2 hh (g10'.bi (by k_is) (by boot_by_name)) (free _) (Ev.item (ends _) (k _) (by omega) (by omega) ?_)) (Ev.item (R := isI) (Ev.item (R := isJ4) (order _) (k _) (by omega) (by omega) (by rw [Int.toNat_natCast]; exact hjx)) (machine _) (by omega) (by omega) ?_)) fun v11 h11 F11 kb11 s11 p11 => ?_
      · rw [Int.toNat_natCast, List.getElem?_eq_getElem (by omega)]
        simp [show i < (passS p i (0, doneE jj m)).2.length by omega]
      · rw [Int.toNat_natCast, hpi]
        rcases (show m = 0 ∨ m = 1 ∨ m = 2 by omega) with rfl | rfl | rfl <;> rfl
      · have hd11 := kb11 _ _ q6 (F10.hid D List.mem_cons_self).1
        have free := F11.var (P := isI (max (passS p i (0, doneE jj m)).1 ((passS p i (0, doneE jj m)).2.getD i 0) + p i)) (x := Str.ofString "free") upd_eq p11
        have k := F11.var (P := isI (i : Int)) (x := Str.ofString "k") ((upd_ne (by decide)).trans upd_eq) hri
        refine Ex.of (Sx.setItem (j := i) F11 hD0 ((upd_ne (by decide)).trans ((upd_ne (by decide)).trans q2)) hd11 (k _) (by rw [List.size_toArray, q7.len]; omega) (by omega) (free _) fun v12 h12 n' F12 hd12 ko12 p12 => Ex.nil ⟨_, F12, ⟨(upd_ne (by decide)).trans ((upd_ne (by decide)).trans q1), (upd_ne (by decide)).trans ((upd_ne (by decide)).trans q2), (upd_ne (by decide)).trans ((upd_ne (by decide)).trans q3), v11, vs.set i v12, n', upd_eq, p11, ?_, ?_⟩, ?_⟩)
        · rw [hd12]; simp
        · exact (are_any (h' := h12) q7).set i p12
        · exact fun b o e w => ko12 b o (kb11 b o e fun z => w (.inl z)) fun z => w (.inr z)
    · rintro V2 g10 ⟨q1, q2, q3, vf, vs, n, q4, q5, q6, q7⟩ F10 kb10 st10
      rw [rangeL_len] at q7
      refine Ex.nil ⟨V2, F10, ⟨q1, q2, vs, n, q6, ?_⟩, (kb9.mono fun _ => .inl).trans kb10⟩
      show Are isI (passS (fun i => mach (jj.getD i ⟨0, 0, 0⟩) m) jj.length (0, doneE jj m)).2 vs g10
      rw [hp, hjl]
      exact q7
  · rintro V1 g ⟨e1, e2, vs, m, hd, ar⟩ F8 kb8 st8
    have F8' := F8.unhide
    have g8 := G.at (kb.trans F8'.kept.lg)
    rw [rangeL_len] at ar
    have ends := F8'.var (P := isL isI (doneE jj 3)) (x := Str.ofString "ends") e2 ⟨D, vs, m, rfl, lg_get hd hDX, are_any ar⟩
    exact Ex.ret F8' (Ev.callB (Ps := [isL isI (doneE jj 3)]) (g8.bi (by k_is) (by boot_by_name)) (EA.cons (ends _) EA.nil) fun vs h' _ r => b_max (by exact hh) (by rw [doneE_len]; omega) r)
end Mine
end

section
-- D2
open PySem PySem.W PyProof.Rows PySem.Spec PySem.Calls
set_option maxRecDepth 100000
set_option maxHeartbeats 8000000
namespace Mine
def nameO (o : Obj) : Prop := (∃ es n, o.data = .dict es n) ∨ ∃ v, o.data = .cell v
/-- cmp_to_key(_law_sooner)(job) -/
theorem e_key {c : Cx} (hy : Cy c) (hR : Room c.A 10) (hd : c.A.depth ≤ 500) (hu : c.A.units ≤ 2000) {env : Env} {h1 : Heap} {tk : Nat} {mg mb : Str → Option Value} (L : LBase2 c.w mg mb (lg c h1)) (ht : KTab (lg c h1))
    {own : List Addr} (hown : ∀ a ∈ own, a ≠ 16 ∧ ∃ o, h1.get? a = some o ∧ nameO o) (hX0 : ∀ a ∈ c.X, ∃ o, h1.get? a = some o)
    {m fx ja : Expr} {mpos pos : Pos} {p : JK} {u : Value} {Q : Value → Shared → Prop} {E : Value → Shared → Prop}
    (hm : Ev c env m (lg c h1) (isV (.ref 21))) (hfx : Ev c env fx (lg c h1) (isV (.ref 35))) (hja : ∀ h6, KB (· = 16) h1 h6 → Ev c env ja (lg c h6) (isV u)) (pu : isJ4 p u (lg c h1))
    (hq : ∀ v h8 tk8, KB (· = 16) h1 h8 → KTab (lg c h8) → isKey c.w p v (hideAll (lg c h8) own) → v ≠ .none → Q v (c.sh h8 tk8))
    (hs : starEach [ja] env = [(false, eval ja env)] := by rfl) (hs2 : starEach [fx] env = [(false, eval fx env)] := by rfl)
    (he : eval (.Call (.Call m [fx] [] mpos) [ja] [] pos) env = (do callWith pos (← eval (.Call m [fx] [] mpos) env) [] (backTo pos (starEach [ja] env)) (backToKw pos (keywordEach [] env))) := by rfl)
    (he2 : eval (.Call m [fx] [] mpos) env = (do callWith mpos (← eval m env) [] (backTo mpos (starEach [fx] env)) (backToKw mpos (keywordEach [] env))) := by rfl) :
    wpAny c.M c.A (eval (.Call (.Call m [fx] [] mpos) [ja] [] pos) env) Q E (c.sh h1 tk) := by
  refine Call_ (call_any hX0 (mf := 21) hm (mo := KO c.w 21) (by with_unfolding_all rfl) (fun h3 tk3 k3 => ?_) hs2 he2) he
  have L3 := L.keeps k3.lg
  have t3 := ht.keeps k3.lg
  refine hfx h3 tk3 _ _ ⟨k3.lg, fun x hx => let ⟨o, e⟩ := hX0 x hx; ⟨o, k3 _ _ e⟩⟩ fun f h5 tk5 k5 f5 => ?_
  cases f5
  have k15 := k3.trans k5
  have L5 := L3.keeps k5.lg
  have kt5 := t3.keeps k5.lg
  have L5r := L5.keeps lg_sub
  refine ⟨L5r.K.o21, K_makeN (X := c.X) hy hR L5r.K kt5 (fun a ha => let ⟨o, e⟩ := hX0 a ha; ⟨o, k15 _ _ e⟩) fun C k h6 tk6 k6 hC hk => ?_⟩
  have k16 : KB (· = 16) h1 h6 := k15.kb.trans k6
  have n16 : 16 ∉ c.X := let ⟨vs, z⟩ := ht.at16; lg_not z
  have hX6 : ∀ a ∈ c.X, ∃ o, h6.get? a = some o := fun a ha => let ⟨o, e⟩ := hX0 a ha; ⟨o, k16 _ _ e fun q => n16 (q ▸ ha)⟩
  have kl6 : KB (· = 16) (lg c h5) (lg c h6) := fun b o e q => lg_get (k6 _ _ (lg_sub _ _ e) q) (lg_not e)
  have L6 := L5.kb kl6
  have fr : ∀ {a : Addr} {o : Obj}, (freshOf h5 h6).get? a = some o → h6.get? a = some o ∧ a ∉ c.X ∧ a ∉ own := fun {a o} e => by
    have n5 := fresh_not e
    refine ⟨of_hideAll _ e, fun q => ?_, fun q => ?_⟩
    · obtain ⟨o', e'⟩ := hX0 a q
      rw [k15 _ _ e'] at n5; cases n5
    · obtain ⟨_, o', e', _⟩ := hown a q
      rw [k15 _ _ e'] at n5; cases n5
  have hC6 : KCls c.w (lg c h6) k C (.ref 35) := hC.keeps fun b o e => let ⟨q1, q2, _⟩ := fr e; lg_get q1 q2
  have hk6 : KCodes (lg c h6) k := hk
  have o26 : (lg c h6).get? 2 = some statO := L6.K.o2
  have pu6 : isJ4 p u (lg c h6) := Mo.mo pu fun b o e q => lg_get (k16 _ _ (lg_sub _ _ e) (by
    rintro rfl
    obtain ⟨vs, z⟩ := ht.at16
    rw [z] at e; cases e; cases q)) (lg_not e)
  obtain ⟨ad, ut, hCo, -⟩ := id hC6
  have lt6 : Lt c (lg c h6) h6 := ⟨Kept.refl _, hX6⟩
  refine callWith_K (args_cons (hja h6 k16 h6 tk6 _ _ lt6 fun u' h7 tk7 k7 pu' => args_nil ⟨k7 _ _ (lg_sub _ _ hCo), ?_⟩) hs) hs
  cases pu'
  refine K_new (x := p) (R := isJ4) hy hR.handled hd hu hC6 hk6 o26 pu6 h7 tk7 Q E (lt6.trans k7) fun v h8 tk8 k8 pv => ?_
  have k68 := k7.trans k8
  have k18 : KB (· = 16) h1 h8 := k16.trans k68.kb
  have own8 : ∀ {a : Addr} {o : Obj}, (lg c h8).get? a = some o → ¬ nameO o → (hideAll (lg c h8) own).get? a = some o := fun {a o} e no => hideAll_get _ e fun q => by
    obtain ⟨n16, o', e', nm⟩ := hown a q
    have e := lg_sub _ _ e
    rw [k18 _ _ e' n16] at e; cases e; exact no nm
  obtain ⟨i, dd, u2, rfl, ei, ru⟩ := pv
  refine hq _ h8 tk8 k18 (.inr ⟨k, hk6.keeps k68.lg⟩) ⟨C, k, i, dd, u2, rfl, hC.keeps fun b o e => let ⟨q1, q2, q3⟩ := fr e; hideAll_get _ (lg_get (k68 _ _ q1) q2) q3, ?_, own8 ei (fun q => by rcases q with ⟨_, _, q⟩ | ⟨_, q⟩ <;> cases q), ?_⟩ (fun q => nomatch q)
  · have hm : ∀ {a n l}, IsCodeO (lg c h6) a n l → IsCodeO (hideAll (lg c h8) own) a n l := fun ⟨cb, ct, e⟩ => ⟨cb, ct, own8 (k68.lg _ _ e) (fun q => by rcases q with ⟨_, _, q⟩ | ⟨_, q⟩ <;> cases q)⟩
    exact ⟨hm hk6.m1, hm hk6.m2, hm hk6.m3, hm hk6.m4, hm hk6.m5⟩
  · obtain ⟨a, vs, n, e1, e2, e3⟩ := ru
    exact ⟨a, vs, n, e1, own8 e2 (fun q => by rcases q with ⟨_, _, q⟩ | ⟨_, q⟩ <;> cases q), are_any e3⟩
end Mine
end

section
-- D3
open PySem PySem.W PyProof.Rows PySem.Spec PySem.Calls
set_option maxRecDepth 100000
set_option maxHeartbeats 8000000
namespace Mine
theorem Ex.base {c : Cx} {env : Env} {h0 b0 h : Heap} {ss : List Stmt} {N : Heap → Prop} {P : VP} (k : Kept h0 b0) (x : Ex c env b0 ss h N P) : Ex c env h0 ss h N P :=
  Ex.mk fun tk Q E hn hr => x.run tk Q E hn fun v h' tk' k' p => hr v h' tk' (k.trans k') p
abbrev ownL (env : Env) : List Addr := env.locals :: env.cells.map (·.2)
theorem ownL_wr {h0 h : Heap} {env : Env} {V : Vs} (F : Fm h0 env h V) {a : Addr} : a ∈ ownL env ↔ Wr env a := by
  constructor
  · intro q
    rcases List.mem_cons.mp q with rfl | q
    · exact .inl rfl
    · obtain ⟨⟨n, b⟩, hm, rfl⟩ := List.mem_map.mp q
      exact .inr ⟨n, F.mem n b hm⟩
  · rintro (rfl | ⟨n, e⟩)
    · exact List.mem_cons_self
    · exact List.mem_cons_of_mem _ (List.mem_map.mpr ⟨(n, a), by
        have := List.lookup_eq_some_iff.mp e
        obtain ⟨l1, l2, e1, _⟩ := this
        rw [e1]; simp, rfl⟩)
theorem ownL_name {h0 h : Heap} {env : Env} {V : Vs} (F : Fm h0 env h V) {a : Addr} (q : a ∈ ownL env) : ∃ o, h.get? a = some o ∧ nameO o := by
  rcases (ownL_wr F).mp q with rfl | ⟨n, e⟩
  · obtain ⟨m, ⟨o, es, ep, eo, hd, _⟩, _⟩ := F.loc
    exact ⟨o, eo, .inl ⟨_, _, hd⟩⟩
  · obtain ⟨o, eo, hd⟩ := F.cell n a e
    exact ⟨o, eo, .inr ⟨_, hd⟩⟩
/-- keys = [cmp_to_key(_law_sooner)(job) for job in jobs] -/
theorem Ex.assignKeys {c : Cx} (hy : Cy c) (hX : c.X = []) (hR : Room c.A 10) (hd : c.A.depth ≤ 500) (hu : c.A.units ≤ 2000) {mg mb : Str → Option Value} {env : Env} {h0 h : Heap} {V : Vs} {N : Heap → Prop} {P : VP} {rest : List Stmt}
    {m fx iter : Expr} {mpos epos : Pos} {x y : Str} {px py pj pos spos : Pos} {scope : Scope} {js : List JK}
    (F : Fx c h0 env h V) (hit : Ev c env iter h (Itb c isJ4 js)) (L : LBase2 c.w mg mb h) (ht : KTab h) (h16 : h0.get? 16 = none) (w16 : ¬ Wr env 16) (hge : env.globals = mainGlobals)
    (hm : ∀ D C g, LBase2 c.w mg mb g → Ev (c.hide D) (compEnvC scope [] C env) m g (isV (.ref 21))) (hfx : ∀ D C g, LBase2 c.w mg mb g → Ev (c.hide D) (compEnvC scope [] C env) fx g (isV (.ref 35)))
    (hsz : js.length ≤ 100) (hclos : closureFor scope env = pure [])
    (hr : ∀ v b0 h', Kept h0 b0 → b0.get? 16 = none → Fx c b0 env h' (upd V y v) → isL (isKey c.w) js v b0 → KTab h' → KB (fun a => Wr env a ∨ a = 16) h h' → Ex c env b0 rest h' N P)
    (hcell : ∀ y ∈ scope.names, y.2 ≠ .cell := by decide) (hkind : scope.kind = .function := by rfl) (hnames : ∀ y ∈ scope.names, y.2 = .local → scope.names.lookup y.1 = some .local := by decide) (hx : scope.names.lookup x = some .local := by rfl) (hxs : x ≠ slotsKey := by decide) (hxd : (x == ("__debug__" : Str)) = false := by decide)
    (hk : env.kindOf y = some .local ∨ (env.kindOf y = some .cell ∧ (env.cells.lookup y).isSome = true) := by exact own_of (by rfl))
    (hsw : swapsWith (.ListComp (.Call (.Call m [fx] [] mpos) [.Name x pj] [] epos) [⟨.Name x px, iter, [], 0⟩] scope pos) (some (.Name y py)) spos.line env = pure true := by with_unfolding_all rfl)
    (hs : ∀ x, foldedSetIterable iter env x = pure x := by intro _; rfl)
    (s1 : ∀ C, starEach [.Name x pj] (compEnvC scope [] C env) = [(false, eval (.Name x pj) (compEnvC scope [] C env))] := by intro _; rfl) (s2 : ∀ C, starEach [fx] (compEnvC scope [] C env) = [(false, eval fx (compEnvC scope [] C env))] := by intro _; rfl)
    (he : ∀ C, eval (.Call (.Call m [fx] [] mpos) [.Name x pj] [] epos) (compEnvC scope [] C env) = (do callWith epos (← eval (.Call m [fx] [] mpos) (compEnvC scope [] C env)) [] (backTo epos (starEach [.Name x pj] (compEnvC scope [] C env))) (backToKw epos (keywordEach [] (compEnvC scope [] C env)))) := by intro _; rfl)
    (he2 : ∀ C, eval (.Call m [fx] [] mpos) (compEnvC scope [] C env) = (do callWith mpos (← eval m (compEnvC scope [] C env)) [] (backTo mpos (starEach [fx] (compEnvC scope [] C env))) (backToKw mpos (keywordEach [] (compEnvC scope [] C env)))) := by intro _; rfl) :
    Ex c env h0 (.Assign [.Name y py] (.ListComp (.Call (.Call m [fx] [] mpos) [.Name x pj] [] epos) [⟨.Name x px, iter, [], 0⟩] scope pos) spos :: rest) h N P := by
  obtain ⟨prog, w, A, g, d, os, X⟩ := c
  obtain rfl : X = [] := hX
  refine Ex.cons fun tk Q E hn _ => ?_
  rw [exec_Assign_Name_used _ _ _ _ hsw]
  refine wpAny_bind (wpAny_standAt (wpAny_bind ?_))
  show wpAny _ A (do let _ ← comprehension (.ListComp (.Call (.Call m [fx] [] mpos) [.Name x pj] [] epos) [⟨.Name x px, iter, [], 0⟩] scope pos) scope env _ (newList []) false (eval iter env) (some (PySem.assign (.Name y py) env))) _ _ _
  refine wpAny_bind (wpAny_mono (Q := fun _ s' => Q .next s') ?_ (fun _ s' hq => wpAny_pure (wpAny_pure hq)) fun _ _ e => e)
  refine wpAny_comprehension_free (use := some (PySem.assign (.Name y py) env)) rfl hs hclos hkind hnames (hit h tk _ E F.lt fun xv hv tkv kv itb => ?_)
  refine itb (Cx.sh ⟨prog, w, A, g, d, os, []⟩ hv tkv) A _ E hR.handled (F.at kv).lt fun I ha fp Pi St k => ?_
  have Lv := L.keeps kv
  have tv := ht.keeps kv
  have Fv := F.at kv
  obtain ⟨vs16, e16⟩ := tv.at16
  have live16 : ∀ a, hv.get? a = none → a ≠ 16 := fun a e q => by rw [q, e16] at e; cases e
  have hown : ∀ a ∈ ownL env, a ≠ 16 ∧ ∃ o, hv.get? a = some o ∧ nameO o := fun a q => ⟨fun z => w16 (z ▸ (ownL_wr Fv.toFm).mp q), ownL_name Fv.toFm q⟩
  refine comp_block (S := fun (p : JK) v g => isKey w p v (hideAll g (ownL env))) k (fun y hy => nomatch hy) hcell hkind hx hxs (Nat.le_trans hsz (by decide)) (· = 16) (fun a q => ⟨_, q ▸ e16, rfl⟩) (fun _ q => nomatch q) (fun _ g => KTab g) (fun D h' k' => tv.keeps fun b o e => k' b o (by exact e)) (fun _ _ _ x y => x.cst2 y)
    (fun p v g g' q cc => q.cst fun b o e qo => hideAll_get _ (cc _ _ (of_hideAll _ e) qo) (hide_not e)) (fun _ => true) id ?_ (fun _ _ _ _ q => nomatch q) ?_ ?_
  · intro i y u C D m1 h1 hy hru hj hn1 hm1 hC hD hDC kb lt1
    exact tests_nil
  · intro i p u C D m1 h1 hy' _ hru hj hn1 hm1 hC hD hDC kb lt1 tk1 Q1 E1 hq1
    have n16 : C ≠ 16 := live16 C hC
    have nD16 : D ≠ 16 := live16 D hD
    have L1 : LBase2 w mg mb (lg (Cx.hide ⟨prog, w, A, g, d, os, []⟩ D) h1) := Lv.kb fun b o e q => lg_get (kb _ _ e q) fun z => by
      obtain rfl := List.mem_singleton.mp z
      rw [hD] at e; cases e
    have t1 : KTab (lg (Cx.hide ⟨prog, w, A, g, d, os, []⟩ D) h1) := hj
    refine e_key (c := Cx.hide ⟨prog, w, A, g, d, os, []⟩ D) ⟨hy.prog, hy.gens⟩ hR hd hu L1 t1 (own := ownL env) (fun a q => let ⟨q1, o, q2, q3⟩ := hown a q; ⟨q1, o, kb _ _ q2 q1, q3⟩) lt1.old (p := p) (u := u) (hm D C _ L1) (hfx D C _ L1) (fun h6 k6 => ?_) hru (fun v h8 tk8 k8 t8 key nv => ?_) (s1 C) (s2 C) (he C) (he2 C)
    · have hn6 : (lg (Cx.hide ⟨prog, w, A, g, d, os, []⟩ D) h6).Ns C m1 := hn1.at' fun o e => lg_get (k6 _ _ e n16) fun z => hDC (by simpa using z)
      exact Ev.own hn6 hm1 rfl hkind (by
        show (relabel scope env).names.lookup x = some .local
        exact lookup_relabel_local hx) hxd
    · refine hq1 v h8 tk8 k8 ?_ ?_ t8
      · intro b o e qo
        refine lg_get (k8 _ _ (lg_sub _ _ e) ?_) (lg_not e)
        rintro rfl
        obtain ⟨vs, z⟩ := t1.at16
        rw [z] at e; cases e; cases qo
      · exact key
  · intro D C h' tk' m1 vs kb ar hD hDs hCs hDC hn1 hms hj
    have ej : (js.filter fun _ => true).map id = js := by simp
    rw [ej] at ar
    have tj : KTab h' := hj.keeps lg_sub
    have Fw : Fx ⟨prog, w, A, g, d, os, []⟩ h0 env h' V := Fv.wide kb (fun a q => q ▸ h16) (fun a q => q ▸ w16) fun _ q => nomatch q
    refine wpAny_assign_Name (Fw.toFm.store (s := Cx.sh ⟨prog, w, A, g, d, os, []⟩ h' tk') hk fun h3 tk3 F3 kb3 => ?_)
    have wold : ∀ {a}, Wr env a → ∃ o, hv.get? a = some o := fun w => let ⟨o, e, _⟩ := Fv.toFm.wrObj w; ⟨o, e⟩
    have hCw : ¬ Wr env C := fun w => by obtain ⟨o, e⟩ := wold w; rw [hCs] at e; cases e
    have hDw : ¬ Wr env D := fun w => by obtain ⟨o, e⟩ := wold w; rw [hDs] at e; cases e
    have hns3 : h3.Ns C m1 := hn1.at' fun o e => kb3 C o e hCw
    refine ⟨m1, hns3, fun hf hs' => ?_⟩
    obtain ⟨oC, eC, wC⟩ := ns_weak hns3 hms
    obtain ⟨oC', eC', wC'⟩ := ns_weak hn1 hms
    have hb : ∀ b o, b ∉ [C] → h3.get? b = some o → hf.get? b = some o := fun b o q e => hs'.extBut b o (fun z => q (List.mem_singleton.mpr z)) e
    have hb' : ∀ b o, b ≠ C → h3.get? b = some o → hf.get? b = some o := fun b o q e => hs'.extBut b o q e
    have F4 : Fm h0 env hf (upd V y (.ref D)) := Fv.toFm.but F3 hCs hb
    have t4 : KTab hf := (tj.strg (Fw.toFm.str kb3)).cst2 (cst_but eC wC hb')
    have own16 : ∀ {a}, a ∈ 16 :: ownL env → a = 16 ∨ Wr env a := fun q => (List.mem_cons.mp q).imp id (ownL_wr F4).mp
    have cc : Cst (hideAll h' (ownL env)) (hideAll hf (16 :: ownL env)) := fun b o e qo => by
      have e' := of_hideAll _ e
      have nw : ¬ Wr env b := fun w => hide_not e ((ownL_wr F4).mpr w)
      have n16 : b ≠ 16 := by
        rintro rfl
        obtain ⟨vs', z⟩ := tj.at16
        rw [z] at e'; cases e'; cases qo
      have nC : b ≠ C := by
        rintro rfl
        rw [eC'] at e'; cases e'
        unfold cst2O at wC'
        rw [qo] at wC'
        cases wC'
      exact hideAll_get _ (hb' _ _ nC (kb3 _ _ e' nw)) fun q => (own16 q).elim n16 nw
    have hDf : hf.get? D = some (lst vs) := hb' _ _ (fun q => hDC q.symm) (kb3 _ _ hD hDw)
    have k0 : Kept h0 (hideAll hf (16 :: ownL env)) := fun b o e => hideAll_get _ (F4.kept b o e) fun q => by
      rcases own16 q with rfl | w
      · rw [h16] at e; cases e
      · rw [F4.newWr w] at e; cases e
    refine hn hf tk3 (Ex.base k0 (hr (.ref D) (hideAll hf (16 :: ownL env)) hf k0 (hideAll_none _ List.mem_cons_self) ⟨⟨F4.kind, F4.loc, fun b o e => of_hideAll _ e, hideAll_none _ (List.mem_cons_of_mem _ List.mem_cons_self), F4.cell, F4.apart, fun n a e => hideAll_none _ (List.mem_cons_of_mem _ ((ownL_wr F4).mpr (.inr ⟨n, e⟩))), F4.ne, F4.kinds, F4.mem⟩, fun _ q => nomatch q⟩ ⟨D, vs, _, rfl, hideAll_get _ hDf fun q => ?_, ⟨ar.len, fun i p v hp hv => (ar.at' i p v hp hv).cst cc⟩⟩ t4 ?_))
    · rcases own16 q with z | w
      · exact live16 D hDs z
      · exact hDw w
    · refine but_kb (I := C) ?_ ((kv.kb.trans (kb.mono fun _ q => .inr q)).trans (kb3.mono fun _ q => .inl q)) hb
      cases z : h.get? C with
      | none => rfl
      | some o => rw [kv _ _ z] at hCs; cases hCs
end Mine
end

section
-- D3b
open PySem PySem.W PyProof.Rows PySem.Spec PySem.Calls
set_option maxRecDepth 100000
set_option maxHeartbeats 8000000
namespace Mine
theorem isKey.keeps {w : World} {p : JK} {v : Value} {h h' : Heap} (x : isKey w p v h) (k : Kept h h') : isKey w p v h' := x.cst k.cst2.cst
theorem key_lt {c : Cx} (hy : Cy c) (hR : Room c.A 5) {h : Heap} {mg mb : Str → Option Value} (G : Pg (hdx.heap_39 c.w.params) [16] mg mb h) {p q : JK} {u v : Value} (hu : isKey c.w p u h) (hv : isKey c.w q v h) : Pu c (compareOp .Lt u v) h (isB (decide (soonerZ p.1 q.1 < 0))) := by
  obtain ⟨C, k, i, dd, x, rfl, hC, hm, hi, px⟩ := hu
  obtain ⟨D, k2, j, de, y, rfl, hD, hm2, hj, py⟩ := hv
  have e35 := G.X _ _ (show (hdx.heap_39 c.w.params).lookup 35 = some _ by k_is) rfl
  exact Kop_lt (z := soonerZ p.1 q.1) hy hR hC hD hm.m1 G.lim hi hj (by obtain ⟨t, vs, n, rfl, _⟩ := px; rfl) (by obtain ⟨t, vs, n, rfl, _⟩ := py; rfl) e35 rfl fun A g hA kg => c_sooner (c := { c with A := A }) (hA.le (by decide)) (G.at kg) (Mo.mo px kg.stay) (Mo.mo py kg.stay)
theorem key_gt {c : Cx} (hy : Cy c) (hR : Room c.A 5) {h : Heap} {mg mb : Str → Option Value} (G : Pg (hdx.heap_39 c.w.params) [16] mg mb h) {p q : JK} {u v : Value} (hu : isKey c.w p u h) (hv : isKey c.w q v h) : Pu c (compareOp .Gt u v) h (isB (decide (0 < soonerZ p.1 q.1))) := by
  obtain ⟨C, k, i, dd, x, rfl, hC, hm, hi, px⟩ := hu
  obtain ⟨D, k2, j, de, y, rfl, hD, hm2, hj, py⟩ := hv
  have e35 := G.X _ _ (show (hdx.heap_39 c.w.params).lookup 35 = some _ by k_is) rfl
  exact Kop_gt (z := soonerZ p.1 q.1) hy hR hC hD hm.m2 G.lim hi hj (by obtain ⟨t, vs, n, rfl, _⟩ := px; rfl) (by obtain ⟨t, vs, n, rfl, _⟩ := py; rfl) e35 rfl fun A g hA kg => c_sooner (c := { c with A := A }) (hA.le (by decide)) (G.at kg) (Mo.mo px kg.stay) (Mo.mo py kg.stay)
theorem key_eq {c : Cx} (hy : Cy c) (hR : Room c.A 5) {h : Heap} {mg mb : Str → Option Value} (G : Pg (hdx.heap_39 c.w.params) [16] mg mb h) {p q : JK} {u v : Value} (hu : isKey c.w p u h) (hv : isKey c.w q v h) : Pu c (compareOp .Eq u v) h (isB (soonerZ p.1 q.1 == 0)) := by
  obtain ⟨C, k, i, dd, x, rfl, hC, hm, hi, px⟩ := hu
  obtain ⟨D, k2, j, de, y, rfl, hD, hm2, hj, py⟩ := hv
  have e35 := G.X _ _ (show (hdx.heap_39 c.w.params).lookup 35 = some _ by k_is) rfl
  exact Kop_eq (z := soonerZ p.1 q.1) hy hR hC hD hm.m3 G.lim hi hj (by obtain ⟨t, vs, n, rfl, _⟩ := px; rfl) (by obtain ⟨t, vs, n, rfl, _⟩ := py; rfl) e35 rfl fun A g hA kg => c_sooner (c := { c with A := A }) (hA.le (by decide)) (G.at kg) (Mo.mo px kg.stay) (Mo.mo py kg.stay)
theorem key_le {c : Cx} (hy : Cy c) (hR : Room c.A 5) {h : Heap} {mg mb : Str → Option Value} (G : Pg (hdx.heap_39 c.w.params) [16] mg mb h) {p q : JK} {u v : Value} (hu : isKey c.w p u h) (hv : isKey c.w q v h) : Pu c (compareOp .LtE u v) h (isB (decide (soonerZ p.1 q.1 ≤ 0))) := by
  obtain ⟨C, k, i, dd, x, rfl, hC, hm, hi, px⟩ := hu
  obtain ⟨D, k2, j, de, y, rfl, hD, hm2, hj, py⟩ := hv
  have e35 := G.X _ _ (show (hdx.heap_39 c.w.params).lookup 35 = some _ by k_is) rfl
  exact Kop_le (z := soonerZ p.1 q.1) hy hR hC hD hm.m4 G.lim hi hj (by obtain ⟨t, vs, n, rfl, _⟩ := px; rfl) (by obtain ⟨t, vs, n, rfl, _⟩ := py; rfl) e35 rfl fun A g hA kg => c_sooner (c := { c with A := A }) (hA.le (by decide)) (G.at kg) (Mo.mo px kg.stay) (Mo.mo py kg.stay)
theorem key_ge {c : Cx} (hy : Cy c) (hR : Room c.A 5) {h : Heap} {mg mb : Str → Option Value} (G : Pg (hdx.heap_39 c.w.params) [16] mg mb h) {p q : JK} {u v : Value} (hu : isKey c.w p u h) (hv : isKey c.w q v h) : Pu c (compareOp .GtE u v) h (isB (decide (0 ≤ soonerZ p.1 q.1))) := by
  obtain ⟨C, k, i, dd, x, rfl, hC, hm, hi, px⟩ := hu
  obtain ⟨D, k2, j, de, y, rfl, hD, hm2, hj, py⟩ := hv
  have e35 := G.X _ _ (show (hdx.heap_39 c.w.params).lookup 35 = some _ by k_is) rfl
  exact Kop_ge (z := soonerZ p.1 q.1) hy hR hC hD hm.m5 G.lim hi hj (by obtain ⟨t, vs, n, rfl, _⟩ := px; rfl) (by obtain ⟨t, vs, n, rfl, _⟩ := py; rfl) e35 rfl fun A g hA kg => c_sooner (c := { c with A := A }) (hA.le (by decide)) (G.at kg) (Mo.mo px kg.stay) (Mo.mo py kg.stay)
end Mine
end

section
-- D3c
open PySem PySem.W PyProof.Rows PySem.Spec PySem.Calls
set_option maxRecDepth 100000
namespace Mine
def base2 : List Int := [2, 0, 5, 1, 9, 3, 10, 1, 2, 0, 2, 1, 6, 6, 7, 8, 4]
def cellK (ns : List Int) (k : Nat) : Int := base2.getD k 0 + (pick ns (some (k : Int)) (some 60) (some 17)).sum
def cellsL (ns : List Int) : List Int := (rangeL 0 1 17).map fun k => cellK ns k.toNat
theorem cellsL_at (ns : List Int) (j : Nat) (hj : j < 17) (k : Int) (hk : k = (j : Int)) : (cellsL ns)[k.toNat]? = some (cellK ns j) := by
  subst hk
  rw [Int.toNat_natCast]
  unfold cellsL
  rw [List.getElem?_map, rangeL_one, List.getElem?_map, List.getElem?_range hj]
  simp
def manyN (ns : List Int) : Nat := 2 + ((cellK ns 0).fmod 4).toNat
def sideN (ns : List Int) : Int := (cellK ns 1).fmod 3
theorem many_eq (ns : List Int) : 2 + (cellK ns 0).fmod 4 = (manyN ns : Int) := by
  unfold manyN
  have := Int.fmod_nonneg_of_pos (cellK ns 0) (show (0 : Int) < 4 by decide)
  omega
theorem many_bounds (ns : List Int) : 2 ≤ manyN ns ∧ manyN ns ≤ 5 := by
  unfold manyN
  have h1 := Int.fmod_nonneg_of_pos (cellK ns 0) (show (0 : Int) < 4 by decide)
  have h2 := Int.fmod_lt_of_pos (cellK ns 0) (show (0 : Int) < 4 by decide)
  omega
def absZ (x : Int) : Int := if x < 0 then -x else x
def secL (ns : List Int) : List Int := (pick (cellsL ns) (some 7) (some (7 + (manyN ns : Int))) none).map fun x => if sideN ns = 2 then 0 else absZ x
theorem secL_len (ns : List Int) : (secL ns).length = manyN ns := by
  unfold secL
  rw [List.length_map]
  obtain ⟨h1, h2⟩ := many_bounds ns
  generalize manyN ns = m at h1 h2
  rcases (show m = 2 ∨ m = 3 ∨ m = 4 ∨ m = 5 by omega) with rfl | rfl | rfl | rfl <;> rfl
def longN (ns : List Int) : Int := maxL (secL ns)
def jobK2 (ns : List Int) (k : Nat) : JK := (⟨absZ (cellK ns (2 + k)) + (if sideN ns = 0 then longN ns else 0), (secL ns).getD k 0, absZ (cellK ns (12 + k)) + (if sideN ns = 1 then longN ns else 0)⟩, (k : Int))
def jobsL (ns : List Int) : List JK := (List.range (manyN ns)).map (jobK2 ns)
def rankL (j : JK) : List Int := if sortB j.1 then [0, j.1.a + j.1.b] else [1, -j.1.b - j.1.c]
theorem rangeL_get {n i : Nat} {x : Int} (h : (rangeL 0 1 n)[i]? = some x) : i < n ∧ x = (i : Int) := by
  obtain ⟨h1, h2⟩ := rangeL_at h
  exact ⟨h1, by omega⟩
theorem rankL_len (j : JK) : (rankL j).length = 2 := by unfold rankL; split <;> rfl
theorem soon_cases (x y : Job) : (sortB x = true ∧ sortB y = true ∧ soonerZ x y = x.a + x.b - y.a - y.b) ∨ (sortB x = true ∧ sortB y = false ∧ soonerZ x y = -1) ∨ (sortB x = false ∧ sortB y = true ∧ soonerZ x y = 1) ∨ (sortB x = false ∧ sortB y = false ∧ soonerZ x y = y.b + y.c - x.b - x.c) := by
  unfold soonerZ
  cases sortB x <;> cases sortB y <;> simp
theorem lex2_lt (a b c d : Int) : lexL (· == ·) (fun x y : Int => decide (x < y)) false [a, b] [c, d] = true ↔ a < c ∨ (a = c ∧ b < d) := by
  simp only [lexL, beq_iff_eq]
  by_cases h1 : a = c
  · rw [if_pos h1]
    by_cases h2 : b = d
    · rw [if_pos h2]; simp; omega
    · rw [if_neg h2]; simp; omega
  · rw [if_neg h1]; simp; omega
theorem told_lt (x y : JK) : lexL (· == ·) (fun x y => decide (x < y)) false (rankL x) (rankL y) = decide (soonerZ x.1 y.1 < 0) := by
  unfold rankL
  rw [Bool.eq_iff_iff, decide_eq_true_iff]
  rcases soon_cases x.1 y.1 with ⟨e1, e2, e3⟩ | ⟨e1, e2, e3⟩ | ⟨e1, e2, e3⟩ | ⟨e1, e2, e3⟩ <;> rw [e1, e2, e3] <;> simp only [if_true, Bool.false_eq_true, if_false, lex2_lt] <;> first | omega | (simp; omega) | simp
theorem lex2_gt (a b c d : Int) : lexL (· == ·) (fun x y : Int => decide (y < x)) false [a, b] [c, d] = true ↔ c < a ∨ (a = c ∧ d < b) := by
  simp only [lexL, beq_iff_eq]
  by_cases h1 : a = c
  · rw [if_pos h1]
    by_cases h2 : b = d
    · rw [if_pos h2]; simp; omega
    · rw [if_neg h2]; simp; omega
  · rw [if_neg h1]; simp; omega
theorem told_gt (x y : JK) : lexL (· == ·) (fun x y => decide (y < x)) false (rankL x) (rankL y) = decide (0 < soonerZ x.1 y.1) := by
  unfold rankL
  rw [Bool.eq_iff_iff, decide_eq_true_iff]
  rcases soon_cases x.1 y.1 with ⟨e1, e2, e3⟩ | ⟨e1, e2, e3⟩ | ⟨e1, e2, e3⟩ | ⟨e1, e2, e3⟩ <;> rw [e1, e2, e3] <;> simp only [if_true, Bool.false_eq_true, if_false, lex2_gt] <;> first | omega | (simp; omega) | simp
theorem lex2_le (a b c d : Int) : lexL (· == ·) (fun x y : Int => decide (x ≤ y)) true [a, b] [c, d] = true ↔ a < c ∨ (a = c ∧ b ≤ d) := by
  simp only [lexL, beq_iff_eq]
  by_cases h1 : a = c
  · rw [if_pos h1]
    by_cases h2 : b = d
    · rw [if_pos h2]; simp; omega
    · rw [if_neg h2]; simp; omega
  · rw [if_neg h1]; simp; omega
theorem told_le (x y : JK) : lexL (· == ·) (fun x y => decide (x ≤ y)) true (rankL x) (rankL y) = decide (soonerZ x.1 y.1 ≤ 0) := by
  unfold rankL
  rw [Bool.eq_iff_iff, decide_eq_true_iff]
  rcases soon_cases x.1 y.1 with ⟨e1, e2, e3⟩ | ⟨e1, e2, e3⟩ | ⟨e1, e2, e3⟩ | ⟨e1, e2, e3⟩ <;> rw [e1, e2, e3] <;> simp only [if_true, Bool.false_eq_true, if_false, lex2_le] <;> first | omega | (simp; omega) | simp
theorem lex2_ge (a b c d : Int) : lexL (· == ·) (fun x y : Int => decide (y ≤ x)) true [a, b] [c, d] = true ↔ c < a ∨ (a = c ∧ d ≤ b) := by
  simp only [lexL, beq_iff_eq]
  by_cases h1 : a = c
  · rw [if_pos h1]
    by_cases h2 : b = d
    · rw [if_pos h2]; simp; omega
    · rw [if_neg h2]; simp; omega
  · rw [if_neg h1]; simp; omega
theorem told_ge (x y : JK) : lexL (· == ·) (fun x y => decide (y ≤ x)) true (rankL x) (rankL y) = decide (0 ≤ soonerZ x.1 y.1) := by
  unfold rankL
  rw [Bool.eq_iff_iff, decide_eq_true_iff]
  rcases soon_cases x.1 y.1 with ⟨e1, e2, e3⟩ | ⟨e1, e2, e3⟩ | ⟨e1, e2, e3⟩ | ⟨e1, e2, e3⟩ <;> rw [e1, e2, e3] <;> simp only [if_true, Bool.false_eq_true, if_false, lex2_ge] <;> first | omega | (simp; omega) | simp
theorem eql2 (a b c d : Int) : eqL (· == ·) [a, b] [c, d] = true ↔ a = c ∧ b = d := by
  simp [eqL]
theorem told_eq (x y : JK) : eqL (· == ·) (rankL x) (rankL y) = (soonerZ x.1 y.1 == 0) := by
  unfold rankL
  rw [Bool.eq_iff_iff, beq_iff_eq]
  rcases soon_cases x.1 y.1 with ⟨e1, e2, e3⟩ | ⟨e1, e2, e3⟩ | ⟨e1, e2, e3⟩ | ⟨e1, e2, e3⟩ <;> rw [e1, e2, e3] <;> simp only [if_true, Bool.false_eq_true, if_false, eql2] <;> first | omega | (simp; omega) | simp
end Mine
end

section
-- N7
open PySem PySem.W PyProof.Rows PySem.Spec PySem.Calls
set_option maxRecDepth 100000
namespace Mine
section
variable {c : Cx} {env : Env} {P : VP}
theorem Fx.bind {h0 h : Heap} {V : Vs} {x : Str} {v : Value} {tk : Nat} {Q : Unit → Shared → Prop} {E : Value → Shared → Prop} (F : Fx c h0 env h V) (hq : ∀ h' tk', Fx c h0 env h' (upd V x v) → KB (Wr env) h h' → Stay (lg c h) (lg c h') → Q () (c.sh h' tk'))
    (hk : env.kindOf x = some .local ∨ (env.kindOf x = some .cell ∧ (env.cells.lookup x).isSome = true)) : wpAny c.M c.A (bindName env x v) Q E (c.sh h tk) :=
  bindName_ (F.toFm.store (s := c.sh h tk) hk fun h2 tk2 F2 kb => hq h2 tk2 (F.next F2 kb) kb (F.stay kb))
/-- x, y = a, b: stored the other way round -/
theorem Ex.assign2s {h0 h : Heap} {V : Vs} {N : Heap → Prop} {rest : List Stmt} {x y : Str} {px py p1 p2 : Pos} {k : Nat} {e : Expr} {α : Type} {R : α → VP} [∀ x, Mo (R x)] {a b : α} (F : Fx c h0 env h V) (hh : c.A.handled = none) (he : Ev c env e (lg c h) (isT R [a, b]))
    (hr : ∀ va vb h', Fx c h0 env h' (upd (upd V y vb) x va) → KB (Wr env) h h' → Stay (lg c h) (lg c h') → R a va (lg c h') → R b vb (lg c h') → Ex c env h0 rest h' N P)
    (hx : env.kindOf x = some .local := by rfl) (hy : env.kindOf y = some .local := by rfl)
    (hs : swapsWithSole [.Tuple [.Name x px, .Name y py] k p1] e p2.line env = pure false := by rfl) (hw : swappedStores [.Tuple [.Name x px, .Name y py] k p1] e env = pure (some [x, y]) := by rfl) :
    Ex c env h0 (.Assign [.Tuple [.Name x px, .Name y py] k p1] e p2 :: rest) h N P :=
  Ex.cons fun tk Q E hn _ => Assign_Tuple_swapped (he h tk _ E F.lt fun v h1 tk1 k1 q => by
    obtain ⟨t, vs, rfl, hl, r⟩ := isS.tup q
    obtain ⟨va, vs1, rfl, ia, r⟩ := r.uncons
    obtain ⟨vb, vs2, rfl, ib, r⟩ := r.uncons
    obtain rfl : vs2 = [] := List.length_eq_zero_iff.mp r.len
    have hl1 : h1.IsTuple t #[va, vb] := let ⟨o, ho, q⟩ := hl; ⟨o, lg_sub _ _ ho, q⟩
    refine wpAny_unpackItems_tuple (s := c.sh h1 tk1) (items := #[va, vb]) hh hl1 fun h2 x2 => ?_
    have k2 : Kept h1 h2 := ExtNew.kept x2
    have F2 := F.at (k1.trans k2)
    refine wpAny_assignInOrder_more (F2.bind (hk := .inl hy) fun h3 tk3 F3 kb3 s3 => wpAny_assignInOrder_more (F3.bind (hk := .inl hx) fun h4 tk4 F4 kb4 s4 => wpAny_assignInOrder_none ?_))
    have st : Stay (lg c h1) (lg c h4) := (k2.lg.stay.trans s3).trans s4
    exact hn h4 tk4 (hr va vb h4 F4 (((k1.trans k2).kb.trans kb3).trans kb4) (k1.lg.stay.trans st) (Mo.mo ia st) (Mo.mo ib st))) hs hw
end
end Mine
end

section
-- J4
open PySem PySem.W PyProof.Rows
set_option maxRecDepth 100000
namespace Mine
theorem runT_congr {α : Type} {lt lt' : Nat → Nat → Bool} {n : Nat} (hl : ∀ i j, i < n → j < n → lt i j = lt' i j) : ∀ t : KasT α, asksT n t = true → runT lt t = runT lt' t
  | .ret _, _ => rfl
  | .ask i j k, ha => by
    simp only [asksT, Bool.and_eq_true] at ha
    have e := hl i j (Nat.le_of_ble_eq_true ha.1) (Nat.le_of_ble_eq_true ha.2.1)
    show runT lt (k (lt i j)) = runT lt' (k (lt' i j))
    rw [← e]
    refine runT_congr hl _ ?_
    cases lt i j
    · exact ha.2.2.2
    · exact ha.2.2.1
theorem mem_digits {n : Nat} : ∀ (m : Nat) (l : List Nat), l.length = m → (∀ d ∈ l, d < n) → l ∈ digits n m
  | 0, l, hl, _ => by rw [List.eq_nil_of_length_eq_zero hl]; simp [digits]
  | m + 1, [], hl, _ => by simp at hl
  | m + 1, d :: l, hl, hd => by
    unfold digits
    rw [List.mem_flatMap]
    exact ⟨l, mem_digits m l (by simpa using hl) (fun x hx => hd x (by simp [hx])), List.mem_map.mpr ⟨d, List.mem_range.mpr (hd d (by simp)), rfl⟩⟩
/-- the rank: how many are before i -/
def rank (n : Nat) (lt : Nat → Nat → Bool) (i : Nat) : Nat := (List.range n).countP fun k => lt k i
structure Weak (n : Nat) (lt : Nat → Nat → Bool) : Prop where
  asym : ∀ i j, i < n → j < n → lt i j = true → lt j i = false
  neg : ∀ i j k, i < n → j < n → k < n → lt i j = true → lt i k = true ∨ lt k j = true
theorem countP_lt {p q : Nat → Bool} : ∀ (l : List Nat), (∀ x ∈ l, p x = true → q x = true) → (∃ x ∈ l, q x = true ∧ p x = false) → l.countP p < l.countP q
  | [], _, h => by obtain ⟨x, hx, _⟩ := h; simp at hx
  | a :: l, hpq, h => by
    have hle : l.countP p ≤ l.countP q := List.countP_mono_left fun x hx hp => hpq x (by simp [hx]) hp
    rw [List.countP_cons, List.countP_cons]
    obtain ⟨x, hx, hq, hp⟩ := h
    rcases List.mem_cons.mp hx with rfl | hx
    · simp [hq, hp]; omega
    · have := countP_lt l (fun y hy => hpq y (by simp [hy])) ⟨x, hx, hq, hp⟩
      have : (if p a = true then 1 else 0) ≤ (if q a = true then 1 else 0 : Nat) := by
        by_cases h1 : p a = true
        · rw [if_pos h1, if_pos (hpq a (by simp) h1)]; exact Nat.le_refl _
        · rw [if_neg h1]; exact Nat.zero_le _
      omega
theorem rank_lt {n : Nat} {lt : Nat → Nat → Bool} (h : Weak n lt) {i j : Nat} (hi : i < n) (hj : j < n) : lt i j = decide (rank n lt i < rank n lt j) := by
  unfold rank
  have irr : lt i i = false := by
    cases q : lt i i with
    | false => rfl
    | true => have := h.asym i i hi hi q; rw [q] at this; cases this
  cases e : lt i j with
  | true =>
    symm
    rw [decide_eq_true_iff]
    refine countP_lt _ (fun k hk hki => ?_) ⟨i, List.mem_range.mpr hi, e, irr⟩
    rcases h.neg k i j (List.mem_range.mp hk) hi hj hki with q | q
    · exact q
    · rw [h.asym i j hi hj e] at q; cases q
  | false =>
    symm
    rw [decide_eq_false_iff_not]
    refine Nat.not_lt.mpr (List.countP_mono_left fun k hk hkj => ?_)
    rcases h.neg k j i (List.mem_range.mp hk) hj hi hkj with q | q
    · exact q
    · rw [e] at q; cases q
theorem rank_small {n : Nat} {lt : Nat → Nat → Bool} (h : Weak n lt) {i : Nat} (hi : i < n) : rank n lt i < n := by
  have irr : lt i i = false := by
    cases q : lt i i with
    | false => rfl
    | true => have := h.asym i i hi hi q; rw [q] at this; cases this
  have := countP_lt (p := fun k => lt k i) (q := fun _ => true) (List.range n) (fun _ _ _ => rfl) ⟨i, List.mem_range.mpr hi, rfl, irr⟩
  simpa [rank] using this
theorem rises_pairwise {r : Nat → Nat} : ∀ {l : List Nat}, risesB r l = true → l.Pairwise fun x y => r x < r y ∨ (r x = r y ∧ x < y)
  | [], _ => List.Pairwise.nil
  | x :: l, h => by
    simp only [risesB, Bool.and_eq_true, List.all_eq_true, Bool.or_eq_true] at h
    refine List.pairwise_cons.mpr ⟨fun y hy => ?_, rises_pairwise h.2⟩
    rcases h.1 y hy with q | ⟨q1, q2⟩
    · exact .inl (Nat.le_of_ble_eq_true q)
    · exact .inr ⟨Nat.eq_of_beq_eq_true q1, Nat.le_of_ble_eq_true q2⟩
theorem okSort_all {n : Nat} (h2 : 2 ≤ n) (hn : n ≤ 5) {l : List Nat} (hl : l.length = n) (hd : ∀ d ∈ l, d < n) (hc : canonB l l = true) : okSort n l = true ∧ asksT n (kas_sort n) = true := by
  have hm := mem_sift (p := fun l => canonB l l) hc (mem_digits n l hl hd)
  have : n = 2 ∨ n = 3 ∨ n = 4 ∨ n = 5 := by omega
  rcases this with rfl | rfl | rfl | rfl
  · exact ⟨okT_ok _ _ sort2 hm, asks5.1⟩
  · exact ⟨okT_ok _ _ sort3 hm, asks5.2.1⟩
  · exact ⟨okT_ok _ _ sort4 hm, asks5.2.2.1⟩
  · exact ⟨okT_ok _ _ sort5 hm, asks5.2.2.2⟩
/-- what a sort of n <= 5 does under a weak order -/
theorem sortPerm_ok {n : Nat} {lt : Nat → Nat → Bool} (hn : n ≤ 5) (h : Weak n lt) : (sortPerm n lt).Perm (List.range n) ∧ (sortPerm n lt).Pairwise fun x y => lt x y = true ∨ (lt y x = false ∧ x < y) := by
  by_cases h2 : n < 2
  · unfold sortPerm
    rw [if_pos h2]
    refine ⟨List.Perm.refl _, ?_⟩
    have : n = 0 ∨ n = 1 := by omega
    rcases this with rfl | rfl
    · exact List.Pairwise.nil
    · simp [List.range_succ]
  · have hg : ∀ i, i < n → ((List.range n).map (rank n lt)).getD i 0 = rank n lt i := fun i hi => by simp [List.getD, hi]
    have ok := okSort_all (n := n) (l := (List.range n).map (rank n lt)) (by omega) hn (by simp) (fun d hd => by
      obtain ⟨i, hi, rfl⟩ := List.mem_map.mp hd
      exact rank_small h (List.mem_range.mp hi))
      (canon_mem fun x hx => by
        obtain ⟨i, hi, rfl⟩ := List.mem_map.mp hx
        rw [cnt_map]
        refine List.countP_congr fun k hk => ?_
        rw [rank_lt h (List.mem_range.mp hk) (List.mem_range.mp hi), decide_eq_true_iff]
        exact ⟨fun q => Nat.le_of_ble_eq_true q, fun q => Nat.ble_eq_true_of_le q⟩)
    have e : sortPerm n lt = (runT (fun i j => Nat.blt (((List.range n).map (rank n lt)).getD i 0) (((List.range n).map (rank n lt)).getD j 0)) (kas_sort n)).toList := by
      unfold sortPerm
      rw [if_neg h2, runT_congr (fun i j hi hj => ?_) _ ok.2]
      rw [hg i hi, hg j hj, rank_lt h hi hj]
      by_cases q : rank n lt i < rank n lt j
      · rw [decide_eq_true q]; exact (Nat.ble_eq_true_of_le q).symm
      · rw [decide_eq_false q]
        cases z : Nat.blt (rank n lt i) (rank n lt j) with
        | false => rfl
        | true => exact absurd (Nat.le_of_ble_eq_true z) q
    have o := ok.1
    unfold okSort at o
    simp only [Bool.and_eq_true] at o
    rw [← e] at o
    have hp := List.isPerm_iff.mp o.2
    refine ⟨hp, ?_⟩
    have hr := rises_pairwise o.1
    refine List.Pairwise.imp_of_mem (fun {x y} hx hy q => ?_) hr
    have hx' := List.mem_range.mp (hp.mem_iff.mp hx)
    have hy' := List.mem_range.mp (hp.mem_iff.mp hy)
    rw [hg x hx', hg y hy'] at q
    rcases q with q | ⟨q1, q2⟩
    · left; rw [rank_lt h hx' hy']; exact decide_eq_true q
    · right; refine ⟨?_, q2⟩; rw [rank_lt h hy' hx', q1]; simp
end Mine
end

section
-- P4
open PySem PySem.W PyProof.Rows PySem.Spec PySem.Calls
set_option maxRecDepth 100000
namespace Mine
theorem soon_neg {x y : Job} : soonerZ x y < 0 ↔ (sortB x = true ∧ sortB y = false) ∨ (sortB x = true ∧ sortB y = true ∧ x.a + x.b < y.a + y.b) ∨ (sortB x = false ∧ sortB y = false ∧ y.b + y.c < x.b + x.c) := by
  rcases soon_cases x y with ⟨e1, e2, e3⟩ | ⟨e1, e2, e3⟩ | ⟨e1, e2, e3⟩ | ⟨e1, e2, e3⟩ <;> rw [e1, e2, e3] <;> simp <;> omega
theorem soon_asym {x y : Job} (h : soonerZ x y < 0) : ¬ soonerZ y x < 0 := by
  rw [soon_neg] at h ⊢
  rcases h with ⟨a, b⟩ | ⟨a, b, q⟩ | ⟨a, b, q⟩ <;> simp [a, b] <;> omega
theorem soon_trans {x y z : Job} (h : soonerZ x y < 0) : soonerZ x z < 0 ∨ soonerZ z y < 0 := by
  rw [soon_neg] at h
  rw [soon_neg, soon_neg]
  cases hz : sortB z <;> rcases h with ⟨a, b⟩ | ⟨a, b, q⟩ | ⟨a, b, q⟩ <;> simp [a, b] <;> omega
theorem soonLt_at {js : List JK} {i j : Nat} (hi : i < js.length) (hj : j < js.length) : soonLt js i j = decide (soonerZ (js[i]).1 (js[j]).1 < 0) := by
  unfold soonLt
  rw [List.getElem?_eq_getElem hi, List.getElem?_eq_getElem hj]
theorem soon_weak (js : List JK) : Weak js.length (soonLt js) := by
  refine ⟨fun i j hi hj h => ?_, fun i j k hi hj hk h => ?_⟩
  · rw [soonLt_at hi hj, decide_eq_true_iff] at h
    rw [soonLt_at hj hi, decide_eq_false_iff_not]
    exact soon_asym h
  · rw [soonLt_at hi hj, decide_eq_true_iff] at h
    rw [soonLt_at hi hk, soonLt_at hk hj, decide_eq_true_iff, decide_eq_true_iff]
    exact soon_trans h
theorem soon_perm {js : List JK} (hn : js.length ≤ 5) : ∀ i ∈ sortPerm js.length (soonLt js), i < js.length := fun i h => List.mem_range.mp ((sortPerm_ok hn (soon_weak js)).1.mem_iff.mp h)
def pairsL (js : List JK) : List (List Int × Int) := (rangeL 0 1 js.length).map fun k => (rankL (js.getD k.toNat (⟨0, 0, 0⟩, 0)), k)
theorem pairsL_len (js : List JK) : (pairsL js).length = js.length := by unfold pairsL; rw [List.length_map, rangeL_len]
theorem pairsL_at {js : List JK} {i : Nat} (hi : i < js.length) : (pairsL js)[i]? = some (rankL js[i], (i : Int)) := by
  unfold pairsL
  rw [List.getElem?_map, rangeL_one, List.getElem?_map, List.getElem?_range hi]
  simp [hi]
def pairLt (js : List JK) (i j : Nat) : Bool := match (pairsL js)[i]?, (pairsL js)[j]? with
  | some x, some y => ltPR x y
  | _, _ => false
theorem pairLt_at {js : List JK} {i j : Nat} (hi : i < js.length) (hj : j < js.length) : pairLt js i j = (soonLt js i j || (!soonLt js j i && decide (i < j))) := by
  have e1 := told_eq js[i] js[j]
  have e2 := told_lt js[i] js[j]
  unfold pairLt
  rw [pairsL_at hi, pairsL_at hj, soonLt_at hi hj, soonLt_at hj hi]
  unfold ltPR
  simp only [e1, e2]
  have s1 : soonerZ js[i].1 js[j].1 = 0 ↔ ¬ soonerZ js[i].1 js[j].1 < 0 ∧ ¬ soonerZ js[j].1 js[i].1 < 0 := by
    rw [soon_neg, soon_neg]
    rcases soon_cases js[i].1 js[j].1 with ⟨e1, e2, e3⟩ | ⟨e1, e2, e3⟩ | ⟨e1, e2, e3⟩ | ⟨e1, e2, e3⟩ <;> rw [e3] <;> simp [e1, e2] <;> omega
  by_cases q : soonerZ js[i].1 js[j].1 = 0
  · have := s1.mp q
    simp [q, this.2]
  · by_cases q2 : soonerZ js[i].1 js[j].1 < 0
    · simp [q, q2]
    · have q3 : soonerZ js[j].1 js[i].1 < 0 := by
        by_cases q4 : soonerZ js[j].1 js[i].1 < 0
        · exact q4
        · exact absurd (s1.mpr ⟨q2, q4⟩) q
      simp [q, q2, q3]
theorem pair_weak (js : List JK) : Weak js.length (pairLt js) := by
  have W := soon_weak js
  refine ⟨fun i j hi hj h => ?_, fun i j k hi hj hk h => ?_⟩
  · rw [pairLt_at hi hj] at h
    rw [pairLt_at hj hi]
    cases q1 : soonLt js i j with
    | true => rw [W.asym i j hi hj q1]; simp
    | false =>
      cases q2 : soonLt js j i with
      | true => rw [q1, q2] at h; simp at h
      | false => rw [q1, q2] at h; simp at h ⊢; omega
  · rw [pairLt_at hi hj] at h
    rw [pairLt_at hi hk, pairLt_at hk hj]
    cases q1 : soonLt js i j with
    | true =>
      rcases W.neg i j k hi hj hk q1 with e | e
      · rw [e]; simp
      · rw [e]; simp
    | false =>
      cases q2 : soonLt js j i with
      | true => rw [q1, q2] at h; simp at h
      | false =>
        rw [q1, q2] at h
        have hij : i < j := by simpa using h
        cases q3 : soonLt js i k with
        | true => simp
        | false =>
          cases q4 : soonLt js k j with
          | true => simp
          | false =>
            cases q5 : soonLt js k i with
            | true =>
              rcases W.neg k i j hk hi hj q5 with e | e
              · rw [e] at q4; cases q4
              · rw [e] at q2; cases q2
            | false =>
              cases q6 : soonLt js j k with
              | true =>
                rcases W.neg j k i hj hk hi q6 with e | e
                · rw [e] at q2; cases q2
                · rw [e] at q3; cases q3
              | false => simp; omega
end Mine
end

section
-- P5
open PySem PySem.W PyProof.Rows PySem.Spec PySem.Calls
set_option maxRecDepth 100000
namespace Mine
theorem perm_sorted {α : Type} {R : α → α → Prop} : ∀ {l1 l2 : List α}, (∀ a ∈ l1, ∀ b ∈ l1, R a b → ¬ R b a) → l1.Perm l2 → l1.Pairwise R → l2.Pairwise R → l1 = l2
  | [], l2, _, p, _, _ => (List.Perm.nil_eq p)
  | a :: t1, [], _, p, _, _ => by have := p.length_eq; simp at this
  | a :: t1, b :: t2, as, p, h1, h2 => by
    by_cases q : a = b
    · subst q
      have p' : t1.Perm t2 := (List.perm_cons a).mp p
      rw [perm_sorted (fun x hx y hy => as x (List.mem_cons_of_mem _ hx) y (List.mem_cons_of_mem _ hy)) p' (List.pairwise_cons.mp h1).2 (List.pairwise_cons.mp h2).2]
    · have ha : a ∈ t2 := (List.mem_cons.mp (p.mem_iff.mp List.mem_cons_self)).resolve_left q
      have hb : b ∈ t1 := (List.mem_cons.mp (p.mem_iff.mpr List.mem_cons_self)).resolve_left fun z => q z.symm
      exact absurd ((List.pairwise_cons.mp h2).1 a ha) (as a List.mem_cons_self b (List.mem_cons_of_mem _ hb) ((List.pairwise_cons.mp h1).1 b hb))
theorem sort_same {js : List JK} (hn : js.length ≤ 5) : sortPerm js.length (soonLt js) = sortPerm js.length (pairLt js) := by
  obtain ⟨p1, s1⟩ := sortPerm_ok hn (soon_weak js)
  obtain ⟨p2, s2⟩ := sortPerm_ok hn (pair_weak js)
  have b1 : ∀ i ∈ sortPerm js.length (soonLt js), i < js.length := fun i h => List.mem_range.mp (p1.mem_iff.mp h)
  have b2 : ∀ i ∈ sortPerm js.length (pairLt js), i < js.length := fun i h => List.mem_range.mp (p2.mem_iff.mp h)
  refine perm_sorted (R := fun i j => pairLt js i j = true) (fun a ha b hb h => ?_) (p1.trans p2.symm) ?_ ?_
  · rw [(pair_weak js).asym a b (b1 a ha) (b1 b hb) h]; simp
  · refine s1.imp_of_mem fun {x y} hx hy h => ?_
    rw [pairLt_at (b1 x hx) (b1 y hy)]
    rcases h with h | ⟨h, q⟩
    · rw [h]; rfl
    · rw [h]; simp [q]
  · refine s2.imp_of_mem fun {x y} hx hy h => ?_
    rcases h with h | ⟨h, q⟩
    · exact h
    · rw [pairLt_at (b2 y hy) (b2 x hx)] at h
      rw [pairLt_at (b2 x hx) (b2 y hy)]
      have e : soonLt js y x = false := by
        cases z : soonLt js y x with
        | false => rfl
        | true => rw [z] at h; cases h
      rw [e]; simp [q]
theorem permL_map2 {α : Type} {xs : List α} {f : Nat → α} : ∀ {p : List Nat}, (∀ i ∈ p, xs[i]? = some (f i)) → permL p xs = p.map f
  | [], _ => rfl
  | i :: p, h => by
    unfold permL
    rw [List.filterMap_cons, h i List.mem_cons_self]
    show f i :: permL p xs = _
    rw [permL_map2 fun j hj => h j (List.mem_cons_of_mem _ hj)]
    rfl
theorem ids_eq {js : List JK} (hn : js.length ≤ 5) (hid : ∀ i (h : i < js.length), (js[i]).2 = (i : Int)) : (permL (sortPerm js.length (soonLt js)) js).map (·.2) = (permL (sortPerm js.length (pairLt js)) (pairsL js)).map (·.2) := by
  rw [← sort_same hn]
  have b1 := soon_perm hn
  rw [permL_map2 (f := fun i => js.getD i (⟨0, 0, 0⟩, 0)) fun i hi => by rw [List.getElem?_eq_getElem (b1 i hi)]; simp [b1 i hi]]
  rw [permL_map2 (f := fun i => (rankL (js.getD i (⟨0, 0, 0⟩, 0)), (i : Int))) fun i hi => by rw [pairsL_at (b1 i hi)]; simp [b1 i hi]]
  rw [List.map_map, List.map_map]
  refine List.map_congr_left fun i hi => ?_
  show (js.getD i _).2 = (i : Int)
  rw [← hid i (b1 i hi)]
  simp [b1 i hi]
theorem ids_len {js : List JK} (hn : js.length ≤ 5) : (permL (sortPerm js.length (soonLt js)) js).length = js.length := by
  have b1 := soon_perm hn
  rw [permL_map2 (f := fun i => js.getD i (⟨0, 0, 0⟩, 0)) fun i hi => by rw [List.getElem?_eq_getElem (b1 i hi)]; simp [b1 i hi], List.length_map, (sortPerm_ok hn (soon_weak js)).1.length_eq, List.length_range]
theorem jobsL_id (ns : List Int) : ∀ i (h : i < (jobsL ns).length), ((jobsL ns)[i]).2 = (i : Int) := fun i h => by simp [jobsL, jobK2]
end Mine
end

section
-- P7
open PySem PySem.W PyProof.Rows PySem.Spec PySem.Calls
set_option maxRecDepth 100000
namespace Mine
theorem getD_lt {α : Type} {l : List α} {i : Nat} (d : α) (h : i < l.length) : l.getD i d = l[i] := by
  rw [List.getD_eq_getElem?_getD, List.getElem?_eq_getElem h]; rfl
theorem getD_ge {α : Type} {l : List α} {i : Nat} (d : α) (h : l.length ≤ i) : l.getD i d = d := by
  rw [List.getD_eq_getElem?_getD, List.getElem?_eq_none h]; rfl
theorem absZ_nn (x : Int) : 0 ≤ absZ x := by unfold absZ; split <;> omega
theorem le_maxL {l : List Int} {x : Int} (h : x ∈ l) : x ≤ maxL l := by
  cases l with
  | nil => cases h
  | cons y r => exact (foldl_max r y).2 _ h
theorem secL_mem {ns : List Int} {x : Int} (h : x ∈ secL ns) : 0 ≤ x ∧ (sideN ns = 2 → x = 0) ∧ x ≤ longN ns := by
  refine ⟨?_, fun h2 => ?_, le_maxL h⟩
  · unfold secL at h
    obtain ⟨y, _, rfl⟩ := List.mem_map.mp h
    split
    · exact Int.le_refl _
    · exact absZ_nn y
  · unfold secL at h
    obtain ⟨y, _, rfl⟩ := List.mem_map.mp h
    exact if_pos h2
theorem secL_get (ns : List Int) (k : Nat) (h : k < manyN ns) : 0 ≤ (secL ns).getD k 0 ∧ (sideN ns = 2 → (secL ns).getD k 0 = 0) ∧ (secL ns).getD k 0 ≤ longN ns := by
  refine secL_mem ?_
  rw [← secL_len ns] at h
  generalize secL ns = l at h
  rw [getD_lt _ h]
  exact List.getElem_mem _
theorem jobsL_mem {ns : List Int} {x : Job} (h : x ∈ (jobsL ns).map (·.1)) : ∃ k, k < manyN ns ∧ x = (jobK2 ns k).1 := by
  obtain ⟨p, hp, rfl⟩ := List.mem_map.mp h
  obtain ⟨k, hk, rfl⟩ := List.mem_map.mp hp
  exact ⟨k, List.mem_range.mp hk, rfl⟩
theorem add_if_le (x y : Int) (p : Prop) [Decidable p] (hx : 0 ≤ x) (hy : 0 ≤ y) : 0 ≤ x + (if p then y else 0) ∧ (p → y ≤ x + (if p then y else 0)) := by
  split
  · exact ⟨by omega, fun _ => by omega⟩
  · exact ⟨by omega, fun q => absurd q (by assumption)⟩
theorem jobK2_a (ns : List Int) (k : Nat) : (jobK2 ns k).1.a = absZ (cellK ns (2 + k)) + (if sideN ns = 0 then longN ns else 0) := by unfold jobK2; dsimp only
theorem jobK2_b (ns : List Int) (k : Nat) : (jobK2 ns k).1.b = (secL ns).getD k 0 := by unfold jobK2; dsimp only
theorem jobK2_c (ns : List Int) (k : Nat) : (jobK2 ns k).1.c = absZ (cellK ns (12 + k)) + (if sideN ns = 1 then longN ns else 0) := by unfold jobK2; dsimp only
theorem job_bounds {ns : List Int} {k : Nat} (h : k < manyN ns) : (0 ≤ (jobK2 ns k).1.b ∧ (jobK2 ns k).1.b ≤ longN ns ∧ (sideN ns = 2 → (jobK2 ns k).1.b = 0)) ∧ (0 ≤ (jobK2 ns k).1.a ∧ (sideN ns = 0 → longN ns ≤ (jobK2 ns k).1.a)) ∧ (0 ≤ (jobK2 ns k).1.c ∧ (sideN ns = 1 → longN ns ≤ (jobK2 ns k).1.c)) := by
  obtain ⟨h1, h2, h3⟩ := secL_get ns k h
  have hl : 0 ≤ longN ns := Int.le_trans h1 h3
  rw [jobK2_a, jobK2_b, jobK2_c]
  have a1 := absZ_nn (cellK ns (2 + k))
  have a2 := absZ_nn (cellK ns (12 + k))
  generalize absZ (cellK ns (2 + k)) = A1 at *
  generalize absZ (cellK ns (12 + k)) = A2 at *
  exact ⟨⟨h1, h3, h2⟩, add_if_le _ _ _ a1 hl, add_if_le _ _ _ a2 hl⟩
theorem jobsL_nn (ns : List Int) : NonNeg ((jobsL ns).map (·.1)) := fun x hx => by
  obtain ⟨k, hk, rfl⟩ := jobsL_mem hx
  obtain ⟨b, a, c⟩ := job_bounds hk
  exact ⟨a.1, b.1, c.1⟩
theorem side_cases (ns : List Int) : sideN ns = 0 ∨ sideN ns = 1 ∨ sideN ns = 2 := by
  have h1 := Int.fmod_nonneg_of_pos (cellK ns 1) (show (0 : Int) < 3 by decide)
  have h2 := Int.fmod_lt_of_pos (cellK ns 1) (show (0 : Int) < 3 by decide)
  unfold sideN
  generalize (cellK ns 1).fmod 3 = z at *
  omega
theorem jobsL_dom (ns : List Int) : Dom ((jobsL ns).map (·.1)) := by
  rcases side_cases ns with q | q | q
  · refine .inl fun x hx y hy => ?_
    obtain ⟨k, hk, rfl⟩ := jobsL_mem hx
    obtain ⟨k', hk', rfl⟩ := jobsL_mem hy
    exact Int.le_trans (job_bounds hk).1.2.1 ((job_bounds hk').2.1.2 q)
  · refine .inr fun x hx y hy => ?_
    obtain ⟨k, hk, rfl⟩ := jobsL_mem hx
    obtain ⟨k', hk', rfl⟩ := jobsL_mem hy
    exact Int.le_trans (job_bounds hk).1.2.1 ((job_bounds hk').2.2.2 q)
  · refine .inl fun x hx y hy => ?_
    obtain ⟨k, hk, rfl⟩ := jobsL_mem hx
    obtain ⟨k', hk', rfl⟩ := jobsL_mem hy
    rw [(job_bounds hk).1.2.2 q]
    exact (job_bounds hk').2.1.1
def Fp (p g : Nat → Int) : Nat → Int
  | 0 => 0
  | i + 1 => max (Fp p g i) (g i) + p i
theorem passS_at (p : Nat → Int) (L : List Int) : ∀ i, i ≤ L.length → (passS p i (0, L)).1 = Fp p (fun k => L.getD k 0) i ∧ ∀ j, (passS p i (0, L)).2.getD j 0 = if j < i then Fp p (fun k => L.getD k 0) (j + 1) else L.getD j 0
  | 0, _ => ⟨rfl, fun j => by rw [if_neg (Nat.not_lt_zero j)]; rfl⟩
  | i + 1, h => by
    obtain ⟨h1, h2⟩ := passS_at p L i (by omega)
    have hl : (passS p i (0, L)).2.length = L.length := passS_len p (0, L) i
    have e : max (passS p i (0, L)).1 ((passS p i (0, L)).2.getD i 0) + p i = Fp p (fun k => L.getD k 0) (i + 1) := by
      rw [h1, h2 i, if_neg (Nat.lt_irrefl i)]; rfl
    refine ⟨e, fun j => ?_⟩
    show ((passS p i (0, L)).2.set i (max (passS p i (0, L)).1 ((passS p i (0, L)).2.getD i 0) + p i)).getD j 0 = _
    rw [e, List.getD_eq_getElem?_getD, List.getElem?_set]
    by_cases q : i = j
    · subst q
      rw [if_pos rfl, if_pos (by omega), if_pos (Nat.lt_succ_self _)]; rfl
    · rw [if_neg q, ← List.getD_eq_getElem?_getD, h2 j]
      by_cases q2 : j < i
      · rw [if_pos q2, if_pos (by omega)]
      · rw [if_neg q2, if_neg (by omega)]
theorem Fp_congr {p g g' : Nat → Int} : ∀ i, (∀ k, k < i → g k = g' k) → Fp p g i = Fp p g' i
  | 0, _ => rfl
  | i + 1, h => by show max _ _ + _ = max _ _ + _; rw [Fp_congr i fun k hk => h k (by omega), h i (by omega)]
theorem Fp_nn {p g : Nat → Int} (hp : ∀ k, 0 ≤ p k) : ∀ i, 0 ≤ Fp p g i ∧ Fp p g i ≤ Fp p g (i + 1)
  | 0 => by
    have := hp 0
    exact ⟨Int.le_refl _, by show (0 : Int) ≤ max 0 (g 0) + p 0; omega⟩
  | i + 1 => by
    have := hp (i + 1)
    obtain ⟨h1, h2⟩ := Fp_nn (g := g) hp i
    refine ⟨by omega, ?_⟩
    show Fp p g (i + 1) ≤ max (Fp p g (i + 1)) (g (i + 1)) + p (i + 1)
    omega
theorem Fp_mono {p g : Nat → Int} (hp : ∀ k, 0 ≤ p k) {i : Nat} : ∀ d, Fp p g i ≤ Fp p g (i + d)
  | 0 => Int.le_refl _
  | d + 1 => Int.le_trans (Fp_mono hp d) (Fp_nn hp (i + d)).2
abbrev pm (js : List Job) (m : Nat) : Nat → Int := fun i => mach (js.getD i ⟨0, 0, 0⟩) m
theorem doneE_at (js : List Job) (m : Nat) (j : Nat) : (doneE js (m + 1)).getD j 0 = if j < js.length then Fp (pm js m) (fun k => (doneE js m).getD k 0) (j + 1) else (doneE js m).getD j 0 :=
  (passS_at (pm js m) (doneE js m) js.length (by rw [doneE_len]; omega)).2 j
theorem done0 (js : List Job) (j : Nat) : (doneE js 0).getD j 0 = 0 := by
  show (List.replicate _ _).getD j 0 = 0
  rw [List.getD_eq_getElem?_getD, List.getElem?_replicate]
  split <;> rfl
theorem done_last (js : List Job) : ∀ m j, js.length ≤ j → (doneE js m).getD j 0 = 0
  | 0, j, _ => done0 js j
  | m + 1, j, h => by rw [doneE_at, if_neg (by omega), done_last js m j h]
def f0 (js : List Job) : Nat → Int := Fp (pm js 0) fun _ => 0
def f1 (js : List Job) : Nat → Int := Fp (pm js 1) fun k => f0 js (k + 1)
def f2 (js : List Job) : Nat → Int := Fp (pm js 2) fun k => f1 js (k + 1)
theorem pm_nn {js : List Job} (nn : NonNeg js) (m k : Nat) : 0 ≤ pm js m k := by
  show 0 ≤ mach (js.getD k ⟨0, 0, 0⟩) m
  have : 0 ≤ (js.getD k ⟨0, 0, 0⟩).a ∧ 0 ≤ (js.getD k ⟨0, 0, 0⟩).b ∧ 0 ≤ (js.getD k ⟨0, 0, 0⟩).c := by
    by_cases h : k < js.length
    · rw [getD_lt _ h]
      exact nn _ (List.getElem_mem _)
    · rw [getD_ge _ (by omega)]
      exact ⟨Int.le_refl _, Int.le_refl _, Int.le_refl _⟩
  unfold mach
  split
  · exact this.1
  · split
    · exact this.2.1
    · exact this.2.2
theorem mk3_take {js : List Job} (nn : NonNeg js) : ∀ i, i ≤ js.length → mk3 (js.take i) = (f0 js i, f1 js i, f2 js i)
  | 0, _ => rfl
  | i + 1, h => by
    have hi : i < js.length := by omega
    rw [List.take_add_one, List.getElem?_eq_getElem hi]
    show mk3 (js.take i ++ [js[i]]) = _
    rw [mk3_snoc, mk3_take nn i (by omega)]
    have e : js.getD i ⟨0, 0, 0⟩ = js[i] := getD_lt _ hi
    have e0 : f0 js (i + 1) = f0 js i + js[i].a := by
      show max (f0 js i) 0 + mach (js.getD i ⟨0, 0, 0⟩) 0 = _
      rw [e]
      have := (Fp_nn (g := fun _ => 0) (pm_nn nn 0) i).1
      have : 0 ≤ f0 js i := this
      show max (f0 js i) 0 + js[i].a = _
      omega
    have e1 : f1 js (i + 1) = max (f1 js i) (f0 js (i + 1)) + js[i].b := by
      show max (f1 js i) (f0 js (i + 1)) + mach (js.getD i ⟨0, 0, 0⟩) 1 = _
      rw [e]; rfl
    have e2 : f2 js (i + 1) = max (f2 js i) (f1 js (i + 1)) + js[i].c := by
      show max (f2 js i) (f1 js (i + 1)) + mach (js.getD i ⟨0, 0, 0⟩) 2 = _
      rw [e]; rfl
    rw [e2, e1, e0]
    rfl
theorem done1 (js : List Job) (j : Nat) (h : j < js.length) : (doneE js 1).getD j 0 = f0 js (j + 1) := by
  rw [doneE_at, if_pos h]
  exact Fp_congr _ fun k _ => done0 js k
theorem done2 (js : List Job) (j : Nat) (h : j < js.length) : (doneE js 2).getD j 0 = f1 js (j + 1) := by
  rw [doneE_at, if_pos h]
  exact Fp_congr _ fun k hk => done1 js k (by omega)
theorem done3 (js : List Job) (j : Nat) (h : j < js.length) : (doneE js 3).getD j 0 = f2 js (j + 1) := by
  rw [doneE_at, if_pos h]
  exact Fp_congr _ fun k hk => done2 js k (by omega)
theorem done_mk {js : List Job} (nn : NonNeg js) : maxL (doneE js 3) = mk js := by
  have e : mk js = f2 js js.length := by
    have := mk3_take nn js.length (Nat.le_refl _)
    rw [List.take_length] at this
    show (mk3 js).2.2 = _
    rw [this]
  rw [e]
  symm
  have hl := doneE_len js 3
  refine maxL_is ?_ fun y hy => ?_
  · cases hn : js.length with
    | zero =>
      have : (doneE js 3).getD 0 0 = 0 := done_last js 3 0 (by omega)
      rw [getD_lt _ (by omega)] at this
      have h2 : (doneE js 3)[0]'(by omega) ∈ doneE js 3 := List.getElem_mem _
      rw [this] at h2
      exact h2
    | succ n =>
      have := done3 js n (by omega)
      rw [getD_lt _ (by omega)] at this
      rw [← this]
      exact List.getElem_mem _
  · obtain ⟨j, hj, rfl⟩ := List.mem_iff_getElem.mp hy
    rw [← getD_lt 0 hj]
    by_cases q : j < js.length
    · rw [done3 js j q]
      have := Fp_mono (g := fun k => f1 js (k + 1)) (pm_nn nn 2) (i := j + 1) (js.length - (j + 1))
      rw [show j + 1 + (js.length - (j + 1)) = js.length by omega] at this
      exact this
    · rw [done_last js 3 j (by omega)]
      exact (Fp_nn (g := fun k => f1 js (k + 1)) (pm_nn nn 2) js.length).1
end Mine
end

section
-- P6
open PySem PySem.W PyProof.Rows PySem.Spec PySem.Calls
set_option maxRecDepth 100000
namespace Mine
theorem foldl_fst (p : List JK) : ∀ e, p.foldl (fun e (q : JK) => step3 e q.1) e = (p.map (·.1)).foldl step3 e := fun e => by rw [List.foldl_map]
def doneL (o : List JK) : Int := maxL (doneE (o.map (·.1)) 3)
theorem soon_p {x : Job} : sortB x = decide (x.p < x.q) := by
  unfold sortB Job.p Job.q
  by_cases h : x.a < x.c
  · rw [decide_eq_true h, decide_eq_true (by omega)]
  · rw [decide_eq_false h, decide_eq_false (by omega)]
theorem rule_soon {x y : Job} (h : ¬ soonerZ x y < 0) : 0 ≤ x.rule y := by
  rw [soon_neg, soon_p, soon_p] at h
  unfold Job.rule
  unfold Job.p Job.q at *
  by_cases h1 : x.a + x.b < x.b + x.c
  · by_cases h2 : y.a + y.b < y.b + y.c
    · rw [if_pos h1, if_pos h2]
      simp [h1, h2] at h
      omega
    · simp [h1, h2] at h
  · by_cases h2 : y.a + y.b < y.b + y.c
    · rw [if_neg h1, if_pos h2]; omega
    · rw [if_neg h1, if_neg h2]
      simp [h1, h2] at h
      omega
theorem soL_perm {js : List JK} (hn : js.length ≤ 5) : (permL (sortPerm js.length (soonLt js)) js).Perm js := by
  obtain ⟨hp, _⟩ := sortPerm_ok hn (soon_weak js)
  have h : (permL (sortPerm js.length (soonLt js)) js).Perm (permL (List.range js.length) js) := hp.filterMap _
  rw [permL_range] at h
  exact h
theorem soL_pair {js : List JK} (hn : js.length ≤ 5) : (permL (sortPerm js.length (soonLt js)) js).Pairwise fun x y => 0 ≤ y.1.rule x.1 := by
  obtain ⟨hp, hr⟩ := sortPerm_ok hn (soon_weak js)
  unfold permL
  rw [List.pairwise_filterMap]
  refine List.Pairwise.imp_of_mem (fun {i j} hi hj s x hx y hy => ?_) hr
  have hi' := soon_perm hn i hi
  have hj' := soon_perm hn j hj
  rw [List.getElem?_eq_getElem hi'] at hx
  rw [List.getElem?_eq_getElem hj'] at hy
  cases hx; cases hy
  rw [soonLt_at hi' hj', soonLt_at hj' hi'] at s
  rcases s with s | ⟨s, _⟩
  · exact rule_soon (soon_asym (of_decide_eq_true s))
  · exact rule_soon (of_decide_eq_false s)
theorem part_best {js : List JK} (hn : js.length ≤ 5) (nn : NonNeg (js.map (·.1))) (dd : Dom (js.map (·.1))) (k : Nat) : mk (((permL (sortPerm js.length (soonLt js)) js).take k).map (·.1)) = minL ((ordersOf ((permL (sortPerm js.length (soonLt js)) js).take k)).map doneL) := by
  have hp := soL_perm hn
  have hs := soL_pair hn
  generalize permL (sortPerm js.length (soonLt js)) js = so at hp hs ⊢
  have hsub : ∀ {l : List JK}, l.Perm (so.take k) → ∀ x ∈ l.map (·.1), x ∈ js.map (·.1) := by
    intro l h x hx
    obtain ⟨p, hq, rfl⟩ := List.mem_map.mp hx
    exact List.mem_map.mpr ⟨p, hp.mem_iff.mp (List.mem_of_mem_take (h.mem_iff.mp hq)), rfl⟩
  have nnl : ∀ {l : List JK}, l.Perm (so.take k) → NonNeg (l.map (·.1)) := fun h x hx => nn x (hsub h x hx)
  have hpw : ((so.take k).map (·.1)).Pairwise fun x y => 0 ≤ y.rule x := by
    rw [List.pairwise_map]
    exact hs.sublist (List.take_sublist k so)
  refine minL_is (List.mem_map.mpr ⟨so.take k, (mem_ordersOf _ _).mpr (List.Perm.refl _), done_mk (nnl (List.Perm.refl _))⟩) fun y hy => ?_
  obtain ⟨o, ho, rfl⟩ := List.mem_map.mp hy
  have h1 := (mem_ordersOf _ _).mp ho
  show _ ≤ maxL (doneE (o.map (·.1)) 3)
  rw [done_mk (nnl h1)]
  exact johnson (h1.symm.map _) hpw (nnl (List.Perm.refl _)) (dd.sub (hsub (List.Perm.refl _)))
def dueK (so : List JK) (k : Nat) : Int := ((so.take (k + 1)).map fun p => p.1.a).sum + (so.getD k (⟨0, 0, 0⟩, 0)).1.b + ((so.drop k).map fun p => p.1.c).sum
abbrev swapJ (p : JK) : Job := ⟨p.1.c, p.1.b, p.1.a⟩
theorem sum_swap_a (l : List JK) : sumBy Job.a (l.reverse.map swapJ) = (l.map fun p => p.1.c).sum := by
  unfold sumBy
  rw [List.map_map, ← List.sum_reverse, ← List.map_reverse, List.reverse_reverse]
  rfl
theorem sum_swap_c (l : List JK) : sumBy Job.c (l.reverse.map swapJ) = (l.map fun p => p.1.a).sum := by
  unfold sumBy
  rw [List.map_map, ← List.sum_reverse, ← List.map_reverse, List.reverse_reverse]
  rfl
theorem due_road {pre post : List JK} {x : JK} : dueK (pre ++ x :: post) pre.length = road (post.reverse.map swapJ) (swapJ x) (pre.reverse.map swapJ) := by
  unfold road
  rw [sum_swap_a, sum_swap_c]
  unfold dueK
  have e1 : (pre ++ x :: post).take (pre.length + 1) = pre ++ [x] := by
    rw [show pre ++ x :: post = (pre ++ [x]) ++ post by simp, show pre.length + 1 = (pre ++ [x]).length by simp, List.take_left]
  have e2 : (pre ++ x :: post).getD pre.length (⟨0, 0, 0⟩, 0) = x := by
    rw [List.getD_eq_getElem?_getD, List.getElem?_append_right (Nat.le_refl _), Nat.sub_self]; rfl
  have e3 : (pre ++ x :: post).drop pre.length = x :: post := List.drop_left
  rw [e1, e2, e3, List.map_append, List.sum_append, List.map_cons, List.map_cons, List.map_nil, List.sum_cons, List.sum_cons, List.sum_nil]
  show _ = _ + x.1.c + x.1.b + x.1.a + _
  omega
theorem rev_road {pre post : List JK} {x : JK} : (pre ++ x :: post).reverse.map swapJ = post.reverse.map swapJ ++ swapJ x :: pre.reverse.map swapJ := by simp
theorem due_eq {so : List JK} (nn : NonNeg (so.map (·.1))) (dd : Dom (so.map (·.1))) (h1 : 0 < so.length) : (mk3 ((so.reverse.map fun p => (⟨p.1.c, p.1.b, p.1.a⟩ : Job)))).2.2 = maxL ((List.range so.length).map (dueK so)) := by
  have hm : ∀ {x : Job}, x ∈ so.reverse.map swapJ → ∃ y ∈ so.map (·.1), x.a = y.c ∧ x.b = y.b ∧ x.c = y.a := by
    intro x hx
    obtain ⟨p, hp, rfl⟩ := List.mem_map.mp hx
    exact ⟨p.1, List.mem_map.mpr ⟨p, List.mem_reverse.mp hp, rfl⟩, rfl, rfl, rfl⟩
  have nn' : NonNeg (so.reverse.map swapJ) := fun x hx => by
    obtain ⟨y, hy, e1, e2, e3⟩ := hm hx
    obtain ⟨a, b, c⟩ := nn y hy
    exact ⟨by omega, by omega, by omega⟩
  have dd' : Dom (so.reverse.map swapJ) := by
    rcases dd with d | d
    · refine .inr fun x hx y hy => ?_
      obtain ⟨x', hx', e1, e2, e3⟩ := hm hx
      obtain ⟨y', hy', f1, f2, f3⟩ := hm hy
      have := d x' hx' y' hy'
      omega
    · refine .inl fun x hx y hy => ?_
      obtain ⟨x', hx', e1, e2, e3⟩ := hm hx
      obtain ⟨y', hy', f1, f2, f3⟩ := hm hy
      have := d x' hx' y' hy'
      omega
  show mk (so.reverse.map swapJ) = _
  refine maxL_is ?_ fun y hy => ?_
  · rcases road_eq _ nn' dd' with e | ⟨pre, x, post, e, hr⟩
    · have := congrArg List.length e
      simp at this
      subst this
      exact absurd h1 (by simp)
    · obtain ⟨l1, l2, e1, rfl, e2⟩ := List.map_eq_append_iff.mp e
      obtain ⟨z, l3, rfl, rfl, rfl⟩ := List.map_eq_cons_iff.mp e2
      have e3 : so = l3.reverse ++ z :: l1.reverse := by
        have := congrArg List.reverse e1
        rw [List.reverse_reverse] at this
        rw [this]; simp
      rw [hr]
      refine List.mem_map.mpr ⟨l3.reverse.length, List.mem_range.mpr (by rw [e3]; simp), ?_⟩
      rw [e3, due_road, List.reverse_reverse, List.reverse_reverse]
  · obtain ⟨k, hk, rfl⟩ := List.mem_map.mp hy
    have hk' := List.mem_range.mp hk
    have e3 : so = so.take k ++ so[k] :: so.drop (k + 1) := by
      rw [← List.drop_eq_getElem_cons hk', List.take_append_drop]
    have hl : (so.take k).length = k := by rw [List.length_take]; omega
    have e4 : dueK so k = road ((so.drop (k + 1)).reverse.map swapJ) (swapJ so[k]) ((so.take k).reverse.map swapJ) := by
      rw [← due_road, hl, ← e3]
    rw [e4]
    refine road_le _ _ _ _ ?_
    rw [← rev_road, ← e3]
end Mine
end

section
-- D4
open PySem PySem.W PyProof.Rows PySem.Spec PySem.Calls
set_option maxRecDepth 100000
set_option maxHeartbeats 8000000
namespace Mine
theorem KTab.butD {h h' : Heap} {D : Addr} {od : Obj} {its : Array Value} {n : Nat} (x : KTab h) (hD : h.get? D = some od) (hs : od.data = .seq its n) (k : ∀ b o, h.get? b = some o → b ≠ D → h'.get? b = some o) : KTab h' := by
  have kf : ∀ {a : Addr} {o : Obj} {vs : Array Value}, h.get? a = some o → o.data = .fields vs → h'.get? a = some o := fun {a o vs} e d => k _ _ e fun q => by
    subst q
    rw [hD] at e; cases e; rw [d] at hs; cases hs
  rcases x with e | ⟨kk, t, ⟨b0, t0, t1, t2, t3, t4, e⟩, kt, m0, m1, m2, m3, m4, m5⟩
  · exact .inl (kf e rfl)
  · have hm : ∀ {a n l}, IsCodeO h a n l → IsCodeO h' a n l := fun ⟨cb, ct, e⟩ => ⟨cb, ct, kf e rfl⟩
    exact .inr ⟨kk, kf t rfl, ⟨b0, t0, t1, t2, t3, t4, kf e rfl⟩, kf kt rfl, hm m0, hm m1, hm m2, hm m3, hm m4, hm m5⟩
theorem not16 {h0 h : Heap} {env : Env} {V : Vs} (F : Fm h0 env h V) (t : KTab h) : ¬ Wr env 16 := by
  obtain ⟨vs, e⟩ := t.at16
  exact F.notWr e ⟨fun _ _ q => (by cases q), fun _ q => (by cases q)⟩
theorem c_law2 {c : Cx} (hy : Cy c) (hX : c.X = []) (hR : Room c.A 13) (hd : c.A.depth ≤ 400) (hu : c.A.units ≤ 1900) {h0 h1 : Heap} {tk : Nat} {mg mb : Str → Option Value} {u : Value} {ns : List Int} {Q : Value → Shared → Prop} {E : Value → Shared → Prop}
    (k0 : Kept h0 h1) (h16 : h0.get? 16 = none) (L : LBase2 c.w mg mb h0) (ht : KTab h1) (hul : isL isI ns u h0) (hn : ns.length < 64)
    (hq : ∀ h3 tk3, Kept h0 h3 → KTab h3 → Q (.bool true) (c.sh h3 tk3)) : wpAny c.M c.A (call (.ref 59) [u]) Q E (c.sh h1 tk) := by
  obtain ⟨prog, w, A, g, d, os, X⟩ := c
  obtain rfl : X = [] := hX
  have hd' : A.depth ≤ 400 := hd
  have hu' : A.units ≤ 1900 := hu
  have G := L.G
  refine enter_at (P := fun v h => isB true v h ∧ KTab h) (h0 := h0) (c := ⟨prog, w, A, g, d, os, []⟩) (binds := [(Str.ofString "script", u)]) rfl k0 (k0 _ _ (G.X _ _ (show (hdx.heap_39 w.params).lookup 59 = some _ by k_is) rfl)) rfl ((G.code rfl (by rfl)).keeps k0) (G.lim.keeps k0) (hR.le (by decide)) (fun s _ => BindsTo.of_eq rfl) (by rfl) (by rfl) (by decide +kernel) (fun h2 LL kb F hwr => ?_) (fun v h3 tk3 k3 p => by obtain ⟨e, p⟩ := p; cases e; exact hq h3 tk3 k3 p)
  have hh := hR.handled
  have script := F.var (P := isL isI ns) (x := Str.ofString "script") rfl (Mo.mo hul F.kept.stay)
  have hsz : ns.length ≤ sizeLine := by rw [sizeLine_eq]; omega
  have t2 := ht.keeps kb
  refine Ex.assign (P1 := isL isI base2) F (Ev.list (R := isI) (xs := base2) (EL.cons .cint (EL.cons .cint (EL.cons .cint (EL.cons .cint (EL.cons .cint (EL.cons .cint (EL.cons .cint (EL.cons .cint (EL.cons .cint (EL.cons .cint (EL.cons .cint (EL.cons .cint (EL.cons .cint (EL.cons .cint (EL.cons .cint (EL.cons .cint (EL.cons .cint EL.nil)))))))))))))))))) (fun v1 h3 F3 kb3 s3 p1 => ?_) (hs := by with_unfolding_all rfl)
  have g3 := G.at F3.kept
  have u3 : isL isI ns u h3 := Mo.mo hul F3.kept.stay
  have t3 := t2.strg (F.toFm.str kb3)
  refine Ex.assignComp0 (R := isI) (S := isI) (xs := rangeL 0 1 17) F3 (by exact hh) (Ev.itR (Ev.range (n := 17) (g3.bi (by k_is) (by boot_by_name)) .cint (by decide))) (fun k => cellK ns k.toNat) (fun y w C D m g hy hw k hn hm => ?_) (by rw [rangeL_len]; decide) rfl fun v2 h4 F4 kb4 s4 p2 => ?_
  · obtain ⟨q, hq, rfl⟩ := rangeL_mem hy
    have hy2 : (0 : Int) + (q : Int) * 1 = (q : Int) := by omega
    rw [hy2] at hw ⊢
    rw [Int.toNat_natCast]
    refine Ev.add (Ev.item (F3.varC (P := isL isI base2) rfl p1 k rfl rfl) (Ev.own hn hm hw) (by omega) (by omega) ?_) (Ev.callB ((g3.at k).bi (by k_is) (by boot_by_name)) (EA.cons (Ev.sliceS (F3.varC (P := isL isI ns) rfl u3 k rfl rfl) (.some (Ev.own hn hm hw)) (.some .cint) .cint (by decide) hsz) EA.nil) fun vs h' _ r => b_sum (by exact hh) r)
    rw [Int.toNat_natCast]
    have : q < base2.length := hq
    rw [List.getD_eq_getElem?_getD, List.getElem?_eq_getElem this]; rfl
  have t4 := t3.strg (F3.toFm.str kb4)
  have g4 := G.at F4.kept
  have cells4 := F4.var (P := isL isI (cellsL ns)) (x := Str.ofString "cells") rfl p2
  obtain ⟨mb1, mb2⟩ := many_bounds ns
  refine Ex.assign (P1 := isI (manyN ns : Int)) F4 (Pu.toI (Ev.add (x := 2) .cint (Ev.mod (x := cellK ns 0) (Ev.item (cells4 _) .cint (by decide) (by decide) (cellsL_at ns 0 (by decide) _ rfl)) .cint (by decide))) (many_eq ns)) fun v3 h5 F5 kb5 s5 p3 => ?_
  have t5 := t4.strg (F4.toFm.str kb5)
  have cells5 := F5.var (P := isL isI (cellsL ns)) (x := Str.ofString "cells") rfl (Mo.mo p2 s5)
  refine Ex.assign (P1 := isI (sideN ns)) F5 (Ev.mod (x := cellK ns 1) (Ev.item (cells5 _) .cint (by decide) (by decide) (cellsL_at ns 1 (by decide) _ rfl)) .cint (by decide)) fun v4 h6 F6 kb6 s6 p4 => ?_
  have t6 := t5.strg (F5.toFm.str kb6)
  have g6 := G.at F6.kept
  have c6 : isL isI (cellsL ns) v2 h6 := Mo.mo (Mo.mo p2 s5) s6
  have cells6 := F6.var (P := isL isI (cellsL ns)) (x := Str.ofString "cells") rfl c6
  have many6 := F6.var (P := isI (manyN ns : Int)) (x := Str.ofString "many") rfl p3
  refine Ex.assignComp0 (R := isI) (S := isI) (xs := pick (cellsL ns) (some 7) (some (7 + (manyN ns : Int))) none) F6 (by exact hh) (Ev.itL (Ev.slice (cells6 _) (.some .cint) (.some (Ev.add .cint (many6 _))) (by unfold cellsL; rw [List.length_map, rangeL_len]; decide))) (fun x => if sideN ns = 2 then 0 else absZ x) (fun y w C D m g hy hw k hn hm => ?_) (by have := secL_len ns; unfold secL at this; rw [List.length_map] at this; rw [this, sizeLine_eq]; omega) rfl fun v5 h7 F7 kb7 s7 p5 => ?_
  · refine Pu.toI (Ev.ifI (z := sideN ns == 2) (Tst.eq (F6.varC (P := isI (sideN ns)) rfl p4 k rfl rfl) .cint) (fun _ => .cint) fun _ => Ev.callB (Ps := [isI y]) ((g6.at k).bi (by k_is) (by boot_by_name)) (EA.cons (Ev.own hn hm hw) EA.nil) fun vs h' _ r => b_abs r) ?_
    simp only [beq_iff_eq]; rfl
  have t7 := t6.strg (F6.toFm.str kb7)
  have g7 := G.at F7.kept
  have sec7 : isL isI (secL ns) v5 h7 := p5
  have second7 := F7.var (P := isL isI (secL ns)) (x := Str.ofString "second") rfl sec7
  refine Ex.assign (P1 := isI (longN ns)) F7 (Ev.callB (Ps := [isL isI (secL ns)]) (g7.bi (by k_is) (by boot_by_name)) (EA.cons (second7 _) EA.nil) fun vs h' _ r => b_max (by exact hh) (by rw [secL_len]; omega) r) fun v6 h8 F8 kb8 s8 p6 => ?_
  have t8 := t7.strg (F7.toFm.str kb8)
  refine Ex.assign (P1 := andC (isL isJ4 []) (isNew (lg ⟨prog, w, A, g, d, os, []⟩ h8))) F8 (Ev.listN (R := isJ4) EL.nil) fun v7 h9 F9 kb9 s9 p7 => ?_
  have t9 := t8.strg (F8.toFm.str kb9)
  obtain ⟨⟨D, vs, n, rfl, hD, ar⟩, hnew⟩ := p7
  have hD0 := new_below F8.kept hnew hD
  obtain rfl : vs = [] := List.length_eq_zero_iff.mp ar.len
  have FD := F9.hide (lg_sub _ _ hD) rfl
  have cells9 := Mo.mo (Mo.mo c6 (s7.trans s8)) (stay_hide s9 hnew)
  have sec9 := Mo.mo (Mo.mo sec7 s8) (stay_hide s9 hnew)
  have gDr := G.at FD.kept
  have kD : Kept h0 (lg (Cx.hide ⟨prog, w, A, g, d, os, []⟩ D) h0) := fun b o e => lg_get e fun q => by
    rcases List.mem_cons.mp q with rfl | q
    · rw [hD0] at e; cases e
    · cases q
  have gD := G.at (kD.trans FD.kept.lg)
  have manyD := FD.var (P := isI (manyN ns : Int)) (x := Str.ofString "many") rfl p3
  refine Ex.of (Sx.unhide (D := D) (Sx.for_ (R := isI) (xs := rangeL 0 1 (manyN ns)) (by exact hh) FD (Ev.itR (Ev.range (n := manyN ns) (gD.bi (by k_is) (by boot_by_name)) (manyD _) (by omega)))
    (fun a => Wr _ a ∨ a = D) (fun _ => .inl) (fun a w => ?_)
    (fun i V g' => V (Str.ofString "jobs") = some (.ref D) ∧ V (Str.ofString "cells") = some v2 ∧ V (Str.ofString "second") = some v5 ∧ V (Str.ofString "longest") = some v6 ∧ V (Str.ofString "side") = some v4 ∧ V (Str.ofString "many") = some v3 ∧ isL isI (cellsL ns) v2 (lg (Cx.hide ⟨prog, w, A, g, d, os, []⟩ D) g') ∧ isL isI (secL ns) v5 (lg (Cx.hide ⟨prog, w, A, g, d, os, []⟩ D) g') ∧ KTab g' ∧
      ∃ vs n, g'.get? D = some { cls := .type "list", data := .seq vs.toArray n } ∧ Are isJ4 ((List.range i).map (jobK2 ns)) vs (lg (Cx.hide ⟨prog, w, A, g, d, os, []⟩ D) g')) ?_ ?_ ?_ ?_))
  · rcases w with w | rfl
    · obtain ⟨o, e, q⟩ := FD.toFm.wrObj w; exact ⟨o, e, .inl q⟩
    · exact ⟨_, lg_sub _ _ hD, .inr List.mem_cons_self⟩
  · exact fun g' k => ⟨rfl, rfl, rfl, rfl, rfl, rfl, Mo.mo cells9 k.lg.stay, Mo.mo sec9 k.lg.stay, t9.keeps k, [], n, k _ _ (lg_sub _ _ hD), Are.nil⟩
  · rintro i V g' g'' ⟨e1, e2, e3, e4, e5, e6, q1, q2, q3, vs, m, hd, ar⟩ s
    exact ⟨e1, e2, e3, e4, e5, e6, Mo.mo q1 s.lg.stay, Mo.mo q2 s.lg.stay, q3.strg s, vs, m, s _ _ hd rfl, ar.stay s.lg.stay⟩
  · rintro i y wk V1 g' hy' ⟨e1, e2, e3, e4, e5, e6, q1, q2, q3, vs, m, hdd, ar⟩ hr F10 kb10 st10
    obtain ⟨hi, rfl⟩ := rangeL_at hy'
    have hyi : (0 : Int) + (i : Int) * 1 = (i : Int) := by omega
    rw [hyi] at hr
    have g10 := G.at (kD.trans F10.kept.lg)
    have cells := F10.var (P := isL isI (cellsL ns)) (x := Str.ofString "cells") ((upd_ne (by decide)).trans e2) q1
    have longest := F10.var (P := isI (longN ns)) (x := Str.ofString "longest") ((upd_ne (by decide)).trans e4) p6
    have side := F10.var (P := isI (sideN ns)) (x := Str.ofString "side") ((upd_ne (by decide)).trans e5) p4
    have k := F10.var (P := isI (i : Int)) (x := Str.ofString "k") upd_eq hr
    refine Ex.assign (P1 := isI (jobK2 ns i).1.a) F10 (Pu.toI (Ev.add (Ev.callB (Ps := [isI (cellK ns (2 + i))]) (g10.bi (by k_is) (by boot_by_name)) (EA.cons (Ev.item (cells _) (Ev.add .cint (k _)) (by omega) (by omega) (cellsL_at ns (2 + i) (by omega) _ (by omega))) EA.nil) fun vs h' _ r => b_abs r) (Ev.ifI (z := sideN ns == 0) (Tst.eq (side _) .cint) (fun _ => longest _) fun _ => .cint)) ?_) fun v11 g11 F11 kb11 s11 p11 => ?_
    · simp only [beq_iff_eq]; rfl
    have g11' := G.at (kD.trans F11.kept.lg)
    have cells := F11.var (P := isL isI (cellsL ns)) (x := Str.ofString "cells") ((upd_ne (by decide)).trans ((upd_ne (by decide)).trans e2)) (Mo.mo q1 s11)
    have longest := F11.var (P := isI (longN ns)) (x := Str.ofString "longest") ((upd_ne (by decide)).trans ((upd_ne (by decide)).trans e4)) p6
    have side := F11.var (P := isI (sideN ns)) (x := Str.ofString "side") ((upd_ne (by decide)).trans ((upd_ne (by decide)).trans e5)) p4
    have k := F11.var (P := isI (i : Int)) (x := Str.ofString "k") ((upd_ne (by decide)).trans upd_eq) hr
    refine Ex.assign (P1 := isI (jobK2 ns i).1.c) F11 (Pu.toI (Ev.add (Ev.callB (Ps := [isI (cellK ns (12 + i))]) (g11'.bi (by k_is) (by boot_by_name)) (EA.cons (Ev.item (cells _) (Ev.add .cint (k _)) (by omega) (by omega) (cellsL_at ns (12 + i) (by omega) _ (by omega))) EA.nil) fun vs h' _ r => b_abs r) (Ev.ifI (z := sideN ns == 1) (Tst.eq (side _) .cint) (fun _ => longest _) fun _ => .cint)) ?_) fun v12 g12 F12 kb12 s12 p12 => ?_
    · simp only [beq_iff_eq]; rfl
    have second := F12.var (P := isL isI (secL ns)) (x := Str.ofString "second") ((upd_ne (by decide)).trans ((upd_ne (by decide)).trans ((upd_ne (by decide)).trans e3))) (Mo.mo q2 (s11.trans s12))
    have first := F12.var (P := isI (jobK2 ns i).1.a) (x := Str.ofString "first") ((upd_ne (by decide)).trans upd_eq) p11
    have third := F12.var (P := isI (jobK2 ns i).1.c) (x := Str.ofString "third") upd_eq p12
    have k := F12.var (P := isI (i : Int)) (x := Str.ofString "k") ((upd_ne (by decide)).trans ((upd_ne (by decide)).trans upd_eq)) hr
    have hd12 : g12.get? D = some { cls := .type "list", data := .seq vs.toArray m } := kb12 _ _ (kb11 _ _ hdd (F10.hid D List.mem_cons_self).1) (F11.hid D List.mem_cons_self).1
    have t12 : KTab g12 := (q3.strg (F10.toFm.str kb11)).strg (F11.toFm.str kb12)
    refine Ex.of (Sx.append (P1 := isJ4 (jobK2 ns i)) F12 hD0 ((upd_ne (by decide)).trans ((upd_ne (by decide)).trans ((upd_ne (by decide)).trans e1))) hd12
      (Ev.list (R := isI) (EL.cons (first _) (EL.cons (Ev.item (x := (jobK2 ns i).1.b) (second _) (k _) (by omega) (by omega) ?_) (EL.cons (third _) (EL.cons (k _) EL.nil))))) ?_
      fun v13 g13 F13 hd13 ko13 p13 => Ex.nil ⟨_, F13, ⟨(upd_ne (by decide)).trans ((upd_ne (by decide)).trans ((upd_ne (by decide)).trans e1)), (upd_ne (by decide)).trans ((upd_ne (by decide)).trans ((upd_ne (by decide)).trans e2)), (upd_ne (by decide)).trans ((upd_ne (by decide)).trans ((upd_ne (by decide)).trans e3)), (upd_ne (by decide)).trans ((upd_ne (by decide)).trans ((upd_ne (by decide)).trans e4)), (upd_ne (by decide)).trans ((upd_ne (by decide)).trans ((upd_ne (by decide)).trans e5)), (upd_ne (by decide)).trans ((upd_ne (by decide)).trans ((upd_ne (by decide)).trans e6)), ?_, ?_, ?_, vs ++ [v13], m + 1, ?_, ?_⟩, ?_⟩)
    · rw [Int.toNat_natCast, List.getElem?_eq_getElem (by rw [secL_len]; exact hi)]
      show some _ = some ((secL ns).getD i 0)
      rw [List.getD_eq_getElem?_getD, List.getElem?_eq_getElem (by rw [secL_len]; exact hi)]
      rfl
    · rw [List.size_toArray, ar.len, List.length_map, List.length_range]; unfold sizeLine; omega
    · exact Mo.mo q1 ((s11.trans s12).trans (kept_but ko13).stay)
    · exact Mo.mo q2 ((s11.trans s12).trans (kept_but ko13).stay)
    · exact t12.butD hd12 rfl ko13
    · rw [hd13, List.push_toArray]
    · rw [List.range_succ, List.map_append]
      exact (ar.stay ((s11.trans s12).trans (kept_but ko13).stay)).snoc p13
    · exact fun b o e w => ko13 b o (kb12 b o (kb11 b o e fun z => w (.inl z)) fun z => w (.inl z)) fun z => w (.inr z)
  · rintro V1 g' ⟨e1, e2, e3, e4, e5, e6, q1, q2, q3, vs, m, hdd, ar⟩ F10 kb10 st10
    rw [rangeL_len] at ar
    have F10' := F10.unhide
    have pj : isL isJ4 (jobsL ns) (.ref D) g' := ⟨D, vs, m, rfl, hdd, ar.stay (lg_hide_sub (c := ⟨prog, w, A, g, d, os, []⟩)).stay⟩
    have g10 := G.at F10'.kept
    have jobs10 := F10'.var (P := isL isJ4 (jobsL ns)) (x := Str.ofString "jobs") e1 pj
    have hjl : (jobsL ns).length = manyN ns := by simp [jobsL]
    generalize hjs : jobsL ns = js at *
    refine Ex.assign (P1 := isL (isL isI) (js.map rankL)) F10' (Ev.comp (R := isJ4) (S := isL isI) (by exact hh) (jobs10 _).itL rankL (fun y w C D m h1 hy hw k hn hm => ?_) (by rw [hjl, sizeLine_eq]; omega) rfl) (fun v11 h11 F11 kb11 s11 p11 => ?_) (hs := by with_unfolding_all rfl)
    · refine Pu.mono (Ev.ifexp (P := isL isI (rankL y)) (z := sortB y.1) (Tst.lt (Ev.item (Ev.own hn hm hw) .cint (by decide) (by decide) rfl) (Ev.item (Ev.own hn hm hw) .cint (by decide) (by decide) rfl)) (fun e => ?_) (fun e => ?_)) fun _ _ _ x => x
      · unfold rankL; rw [if_pos e]
        exact Ev.list (R := isI) (EL.cons .cint (EL.cons (Ev.add (Ev.item (Ev.own hn hm hw) .cint (by decide) (by decide) rfl) (Ev.item (Ev.own hn hm hw) .cint (by decide) (by decide) rfl)) EL.nil))
      · unfold rankL; rw [if_neg (by rw [e]; simp)]
        exact Ev.list (R := isI) (EL.cons .cint (EL.cons (Ev.sub (Ev.neg (Ev.item (Ev.own hn hm hw) .cint (by decide) (by decide) rfl)) (Ev.item (Ev.own hn hm hw) .cint (by decide) (by decide) rfl)) EL.nil))
    have t11 : KTab h11 := q3.strg (F10'.toFm.str kb11)
    have pj11 : isL isJ4 js (.ref D) h11 := Mo.mo pj s11
    have jobs11 := F11.var (P := isL isJ4 js) (x := Str.ofString "jobs") ((upd_ne (by decide)).trans e1) pj11
    have L11 := L.keeps F11.kept
    refine Ex.assignKeys (c := ⟨prog, w, A.deeper _, g, d, os, []⟩) ⟨hy.prog, hy.gens⟩ rfl ((hR.le (m := 11) (by decide)).deeper _) (by show A.depth + 1 ≤ 500; omega) (by show A.units + 3 ≤ 2000; omega) F11 (jobs11 _).itL L11 t11 h16 (not16 F11.toFm t11) rfl (fun D C g Lg => Lg.G.gl (by k_is)) (fun D C g Lg => Lg.G.gl (by k_is)) (by omega) rfl fun vk b0 h12 kb0 b16 F12 pk t12 kb12 => ?_
    have Lb := L.keeps kb0
    have Gb := Lb.G
    have st12 : Stay h11 h12 := kb_stay (c := ⟨prog, w, A, g, d, os, []⟩) kb12 fun a wa => by
      rcases wa with wa | rfl
      · exact F11.toFm.wrObj wa
      · obtain ⟨vs, e⟩ := t11.at16
        exact ⟨_, e, rfl⟩
    have pr12 : isL (isL isI) (js.map rankL) v11 h12 := Mo.mo p11 st12
    have pj12 : isL isJ4 js (.ref D) h12 := Mo.mo pj11 st12
    obtain ⟨aK, vsK, nK, rfl, eK, arK⟩ := pk
    have kv : ∀ h, Kept b0 h → isL isV vsK (.ref aK) h := fun h k => ⟨aK, vsK, nK, rfl, k _ _ eK, rfl, fun i x v h1 h2 => by rw [h1] at h2; cases h2; rfl⟩
    have g12 := Gb.at F12.kept
    have many12 := F12.var (P := isI (manyN ns : Int)) (x := Str.ofString "many") ((upd_ne (by decide)).trans ((upd_ne (by decide)).trans e6)) p3
    refine Ex.for_ (R := isI) (xs := rangeL 0 1 (manyN ns)) (by exact hh) F12 (Ev.itR (Ev.range (n := manyN ns) (g12.bi (by k_is) (by boot_by_name)) (many12 _) (by omega))) (Wr _) (fun _ x => x) (fun _ w => F12.toFm.wrObj w)
      (fun _ V g' => KTab g' ∧ V (Str.ofString "jobs") = some (.ref D) ∧ V (Str.ofString "ranks") = some v11 ∧ V (Str.ofString "keys") = some (.ref aK) ∧ V (Str.ofString "many") = some v3)
      (fun h' k => ⟨t12.keeps k, (upd_ne (by decide)).trans ((upd_ne (by decide)).trans e1), (upd_ne (by decide)).trans upd_eq, upd_eq, (upd_ne (by decide)).trans ((upd_ne (by decide)).trans e6)⟩) (fun _ V a b x s => ⟨x.1.strg s, x.2⟩)
      (fun i y vi V2 h13 hyi hJ hvi F13 kb13 st13 => ?_) (fun V2 h13 hJ F13 kb13 st13 => ?_)
    · obtain ⟨t13, f1, f2, f3, f4⟩ := hJ
      obtain ⟨hi, rfl⟩ := rangeL_get hyi
      have g13 := Gb.at F13.kept
      have many13 := F13.var (P := isI (manyN ns : Int)) (x := Str.ofString "many") ((upd_ne (by decide)).trans f4) p3
      refine Ex.for_ (R := isI) (xs := rangeL 0 1 (manyN ns)) (by exact hh) F13 (Ev.itR (Ev.range (n := manyN ns) (g13.bi (by k_is) (by boot_by_name)) (many13 _) (by omega))) (Wr _) (fun _ x => x) (fun _ w => F13.toFm.wrObj w)
        (fun _ V g' => KTab g' ∧ V (Str.ofString "jobs") = some (.ref D) ∧ V (Str.ofString "ranks") = some v11 ∧ V (Str.ofString "keys") = some (.ref aK) ∧ V (Str.ofString "many") = some v3 ∧ V (Str.ofString "i") = some vi)
        (fun h' k => ⟨t13.keeps k, (upd_ne (by decide)).trans f1, (upd_ne (by decide)).trans f2, (upd_ne (by decide)).trans f3, (upd_ne (by decide)).trans f4, upd_eq⟩) (fun _ V a b x s => ⟨x.1.strg s, x.2⟩)
        (fun j y vj V3 h14 hyj hJ2 hvj F14 kb14 st14 => ?_) (fun V3 h14 hJ2 F14 kb14 st14 => Ex.nil ⟨V3, F14, ⟨hJ2.1, hJ2.2.1, hJ2.2.2.1, hJ2.2.2.2.1, hJ2.2.2.2.2.1⟩, kb14⟩)
      obtain ⟨t14, q1', q2', q3', q4', q5'⟩ := hJ2
      obtain ⟨hj, rfl⟩ := rangeL_get hyj
      have hu14 : ∀ e, (A.deeper e).units < cLine := fun e => Nat.lt_of_le_of_lt (Nat.le_add_right _ _) ((hR.le (m := 3) (by decide)).deeper e).units
      have hxi : js[i]? = some (js[i]'(by omega)) := List.getElem?_eq_getElem (by omega)
      have hxj : js[j]? = some (js[j]'(by omega)) := List.getElem?_eq_getElem (by omega)
      generalize js[i]'(by omega) = ji at hxi
      generalize js[j]'(by omega) = jj at hxj
      obtain ⟨ui, hui, ki⟩ := arK.get hxi
      obtain ⟨uj, huj, kj⟩ := arK.get hxj
      have keysv := F14.var (P := isL isV vsK) (x := Str.ofString "keys") ((upd_ne (by decide)).trans q3') (kv _ F14.kept)
      have iv := F14.var (P := isI (i : Int)) (x := Str.ofString "i") ((upd_ne (by decide)).trans q5') hvi
      have jv := F14.var (P := isI (j : Int)) (x := Str.ofString "j") upd_eq hvj
      refine Ex.assign (P1 := isL isB [decide (soonerZ ji.1 jj.1 < 0), decide (0 < soonerZ ji.1 jj.1), soonerZ ji.1 jj.1 == 0, decide (soonerZ ji.1 jj.1 ≤ 0), decide (0 ≤ soonerZ ji.1 jj.1)]) F14
        (Ev.list (R := isB) (EL.cons (Ev.cmp (P1 := isV ui) (P2 := isV uj) (Ev.item (keysv _) (iv _) (by omega) (by omega) (by rw [Int.toNat_natCast]; exact hui)) (Ev.item (keysv _) (jv _) (by omega) (by omega) (by rw [Int.toNat_natCast]; exact huj)) (fun a b h' k ea eb => by
            cases ea; cases eb; exact key_lt (c := ⟨prog, w, A.deeper _, g, d, os, []⟩) ⟨hy.prog, hy.gens⟩ ((hR.le (m := 6) (by decide)).deeper _) (Gb.at (F14.kept.trans k)) (ki.keeps (F14.kept.trans k)) (kj.keeps (F14.kept.trans k))))
          (EL.cons (Ev.cmp (P1 := isV ui) (P2 := isV uj) (Ev.item (keysv _) (iv _) (by omega) (by omega) (by rw [Int.toNat_natCast]; exact hui)) (Ev.item (keysv _) (jv _) (by omega) (by omega) (by rw [Int.toNat_natCast]; exact huj)) (fun a b h' k ea eb => by
            cases ea; cases eb; exact key_gt (c := ⟨prog, w, A.deeper _, g, d, os, []⟩) ⟨hy.prog, hy.gens⟩ ((hR.le (m := 6) (by decide)).deeper _) (Gb.at (F14.kept.trans k)) (ki.keeps (F14.kept.trans k)) (kj.keeps (F14.kept.trans k))))
          (EL.cons (Ev.cmp (P1 := isV ui) (P2 := isV uj) (Ev.item (keysv _) (iv _) (by omega) (by omega) (by rw [Int.toNat_natCast]; exact hui)) (Ev.item (keysv _) (jv _) (by omega) (by omega) (by rw [Int.toNat_natCast]; exact huj)) (fun a b h' k ea eb => by
            cases ea; cases eb; exact key_eq (c := ⟨prog, w, A.deeper _, g, d, os, []⟩) ⟨hy.prog, hy.gens⟩ ((hR.le (m := 6) (by decide)).deeper _) (Gb.at (F14.kept.trans k)) (ki.keeps (F14.kept.trans k)) (kj.keeps (F14.kept.trans k))))
          (EL.cons (Ev.cmp (P1 := isV ui) (P2 := isV uj) (Ev.item (keysv _) (iv _) (by omega) (by omega) (by rw [Int.toNat_natCast]; exact hui)) (Ev.item (keysv _) (jv _) (by omega) (by omega) (by rw [Int.toNat_natCast]; exact huj)) (fun a b h' k ea eb => by
            cases ea; cases eb; exact key_le (c := ⟨prog, w, A.deeper _, g, d, os, []⟩) ⟨hy.prog, hy.gens⟩ ((hR.le (m := 6) (by decide)).deeper _) (Gb.at (F14.kept.trans k)) (ki.keeps (F14.kept.trans k)) (kj.keeps (F14.kept.trans k))))
          (EL.cons (Ev.cmp (P1 := isV ui) (P2 := isV uj) (Ev.item (keysv _) (iv _) (by omega) (by omega) (by rw [Int.toNat_natCast]; exact hui)) (Ev.item (keysv _) (jv _) (by omega) (by omega) (by rw [Int.toNat_natCast]; exact huj)) (fun a b h' k ea eb => by
            cases ea; cases eb; exact key_ge (c := ⟨prog, w, A.deeper _, g, d, os, []⟩) ⟨hy.prog, hy.gens⟩ ((hR.le (m := 6) (by decide)).deeper _) (Gb.at (F14.kept.trans k)) (ki.keeps (F14.kept.trans k)) (kj.keeps (F14.kept.trans k)))) EL.nil)))))) fun vt h15 F15 kb15 s15 pt => ?_
      have pr15 : isL (isL isI) (js.map rankL) v11 h15 := Mo.mo (Mo.mo (Mo.mo pr12 st13) st14) s15
      have ranks := F15.var (P := isL (isL isI) (js.map rankL)) (x := Str.ofString "ranks") ((upd_ne (by decide)).trans ((upd_ne (by decide)).trans q2')) pr15
      have iv := F15.var (P := isI (i : Int)) (x := Str.ofString "i") ((upd_ne (by decide)).trans ((upd_ne (by decide)).trans q5')) hvi
      have jv := F15.var (P := isI (j : Int)) (x := Str.ofString "j") ((upd_ne (by decide)).trans upd_eq) hvj
      refine Ex.assign2s (R := isL isI) (a := rankL ji) (b := rankL jj) F15 (by exact hh) (Ev.tuple (R := isL isI) (EL.cons (Ev.item (ranks _) (iv _) (by omega) (by omega) (by rw [Int.toNat_natCast, List.getElem?_map, hxi]; rfl)) (EL.cons (Ev.item (ranks _) (jv _) (by omega) (by omega) (by rw [Int.toNat_natCast, List.getElem?_map, hxj]; rfl)) EL.nil))) fun va vb h16' F16 kb16 s16 pa pb => ?_
      have told := F16.var (P := isL isB [decide (soonerZ ji.1 jj.1 < 0), decide (0 < soonerZ ji.1 jj.1), soonerZ ji.1 jj.1 == 0, decide (soonerZ ji.1 jj.1 ≤ 0), decide (0 ≤ soonerZ ji.1 jj.1)]) (x := Str.ofString "told") ((upd_ne (by decide)).trans ((upd_ne (by decide)).trans upd_eq)) (Mo.mo pt s16)
      have one := F16.var (P := isL isI (rankL ji)) (x := Str.ofString "one") upd_eq pa
      have other := F16.var (P := isL isI (rankL jj)) (x := Str.ofString "other") ((upd_ne (by decide)).trans upd_eq) pb
      have hl2 : (rankL ji).length = (rankL jj).length := by rw [rankL_len, rankL_len]
      refine Ex.ite (z := false) F16 (Pu.mono (Tst.cmp (P1 := isL isB _) (P2 := isL isB [_, _, _, _, _])
        (Ev.comp (R := isB) (S := isB) (by exact hh) (told _).itL (fun b => b == true) (fun y u C D m h1 hy' hu1 k' hn' hm' => Ev.cmp (P1 := isB y) (P2 := isB true) (Ev.own hn' hm' hu1) .cbool fun a b h' k ea eb => cmp_isB ea eb) (by exact Nat.le_of_ble_eq_true rfl) rfl)
        (Ev.list (R := isB) (EL.cons (Ev.cmp (P1 := isL isI (rankL ji)) (P2 := isL isI (rankL jj)) (one _) (other _) fun a b h' k ea eb => cmp_ltL ea eb hl2 (hu14 _)) (EL.cons (Ev.cmp (P1 := isL isI (rankL ji)) (P2 := isL isI (rankL jj)) (one _) (other _) fun a b h' k ea eb => cmp_gtL ea eb hl2 (hu14 _)) (EL.cons (Ev.cmp (P1 := isL isI (rankL ji)) (P2 := isL isI (rankL jj)) (one _) (other _) fun a b h' k ea eb => cmp_eqL ea eb hl2 (hu14 _)) (EL.cons (Ev.cmp (P1 := isL isI (rankL ji)) (P2 := isL isI (rankL jj)) (one _) (other _) fun a b h' k ea eb => cmp_leL ea eb hl2 (hu14 _)) (EL.cons (Ev.cmp (P1 := isL isI (rankL ji)) (P2 := isL isI (rankL jj)) (one _) (other _) fun a b h' k ea eb => cmp_geL ea eb hl2 (hu14 _)) EL.nil))))))
        (fun a b h' k ea eb => cmp_neBL ea eb rfl (hu14 _))) (fun b h' k e => ?_)) (fun q => nomatch q) fun _ h17 k17 => Ex.nil (Ex.nil ⟨_, F16.at k17, ⟨(((t14.strg (F14.toFm.str kb15)).strg (F15.toFm.str kb16))).keeps k17, ?_, ?_, ?_, ?_, ?_⟩, (kb15.trans kb16).trans k17.kb⟩)
      · rw [e, told_lt, told_gt, told_eq, told_le, told_ge, eqL_is (by simp)]
        simp
      · exact (upd_ne (by decide)).trans ((upd_ne (by decide)).trans ((upd_ne (by decide)).trans ((upd_ne (by decide)).trans q1')))
      · exact (upd_ne (by decide)).trans ((upd_ne (by decide)).trans ((upd_ne (by decide)).trans ((upd_ne (by decide)).trans q2')))
      · exact (upd_ne (by decide)).trans ((upd_ne (by decide)).trans ((upd_ne (by decide)).trans ((upd_ne (by decide)).trans q3')))
      · exact (upd_ne (by decide)).trans ((upd_ne (by decide)).trans ((upd_ne (by decide)).trans ((upd_ne (by decide)).trans q4')))
      · exact (upd_ne (by decide)).trans ((upd_ne (by decide)).trans ((upd_ne (by decide)).trans ((upd_ne (by decide)).trans q5')))
    · obtain ⟨t13, f1, f2, f3, f4⟩ := hJ
      have hjs5 : js.length ≤ 5 := by omega
      have hjs2 : 2 ≤ js.length := by omega
      have L13 := Lb.keeps F13.kept
      have g13 := L13.G
      have pj13 : isL isJ4 js (.ref D) h13 := Mo.mo pj12 st13
      have pr13 : isL (isL isI) (js.map rankL) v11 h13 := Mo.mo pr12 st13
      have jobs13 := F13.var (P := isL isJ4 js) (x := Str.ofString "jobs") f1 pj13
      have hp := soon_perm hjs5
      refine Ex.assignW (P1 := isL isJ4 (permL (sortPerm js.length (soonLt js)) js)) (W := fun a => a = 16) (J := KTab) F13 (fun a q => by rw [q]; exact b16) (fun a q => by rw [q]; exact not16 F13.toFm t13) (fun a w => nomatch w) (fun a q => by
          obtain ⟨vs, e⟩ := t13.at16
          exact ⟨_, q ▸ e, rfl⟩) (fun tk5 Q5 E5 hq5 => ?_) (fun vo h14 h15 F15 k14 t14 kb15 s15 po => ?_)
      · exact e_order2 (c := ⟨prog, w, A.deeper _, g, d, os, []⟩) ⟨hy.prog, hy.gens⟩ rfl ((hR.le (m := 11) (by decide)).deeper _) (by show A.depth + 1 ≤ 500; omega) (by show A.units + 3 ≤ 1998; omega) L13 t13 hjs2 hjs5 hp (g13.bi (by k_is) (by boot_by_name)) (jobs13 _) (g13.gl (by k_is)) (g13.gl (by k_is)) (fun v h7 tk7 k7 j7 p7 => hq5 v h7 tk7 k7 j7 p7)
      have F14 := F13.toFm.wide k14 (fun a q => by rw [q]; exact b16) (fun a q => by rw [q]; exact not16 F13.toFm t13)
      have t15 : KTab h15 := t14.strg (F14.str kb15)
      have hol := ids_len hjs5
      have hids := ids_eq hjs5 (hjs ▸ jobsL_id ns)
      have hsub : ∀ x ∈ permL (sortPerm js.length (soonLt js)) js, x ∈ js := fun x hx => by
        obtain ⟨i, _, e⟩ := List.mem_filterMap.mp hx
        exact List.mem_of_getElem? e
      generalize hso : permL (sortPerm js.length (soonLt js)) js = so at po hol hids hsub
      have hids2 : so.map (·.2) = (permL (sortPerm (pairsL js).length (pairLt js)) (pairsL js)).map (·.2) := by rw [pairsL_len]; exact hids
      have g15 := Gb.at F15.kept
      have pr15 : isL (isL isI) (js.map rankL) v11 h15 := Mo.mo pr13 s15
      have order15 := F15.var (P := isL isJ4 so) (x := Str.ofString "order") upd_eq po
      have many15 := F15.var (P := isI (manyN ns : Int)) (x := Str.ofString "many") ((upd_ne (by decide)).trans f4) p3
      have hu15 : ∀ e, (A.deeper e).units < cLine := fun e => Nat.lt_of_le_of_lt (Nat.le_add_right _ _) ((hR.le (m := 3) (by decide)).deeper e).units
      have hu2 : ∀ e, (A.deeper e).in1.in1.units < cLine := fun e => Nat.lt_of_le_of_lt (Nat.le_add_right _ _) (Room.in1 (n := 3) (Room.in1 (n := 4) ((hR.le (m := 6) (by decide)).deeper e))).units
      have hu3 : ∀ e, (A.deeper e).in1.in1.in1.units < cLine := fun e => Nat.lt_of_le_of_lt (Nat.le_add_right _ _) (Room.in1 (n := 2) (Room.in1 (n := 3) (Room.in1 (n := 4) ((hR.le (m := 6) (by decide)).deeper e)))).units
      have hpp : ∀ i ∈ sortPerm (pairsL js).length (pairLt js), i < (pairsL js).length := by
        rw [pairsL_len, ← sort_same hjs5]; exact hp
      have has : asksT (pairsL js).length (kas_sort (pairsL js).length) = true := by
        rw [pairsL_len]
        rcases (show js.length = 2 ∨ js.length = 3 ∨ js.length = 4 ∨ js.length = 5 by omega) with q | q | q | q <;> rw [q]
        · exact asks5.1
        · exact asks5.2.1
        · exact asks5.2.2.1
        · exact asks5.2.2.2
      have hrl : ∀ p ∈ pairsL js, p.1.length = 2 := fun p hp => by
        unfold pairsL at hp
        obtain ⟨k, _, rfl⟩ := List.mem_map.mp hp
        exact rankL_len _
      refine Ex.ite (z := false) F15 (Pu.mono (Tst.cmp (P1 := isL isI (so.map (·.2))) (P2 := isL isI ((permL (sortPerm (pairsL js).length (pairLt js)) (pairsL js)).map (·.2)))
        (Ev.comp (R := isJ4) (S := isI) (by exact hh) (order15 _).itL (fun p => p.2) (fun y u C D m h1 hy' hu1 k' hn' hm' => Ev.item (Ev.own hn' hm' hu1) .cint (by decide) (by decide) rfl) (by rw [hol, sizeLine_eq]; omega) rfl)
        (Ev.comp (R := isPR) (S := isI) (by exact hh) (Ev.itL (Ev.callB (Ps := [isL isPR (pairsL js)]) (g15.bi (by k_is) (by boot_by_name)) (EA.cons ?_ EA.nil) fun vs h' k z => ?_)) (fun p => p.2) (fun y u C D m h1 hy' hu1 k' hn' hm' => Ev.item (R := isRI) (x := .inr y.2) (Ev.own hn' hm' hu1) .cint (by decide) (by decide) rfl) ?_ rfl)
        (fun a b h' k ea eb => cmp_neL ea eb ?_ (hu15 _))) (fun b h' k e => ?_)) (fun q => nomatch q) fun _ h16' k16' => Ex.nil ?_
      · refine Ev.comp (R := isI) (S := isPR) (by exact hh) (Ev.itR (Ev.range (n := js.length) (g15.bi (by k_is) (by boot_by_name)) ?_ (by omega))) (fun k => (rankL (js.getD k.toNat (⟨0, 0, 0⟩, 0)), k)) (fun y u C D m h1 hy' hu1 k' hn' hm' => ?_) (by rw [rangeL_len, sizeLine_eq]; omega) rfl
        · rw [hjl]; exact many15 _
        · obtain ⟨q, hq1, rfl⟩ := rangeL_mem hy'
          have ey : (0 + (q : Int) * 1) = (q : Int) := by omega
          rw [ey] at hu1 ⊢
          rw [Int.toNat_natCast]
          refine Ev.list (R := isRI) (xs := [.inl _, .inr _]) (EL.cons (Ev.item (R := isL isI) (F15.varC (P := isL (isL isI) (js.map rankL)) ((upd_ne (by decide)).trans f2) pr15 k' rfl rfl) (Ev.own hn' hm' hu1) (by omega) (by omega) ?_) (EL.cons (Ev.own hn' hm' hu1) EL.nil))
          rw [Int.toNat_natCast, List.getElem?_map, List.getElem?_eq_getElem hq1]
          simp [hq1]
      · obtain ⟨u1, rfl, pu1⟩ := z.one
        refine b_sorted0 (T := .type "list") (by exact hh) (pu1.coll (by rw [pairsL_len, sizeLine_eq]; omega)) (by rw [pairsL_len]; omega) (by rw [pairsL_len]; omega) has hpp (fun x u g ⟨a, vs, n, e, ho, _⟩ => ⟨a, _, e, ho, rfl⟩) (by rfl) (by simp) (fun X i j x y uu vv gg hx hy' kg ru rv => ?_)
        refine Pu.mono (key_ltPR (c := { (⟨prog, w, A.deeper _, g, d, os, []⟩ : Cx) with A := (A.deeper _).in1.in1, X := X }) ru rv ?_ (hu3 _) (hu2 _)) fun b g' _ e => ?_
        · rw [hrl _ (List.mem_of_getElem? hx), hrl _ (List.mem_of_getElem? hy')]
        · rw [e]
          unfold pairLt
          rw [hx, hy']
      · have e2 := congrArg List.length hids2
        rw [List.length_map, List.length_map, hol] at e2
        rw [← e2, sizeLine_eq]; omega
      · rw [← hids2]
      · rw [e, eqL_is (by rw [hids2]), hids2]; simp
      · have F16 := F15.at k16'
        have t16 := t15.keeps k16'
        have g16 := Gb.at F16.kept
        have po16 : isL isJ4 so vo h16' := Mo.mo po k16'.stay
        have many16 := F16.var (P := isI (manyN ns : Int)) (x := Str.ofString "many") ((upd_ne (by decide)).trans f4) p3
        refine Ex.for_ (R := isI) (xs := rangeL 1 1 (manyN ns)) (by exact hh) F16 (Ev.itR (Ev.callT (Ps := [isI 1, isI (manyN ns + 1 : Int)]) (g16.bi (by k_is) (by boot_by_name)) (EA.cons .cint (EA.cons (Ev.add (many16 _) .cint) EA.nil)) fun vs h' _ r => b_range2 (n := manyN ns) (small_one (by omega) (by omega) (by omega) (by omega)) (by rw [rangeSize_one]; split <;> omega) r)) (Wr _) (fun _ x => x) (fun _ w => F16.toFm.wrObj w)
          (fun _ V g' => KTab g' ∧ V (Str.ofString "order") = some vo ∧ V (Str.ofString "many") = some v3)
          (fun h' k => ⟨t16.keeps k, upd_eq, (upd_ne (by decide)).trans f4⟩) (fun _ V a b x s => ⟨x.1.strg s, x.2⟩)
          (fun i y vk' V3 h17 hyi hJ3 hvk F17 kb17 st17 => ?_) (fun V3 h17 hJ3 F17 kb17 st17 => ?_)
        · obtain ⟨t17, q1', q2'⟩ := hJ3
          obtain ⟨hi, hyeq⟩ := rangeL_at hyi
          have ey : y = ((i + 1 : Nat) : Int) := by omega
          rw [ey] at hvk
          have g17 := Gb.at F17.kept
          have po17 : isL isJ4 so vo h17 := Mo.mo po16 st17
          have order := F17.var (P := isL isJ4 so) (x := Str.ofString "order") ((upd_ne (by decide)).trans q1') po17
          have kk := F17.var (P := isI ((i + 1 : Nat) : Int)) (x := Str.ofString "k") upd_eq hvk
          refine Ex.assign (P1 := isL isJ4 (so.take (i + 1))) F17 (Pu.toL (Ev.slice (order _) .none (.some (kk _)) (by rw [hol, sizeLine_eq]; omega)) (pick_take so (i + 1))) fun vp h18 F18 kb18 s18 pp => ?_
          have g18 := Gb.at F18.kept
          have part := F18.var (P := isL isJ4 (so.take (i + 1))) (x := Str.ofString "part") upd_eq pp
          have hne : 0 < ((ordersOf (so.take (i + 1))).map doneL).length := by
            rw [List.length_map]
            exact List.length_pos_of_mem ((mem_ordersOf (so.take (i + 1)) (so.take (i + 1))).mpr (List.Perm.refl _))
          have hpl : (so.take (i + 1)).length ≤ 5 := by rw [List.length_take]; omega
          refine Ex.ite F18 (Tst.ne (x := mk ((so.take (i + 1)).map (·.1))) (y := minL ((ordersOf (so.take (i + 1))).map doneL)) (Ev.item (R := isI) (xs := [(mk3 ((so.take (i + 1)).map (·.1))).1, (mk3 ((so.take (i + 1)).map (·.1))).2.1, (mk3 ((so.take (i + 1)).map (·.1))).2.2]) (Ev.callF (Ps := [isV (.ref 42), isL isJ4 (so.take (i + 1)), isE3 (0, 0, 0)]) (g18.gl (by k_is)) (g18.X _ _ (show (hdx.heap_39 w.params).lookup 30 = some _ by k_is) rfl) rfl (EA.cons (g18.gl (by k_is)) (EA.cons (part _) (EA.cons (Ev.list (R := isI) (EL.cons .cint (EL.cons .cint (EL.cons .cint EL.nil)))) EA.nil))) fun vs h' k z => ?_) .cint (by decide) (by decide) rfl)
            (Ev.callB (Ps := [isL isI ((ordersOf (so.take (i + 1))).map doneL)]) (g18.bi (by k_is) (by boot_by_name)) (EA.cons ?_ EA.nil) fun vs h' k z => b_min (by exact hh) hne z)) (fun q => ?_) fun _ h19 k19 => Ex.nil (Ex.nil ⟨_, F18.at k19, ⟨(t17.strg (F17.toFm.str kb18)).keeps k19, (upd_ne (by decide)).trans ((upd_ne (by decide)).trans q1'), (upd_ne (by decide)).trans ((upd_ne (by decide)).trans q2')⟩, kb18.trans k19.kb⟩)
          · obtain ⟨z1, z2, z3, rfl, r1, r2, r3⟩ := z.three
            obtain rfl : z1 = .ref 42 := r1
            refine Pu.mono (c_reduce (R := isJ4) (S := isE3) (b0 := (0, 0, 0)) (fun e (p : JK) => step3 e p.1) ((hR.le (m := 5) (by decide)).deeper _) (g18.at k) ((g18.at k).X _ _ (show (hdx.heap_39 w.params).lookup 42 = some _ by k_is) rfl) rfl (fun A' h'' u' v' b' a' hR' k' hu' hv' => c_step2 (hR'.le (by decide)) ((g18.at k).at k') hu' hv' rfl rfl rfl) r2 r3 ?_) fun v h'' k' e => ?_
            · obtain ⟨tt, tvs, tn, rfl, te, _⟩ := r3
              exact ⟨tt, _, rfl, te, _, _, rfl⟩
            · rw [foldl_fst] at e
              exact e
          · refine Ev.comp (R := isL isJ4) (S := isI) (by exact hh) (Ev.itL (Ev.callF (Ps := [isL isJ4 (so.take (i + 1))]) (g18.gl (by k_is)) (g18.X _ _ (show (hdx.heap_39 w.params).lookup 47 = some _ by k_is) rfl) rfl (EA.cons (part _) EA.nil) fun vs h' k z => ?_)) doneL (fun y u C D m h1 hy' hu' k' hn' hm' => ?_) ?_ rfl
            · obtain ⟨u1, rfl, pp1⟩ := z.one
              exact c_orders2 ((hR.le (m := 3) (by decide)).deeper _) hpl (g18.at k) pp1
            · refine Ev.callF (Ps := [isL isJ4 y]) ((g18.at k').gl (by k_is)) ((g18.at k').X _ _ (show (hdx.heap_39 w.params).lookup 54 = some _ by k_is) rfl) rfl (EA.cons (Ev.own hn' hm' hu') EA.nil) fun vs h'' k'' z => ?_
              obtain ⟨u1, rfl, pp1⟩ := z.one
              exact c_done ((hR.le (m := 3) (by decide)).deeper _) (by rw [len_of_ordersOf hy']; exact hpl) ((g18.at k').at k'') pp1
            · rw [ordersOf_length]
              exact Nat.le_trans (fac_le _ hpl) (by decide)
          · refine absurd (part_best hjs5 (hjs ▸ jobsL_nn ns) (hjs ▸ jobsL_dom ns) (i + 1)) ?_
            rw [hso]
            simpa using q
        · obtain ⟨t17, q1', q2'⟩ := hJ3
          have g17 := Gb.at F17.kept
          have po17 : isL isJ4 so vo h17 := Mo.mo po16 st17
          have many17 := F17.var (P := isI (manyN ns : Int)) (x := Str.ofString "many") q2' p3
          have hsl : so.length ≤ sizeLine := by rw [hol, sizeLine_eq]; omega
          have edue : (rangeL 0 1 (manyN ns)).map (fun k => dueK so k.toNat) = (List.range so.length).map (dueK so) := by
            rw [rangeL_one, List.map_map, hol, hjl]
            exact List.map_congr_left fun i _ => by simp
          refine Ex.assign (P1 := isI (maxL ((List.range so.length).map (dueK so)))) F17 (Ev.callB (Ps := [isL isI ((List.range so.length).map (dueK so))]) (g17.bi (by k_is) (by boot_by_name)) (EA.cons (Pu.toL (Ev.comp (R := isI) (S := isI) (xs := rangeL 0 1 (manyN ns)) (by exact hh) (Ev.itR (Ev.range (n := manyN ns) (g17.bi (by k_is) (by boot_by_name)) (many17 _) (by omega))) (fun k => dueK so k.toNat) (fun y u C D m h1 hy' hu' k' hn' hm' => ?_) (by rw [rangeL_len, sizeLine_eq]; omega) rfl) edue) EA.nil) fun vs h' k z => b_max (by exact hh) (by rw [List.length_map, List.length_range]; omega) z) fun vd h18 F18 kb18 s18 pd => ?_
          · obtain ⟨q, hq1, rfl⟩ := rangeL_mem hy'
            have ey : (0 + (q : Int) * 1) = (q : Int) := by omega
            rw [ey] at hu' ⊢
            rw [Int.toNat_natCast]
            have g1 := g17.at k'
            have hqs : so[q]? = some (so.getD q (⟨0, 0, 0⟩, 0)) := by rw [List.getElem?_eq_getElem (by omega)]; simp [show q < so.length by omega]
            refine Pu.toI (y := dueK so q) (Ev.add (x := ((so.take (q + 1)).map fun p => p.1.a).sum + (so.getD q (⟨0, 0, 0⟩, 0)).1.b) (y := ((so.drop q).map fun p => p.1.c).sum) (Ev.add (x := ((so.take (q + 1)).map fun p => p.1.a).sum) (y := (so.getD q (⟨0, 0, 0⟩, 0)).1.b) ?_ ?_) ?_) (by unfold dueK; rfl)
            · refine Ev.callB (Ps := [isL isI ((so.take (q + 1)).map fun p => p.1.a)]) (g1.bi (by k_is) (by boot_by_name)) (EA.cons ?_ EA.nil) fun vs h' k z => b_sum (by exact hh) z
              refine Ev.comp (R := isJ4) (S := isI) (xs := so.take (q + 1)) (cl := []) (by exact hh) ?_ (fun p => p.1.a) (fun y2 u2 C2 D2 m2 h2 hy2 hu2 k2 hn2 hm2 => ?_) (by rw [List.length_take]; omega) rfl
              · exact Ev.itL (Pu.toL (Ev.slice (F17.varC (P := isL isJ4 so) q1' po17 k' rfl rfl) .none (.some (Pu.toI (y := ((q + 1 : Nat) : Int)) (Ev.add (Ev.own hn' hm' hu') .cint) (by omega))) hsl) (pick_take so (q + 1)))
              · exact Ev.item (Ev.own hn2 hm2 hu2) .cint (by decide) (by decide) rfl
            · exact Ev.item (R := isI) (xs := [(so.getD q (⟨0, 0, 0⟩, 0)).1.a, (so.getD q (⟨0, 0, 0⟩, 0)).1.b, (so.getD q (⟨0, 0, 0⟩, 0)).1.c, (so.getD q (⟨0, 0, 0⟩, 0)).2]) (Ev.item (R := isJ4) (F17.varC (P := isL isJ4 so) q1' po17 k' rfl rfl) (Ev.own hn' hm' hu') (by omega) (by omega) (by rw [Int.toNat_natCast]; exact hqs)) .cint (by decide) (by decide) rfl
            · refine Ev.callB (Ps := [isL isI ((so.drop q).map fun p => p.1.c)]) (g1.bi (by k_is) (by boot_by_name)) (EA.cons ?_ EA.nil) fun vs h' k z => b_sum (by exact hh) z
              refine Ev.comp (R := isJ4) (S := isI) (xs := so.drop q) (cl := []) (by exact hh) (Ev.itL (Pu.toL (Ev.slice (F17.varC (P := isL isJ4 so) q1' po17 k' rfl rfl) (.some (Ev.own hn' hm' hu')) .none hsl) (pick_drop so q))) (fun p => p.1.c) (fun y2 u2 C2 D2 m2 h2 hy2 hu2 k2 hn2 hm2 => ?_) (by rw [List.length_drop]; omega) rfl
              exact Ev.item (Ev.own hn2 hm2 hu2) .cint (by decide) (by decide) rfl
          have t18 := t17.strg (F17.toFm.str kb18)
          have order18 := F18.var (P := isL isJ4 so) (x := Str.ofString "order") ((upd_ne (by decide)).trans q1') (Mo.mo po17 s18)
          refine Ex.assignComp0 (R := isJ4) (S := isE3) (xs := so.reverse) F18 (by exact hh) (Ev.itL (Pu.toL (Ev.sliceS (order18 _) .none .none (Ev.neg (x := 1) .cint) (by decide) hsl) (pick_rev so))) (fun p => (p.1.c, p.1.b, p.1.a)) (fun y u C D m h1 hy' hu' k' hn' hm' => ?_) (by rw [List.length_reverse]; exact hsl) rfl fun vb h19 F19 kb19 s19 pb => ?_
          · exact Ev.list (R := isI) (EL.cons (Ev.item (Ev.own hn' hm' hu') .cint (by decide) (by decide) rfl) (EL.cons (Ev.item (Ev.own hn' hm' hu') .cint (by decide) (by decide) rfl) (EL.cons (Ev.item (Ev.own hn' hm' hu') .cint (by decide) (by decide) rfl) EL.nil)))
          have t19 := t18.strg (F18.toFm.str kb19)
          have g19 := Gb.at F19.kept
          generalize hbk : so.reverse.map (fun p : JK => (p.1.c, p.1.b, p.1.a)) = bk at pb
          have hbl : bk.length = so.length := by rw [← hbk, List.length_map, List.length_reverse]
          have back := F19.var (P := isL isE3 bk) (x := Str.ofString "back") upd_eq pb
          have due := F19.var (P := isI (maxL ((List.range so.length).map (dueK so)))) (x := Str.ofString "due") ((upd_ne (by decide)).trans upd_eq) pd
          generalize hX : bk.foldl (fun (e j : Int × Int × Int) => step3 e ⟨j.1, j.2.1, j.2.2⟩) (0, 0, 0) = X
          refine Ex.ret F19 (Pu.mono (Ev.eq (x := X.2.2) (Ev.item (R := isI) (xs := [X.1, X.2.1, X.2.2]) (Ev.callF (Ps := [isV (.ref 42), isL isE3 ((0, 0, 0) :: bk)]) (g19.gl (by k_is)) (g19.X _ _ (show (hdx.heap_39 w.params).lookup 30 = some _ by k_is) rfl) rfl (EA.cons (g19.gl (by k_is)) (EA.cons (Ev.addL (xs := [(0, 0, 0)]) (Ev.list (R := isE3) (EL.cons (Ev.list (R := isI) (EL.cons .cint (EL.cons .cint (EL.cons .cint EL.nil)))) EL.nil)) (back _) (by rw [hbl, hol, sizeLine_eq]; simp; omega)) EA.nil)) fun vs h' k z => ?_) .cint (by decide) (by decide) rfl) (due _)) fun v h' k e => ⟨?_, t19.keeps k⟩)
          · obtain ⟨z1, z2, rfl, r1, r2⟩ := z.two
            obtain rfl : z1 = .ref 42 := r1
            refine Pu.mono (c_reduce1 (R := isE3) (fun (e j : Int × Int × Int) => step3 e ⟨j.1, j.2.1, j.2.2⟩) ((hR.le (m := 5) (by decide)).deeper _) (g19.at k) ((g19.at k).X _ _ (show (hdx.heap_39 w.params).lookup 42 = some _ by k_is) rfl) rfl (fun A' h'' u' v' b' a' hR' k' hu' hv' => c_step2 (hR'.le (by decide)) ((g19.at k).at k') hu' hv' rfl rfl rfl) r2) fun v h'' k' e => ?_
            rw [hX] at e
            exact e
          · have hX2 : X = mk3 (so.reverse.map fun p => (⟨p.1.c, p.1.b, p.1.a⟩ : Job)) := by
              rw [← hX, ← hbk, mk3, List.foldl_map, List.foldl_map]
            have hs2 : ∀ x ∈ so.map (·.1), x ∈ (jobsL ns).map (·.1) := fun x hx => by
              obtain ⟨p, hp, rfl⟩ := List.mem_map.mp hx
              exact List.mem_map.mpr ⟨p, hjs ▸ hsub p hp, rfl⟩
            rw [hX2, due_eq (fun x hx => jobsL_nn ns x (hs2 x hx)) ((jobsL_dom ns).sub hs2) (by omega)] at e
            simpa using e
end Mine
end

section
-- E2
open PySem PySem.W PyProof.Rows PySem.Spec PySem.Calls
set_option maxRecDepth 100000
set_option maxHeartbeats 8000000
namespace Mine
theorem ns_hide {h : Heap} {X : List Addr} {a : Addr} {m : Vs} (x : h.Ns a m) (ha : a ∉ X) : (hideAll h X).Ns a m := by
  obtain ⟨o, es, n, e, r⟩ := x
  exact ⟨o, es, n, hideAll_get _ e ha, r⟩
theorem are_ints {xs : List Int} {vs : List Value} {h : Heap} (x : IntsAre vs xs) : Are isI xs vs h := by
  induction x with
  | nil => exact Are.nil
  | cons i t _ ih => exact Are.cons ⟨_, rfl⟩ ih
theorem inBut_hide {K : Frag} {h : Heap} {tb : List Addr} (X : K.In h) : InBut K tb (hideAll h tb) := fun a o e q => hideAll_get _ (X a o e) (by simpa using q)
theorem oldK_of {h h' : Heap} {tb : List Addr} (hk : Kept (hideAll h tb) h') (ht : ∀ t ∈ tb, isCodeTable h t ∧ h.get? t = some (tabObj #[]) ∧ ∃ ps, h'.get? t = some (tabObj ps)) : OldK h h' := by
  refine ⟨fun b o e => ?_, fun b o e => ?_⟩
  · by_cases q : b ∈ tb
    · obtain ⟨t1, t2, ps, t3⟩ := ht b q
      rw [e] at t2; cases t2
      exact .inr (.inl ⟨t1, rfl, #[], ps, rfl, by rw [t3]; simp⟩)
    · exact .inl (hk b o (hideAll_get _ e q))
  · by_cases q : b ∈ tb
    · obtain ⟨t1, t2, ps, t3⟩ := ht b q
      exact ⟨_, t3⟩
    · exact ⟨o, hk b o (hideAll_get _ e q)⟩
theorem KO_in {w : World} {h : Heap} (X : (hdx.heap_39 w.params).In h) {tb : List Addr} {a : Addr} {o : Obj} (e : (hdx.heap_39 w.params).lookup a = some o) (ha : a ∉ tb) : (hideAll h tb).get? a = some (KO w a) := by
  rw [KO, e]
  exact hideAll_get _ (X _ _ e) ha
theorem are_list {P : Params} {h : Heap} {l : Addr} {vs : List Value} {ns : List Int} {X : List Addr} (hW : Well P h (.ref l) (ofPy (.list (ns.map PyData.int)))) (hL : h.IsList l vs.toArray) (hI : IntsAre vs ns) (hX : ∀ x ∈ X, ∃ o, h.get? x = some o ∧ o.cls = .none) : isL isI ns (.ref l) (hideAll h X) := by
  obtain ⟨o, e1, e2, n, e3⟩ := hL
  have hl : l ∉ X := fun q => by
    obtain ⟨o', f1, f2⟩ := hX l q
    rw [e1] at f1; cases f1
    rw [f2] at e2; cases e2
  unfold ofPy at hW
  cases hW with
  | list e a =>
    rw [e1] at e
    cases e
    cases e3
    exact ⟨l, vs, 0, rfl, hideAll_get _ e1 hl, are_ints hI⟩
theorem fin2 : PySem.Challenge.rw_oy0001_02.Holds := by
  refine hdx ?_
  k_fill
  intro w s₀ s₁ mg mb G Y fa o pm cd doc dV kV ho hd hcd hD hmg hg args vals as hpre hlay hrd hwl hlo
  have KX := km_in_of Y
  have e16 := km_tabs_of Y 16 (by decide)
  refine Ground.open G ?_
  intro T B D TE TW
  wrow_args hpre hlay hrd hwl hlo
  x_fa T KX hmg
  rename IntsAre _ _ => hI
  rename Well _ _ _ _ => hW
  rename Heap.IsList _ _ _ => hL
  rename ¬ _ < _ => hlen
  clear Y G
  have e20 := KX _ _ (show (hdx.heap_39 w.params).lookup 20 = some _ by k_is)
  have e3 := KX _ _ (show (hdx.heap_39 w.params).lookup 3 = some _ by k_is)
  have e2 := KX _ _ (show (hdx.heap_39 w.params).lookup 2 = some _ by k_is)
  have gT := T.g
  have C20 : isCodeTable s₁.heap 16 := ⟨20, _, _, e20, rfl, rfl, rfl⟩
  obtain ⟨bm, ob, b1, b2, b3, b4, b5, b6⟩ := T.bmain
  obtain rfl : bm = 4 := by
    have q := mg_of KX gT (show nsIn (hdx.heap_39 w.params) mainGlobals (Str.ofString "__builtins__") = some (some (.ref 4)) by k_is)
    exact Value.ref.inj (Option.some.inj (b1.symm.trans q))
  have L : LBase2 w mg mb (hideAll s₁.heap [16]) := by
    refine ⟨⟨inBut_hide KX, rfl, ns_hide gT (by decide), ns_hide T.b (by decide), ?_, T.builtins⟩, ?_⟩
    · obtain ⟨m, x, y⟩ := T.nolimit
      exact ⟨m, ns_hide x (by decide), y⟩
    · obtain ⟨mm, q, _⟩ := (T.seer (by decide +kernel)).mods
      obtain ⟨o1, es1, n1, q1, _⟩ := q
      obtain ⟨c4, d4, dt4, sl4⟩ := ob
      cases b4; cases b5; cases b6
      refine ⟨⟨mb, mg, ns_hide T.b (by decide), (T.builtins _ (by decide)).trans (by boot_by_name), (T.builtins _ (by decide)).trans (by boot_by_name), ns_hide gT (by decide), mg_none_of KX gT (by k_is)⟩, ⟨o1, hideAll_get _ q1 (by decide)⟩, hideAll_get _ e2 (by decide), ?_, ⟨_, hideAll_get _ b3 (by decide)⟩, ?_, ?_⟩
      · exact KO_in KX (by k_is) (by decide)
      · exact KO_in KX (by k_is) (by decide)
      · exact KO_in KX (by k_is) (by decide)
  obtain ⟨h1, g1, d1, tk1, os1⟩ := s₁
  obtain rfl : g1 = #[] := hg
  have hX0 : ∀ x ∈ [16], ∃ o, h1.get? x = some o ∧ o.cls = .none := fun x hx => by
    obtain rfl := List.mem_singleton.mp hx
    exact ⟨_, e16, rfl⟩
  refine c_law2 (c := ⟨_, w, callerA, #[], d1, os1, []⟩) (h0 := hideAll h1 [16]) (h1 := h1) ⟨rfl, rfl⟩ rfl ⟨rfl, Nat.lt_of_sub_pos (show 0 < recursionLimit - (callerA.depth + 13) by decide), Nat.lt_of_sub_pos (show 0 < cLine - (callerA.units + 8 * 13) by decide)⟩ (show callerA.depth ≤ 400 by decide) (show callerA.units ≤ 1900 by decide) (fun b o e => of_hideAll _ e) (hideAll_none _ (by decide)) L ?_ (are_list hW hL hI hX0) (by omega) fun h3 tk3 k3 t3 => ?_
  · exact .inl e16
  · refine ⟨.inl ⟨_, _, [], rfl, fun _ => rfl, ReadsW.bool true, ?_, fun _ => ⟨List.nodup_nil, fun _ hm => (nomatch hm)⟩⟩, oldK_of k3 ?_, rfl, AllBare.empty⟩
    · first | rfl | wrow_post
    · intro t ht
      obtain rfl := List.mem_singleton.mp ht
      refine ⟨C20, e16, ?_⟩
      rcases t3 with z | ⟨kk, z⟩
      · exact ⟨_, z⟩
      · exact ⟨_, z.tab⟩
end Mine
end

theorem PySem.Challenge.cw_oy0001_02_holds : PySem.Challenge.rw_oy0001_02.Holds :=
  Mine.fin2
