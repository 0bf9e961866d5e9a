import PyProof.Rows.All
import Wide.All
import OpenK.AllK
import Wide.FinOn
import Lean
import PySem.Challenge.RW_ph0056_04
open PySem PySem.W PyProof.Rows
set_option linter.unusedSimpArgs false
set_option linter.unusedVariables false
set_option linter.unusedSectionVars false
set_option Elab.async false
set_option maxRecDepth 100000
set_option tactic.hygienic false
set_option bootstrap.genMatcherCode false
set_option genSizeOf false
set_option compiler.extract_closed false
namespace Mine

inductive MV where
  | none
  | bool (b : Bool)
  | int (i : Int)
  | str (s : Str)
  | ref (i : Nat)
  | tup (vs : List MV)
  | lst (vs : List MV)
  | rng (a b : Int)
  | strm (text : Str) (t : Nat)

inductive MO where
  | list (vs : List MV)
  | inst (c : Addr) (d : Nat) (items : Option (List MV))
  | attrs (l : List (Str × MV))
  | dict (l : List (Str × MV))
  | citer (f : Addr) (i : Option Nat)

noncomputable abbrev MH := List MO
noncomputable abbrev ME := List (Nat × MV)
theorem hide {g : Prop} (h : ∀ G : Prop, (g → G) → G) : g := h g id

structure Cx where
  prog : Program
  w : World
  base : Heap
  T : List (Addr × Addr)
  os : OsState
  K : Frag
  mg : Str → Option Value
  mb : Str → Option Value
  tbl : List Str
  give : FuncData → Prop
  gv : Addr → Option (Pos × Str)

noncomputable abbrev Cx.M (C : Cx) : Model := model C.prog C.w
noncomputable abbrev Cx.X (C : Cx) : List Addr := C.T.map (·.2)

structure Wd where
  ids : List Addr
  fz : List (Addr × Obj)
  st : List (Str × Addr × Addr)
  pw : Program × World

noncomputable def Wd.has (ρ : Wd) (a : Addr) : Prop := a ∈ ρ.ids ∨ ∃ o, (a, o) ∈ ρ.fz
structure Wd.le (ρ ρ' : Wd) : Prop where
  ids : ρ.ids <+: ρ'.ids
  fz : ∀ p ∈ ρ.fz, p ∈ ρ'.fz
  st : ∀ p ∈ ρ.st, p ∈ ρ'.st
  pw : ρ'.pw = ρ.pw
theorem Wd.le.refl (ρ : Wd) : ρ.le ρ := ⟨⟨[], by simp⟩, fun _ h => h, fun _ h => h, rfl⟩
theorem Wd.le.trans {ρ ρ' ρ'' : Wd} (x : ρ.le ρ') (y : ρ'.le ρ'') : ρ.le ρ'' := ⟨x.ids.trans y.ids, fun p h => y.fz p (x.fz p h), fun p h => y.st p (x.st p h), y.pw.trans x.pw⟩
noncomputable abbrev Wd.push (ρ : Wd) (a : Addr) : Wd := ⟨ρ.ids ++ [a], ρ.fz, ρ.st, ρ.pw⟩
noncomputable abbrev Wd.froze (ρ : Wd) (a : Addr) (o : Obj) : Wd := ⟨ρ.ids, (a, o) :: ρ.fz, ρ.st, ρ.pw⟩
theorem Wd.le_push (ρ : Wd) (a : Addr) : ρ.le (ρ.push a) := ⟨⟨[a], rfl⟩, fun _ h => h, fun _ h => h, rfl⟩
theorem Wd.le_froze (ρ : Wd) (a : Addr) (o : Obj) : ρ.le (ρ.froze a o) := ⟨⟨[], by simp⟩, fun _ h => List.mem_cons_of_mem _ h, fun _ h => h, rfl⟩
theorem pre_get0 {l l' : List Addr} (hp : l <+: l') {i : Nat} {a : Addr} (h : l[i]? = some a) : l'[i]? = some a := by
  obtain ⟨t, rfl⟩ := hp
  rw [List.getElem?_append_left]
  · exact h
  · exact (List.getElem?_eq_some_iff.mp h).1
theorem pre_get {ρ ρ' : Wd} (hp : ρ.le ρ') {i : Nat} {a : Addr} (h : ρ.ids[i]? = some a) : ρ'.ids[i]? = some a := pre_get0 hp.ids h

noncomputable abbrev listO (vs : List Value) (n : Nat) : Obj := { cls := .type "list", data := .seq vs.toArray n }
noncomputable abbrev tupO (vs : List Value) (n : Nat) : Obj := { cls := .type "tuple", data := .seq vs.toArray n }
noncomputable abbrev rngO (a b : Int) (t u v : Tok) : Obj := { cls := .type "range", dict := none, data := .fields #[.int a t, .int b u, .int 1 v], slots := #[] }

noncomputable def CodeFz (fz : List (Addr × Obj)) (cv : Value) (q : Str) : Prop := ∃ a o vs t, cv = .ref a ∧ (a, o) ∈ fz ∧ o.data = .fields vs ∧ vs[1]? = some (.str q t)
theorem CodeFz.mono {fz fz' : List (Addr × Obj)} (hz : ∀ p ∈ fz, p ∈ fz') {cv : Value} {q : Str} (h : CodeFz fz cv q) : CodeFz fz' cv q :=
  let ⟨a, o, vs, t, e, m, r⟩ := h; ⟨a, o, vs, t, e, hz _ m, r⟩
noncomputable def TabQ (gv : Addr → Option (Pos × Str)) (fz : List (Addr × Obj)) (P : Addr) (ps : Array Value) : Prop := ∀ pos q, gv P = some (pos, q) → ∀ cv, codeAmong pos ps.toList = some cv → CodeFz fz cv q
theorem TabQ.mono {gv : Addr → Option (Pos × Str)} {fz fz' : List (Addr × Obj)} (hz : ∀ p ∈ fz, p ∈ fz') {P : Addr} {ps : Array Value} (h : TabQ gv fz P ps) : TabQ gv fz' P ps := fun pos q e cv hc => (h pos q e cv hc).mono hz
noncomputable def StrmOk (give : FuncData → Prop) (fz : List (Addr × Obj)) (x : Str) (at_ a : Addr) : Prop :=
  ∃ o od oD c oc fd ct tt cat, (a, o) ∈ fz ∧ o.cls = .type "function" ∧ (∃ f, o.data = .func f) ∧ o.dict = some od ∧
    (od, oD) ∈ fz ∧ lookIn "read" oD = some (some (.ref c)) ∧ (c, oc) ∈ fz ∧ oc.cls = .type "function" ∧ oc.data = .func fd ∧ (give fd ∧ CodeFz fz fd.code fd.qualname) ∧
    fd.closure.lookup ("at" : Str) = some cat ∧ fd.closure.lookup ("text" : Str) = some ct ∧
    (∃ o, (ct, o) ∈ fz ∧ o.data = .cell (some (.str x tt))) ∧ (∃ o, (cat, o) ∈ fz ∧ o.data = .cell (some (.ref at_)))

mutual
noncomputable def VR (ρ : Wd) : MV → Value → Prop
  | .none, v => v = .none
  | .bool b, v => v = .bool b
  | .int i, v => ∃ t, v = .int i t
  | .str s, v => ∃ t, v = .str s t
  | .ref i, v => ∃ a, ρ.ids[i]? = some a ∧ v = .ref a
  | .tup ms, v => ∃ a vs n, (a, tupO vs n) ∈ ρ.fz ∧ v = .ref a ∧ VRl ρ ms vs
  | .lst ms, v => ∃ a vs n, (a, listO vs n) ∈ ρ.fz ∧ v = .ref a ∧ VRl ρ ms vs
  | .rng x y, v => ∃ a t u w, (a, rngO x y t u w) ∈ ρ.fz ∧ v = .ref a
  | .strm x t, v => ∃ a at_, v = .ref a ∧ ρ.ids[t]? = some at_ ∧ (x, at_, a) ∈ ρ.st
noncomputable def VRl (ρ : Wd) : List MV → List Value → Prop
  | [], vs => vs = []
  | m :: ms, vs => ∃ v ws, vs = v :: ws ∧ VR ρ m v ∧ VRl ρ ms ws
end

mutual
theorem VR.mono {ρ ρ' : Wd} (hp : ρ.le ρ') : ∀ {mv : MV} {v : Value}, VR ρ mv v → VR ρ' mv v
  | .none, _, h => by unfold VR at h ⊢; exact h
  | .bool _, _, h => by unfold VR at h ⊢; exact h
  | .int _, _, h => by unfold VR at h ⊢; exact h
  | .str _, _, h => by unfold VR at h ⊢; exact h
  | .ref _, _, h => by unfold VR at h ⊢; obtain ⟨a, h1, h2⟩ := h; exact ⟨a, pre_get hp h1, h2⟩
  | .tup ms, _, h => by unfold VR at h ⊢; obtain ⟨a, vs, n, h1, h2, h3⟩ := h; exact ⟨a, vs, n, hp.fz _ h1, h2, VRl.mono hp h3⟩
  | .lst ms, _, h => by unfold VR at h ⊢; obtain ⟨a, vs, n, h1, h2, h3⟩ := h; exact ⟨a, vs, n, hp.fz _ h1, h2, VRl.mono hp h3⟩
  | .rng _ _, _, h => by unfold VR at h ⊢; obtain ⟨a, t, u, w, h1, h2⟩ := h; exact ⟨a, t, u, w, hp.fz _ h1, h2⟩
  | .strm _ _, _, h => by unfold VR at h ⊢; obtain ⟨a, at_, h1, h2, h3⟩ := h; exact ⟨a, at_, h1, pre_get hp h2, hp.st _ h3⟩
theorem VRl.mono {ρ ρ' : Wd} (hp : ρ.le ρ') : ∀ {ms : List MV} {vs : List Value}, VRl ρ ms vs → VRl ρ' ms vs
  | [], _, h => by unfold VRl at h ⊢; exact h
  | m :: ms, _, h => by unfold VRl at h ⊢; obtain ⟨v, ws, h1, h2, h3⟩ := h; exact ⟨v, ws, h1, VR.mono hp h2, VRl.mono hp h3⟩
end

inductive VRs (ρ : Wd) : List MV → List Value → Prop where
  | nil : VRs ρ [] []
  | cons {m v ms vs} : VR ρ m v → VRs ρ ms vs → VRs ρ (m :: ms) (v :: vs)

theorem VRl.s {ρ : Wd} : ∀ {ms : List MV} {vs : List Value}, VRl ρ ms vs → VRs ρ ms vs
  | [], _, h => by unfold VRl at h; subst h; exact .nil
  | m :: ms, _, h => by unfold VRl at h; obtain ⟨v, ws, rfl, h2, h3⟩ := h; exact .cons h2 h3.s
theorem VRs.l {ρ : Wd} {ms : List MV} {vs : List Value} (h : VRs ρ ms vs) : VRl ρ ms vs := by
  induction h with
  | nil => unfold VRl; rfl
  | cons h _ ih => unfold VRl; exact ⟨_, _, rfl, h, ih⟩

section
variable {ρ : Wd} {v : Value}
theorem VR.none_ (h : VR ρ .none v) : v = .none := by unfold VR at h; exact h
theorem VR.bool_ {b : Bool} (h : VR ρ (.bool b) v) : v = .bool b := by unfold VR at h; exact h
theorem VR.int_ {i : Int} (h : VR ρ (.int i) v) : ∃ t, v = .int i t := by unfold VR at h; exact h
theorem VR.str_ {x : Str} (h : VR ρ (.str x) v) : ∃ t, v = .str x t := by unfold VR at h; exact h
theorem VR.ref_ {i : Nat} (h : VR ρ (.ref i) v) : ∃ a, ρ.ids[i]? = some a ∧ v = .ref a := by unfold VR at h; exact h
theorem VR.tup_ {ms : List MV} (h : VR ρ (.tup ms) v) : ∃ a vs n, (a, tupO vs n) ∈ ρ.fz ∧ v = .ref a ∧ VRs ρ ms vs := by
  unfold VR at h; obtain ⟨a, vs, n, h1, h2, h3⟩ := h; exact ⟨a, vs, n, h1, h2, h3.s⟩
theorem VR.lst_ {ms : List MV} (h : VR ρ (.lst ms) v) : ∃ a vs n, (a, listO vs n) ∈ ρ.fz ∧ v = .ref a ∧ VRs ρ ms vs := by
  unfold VR at h; obtain ⟨a, vs, n, h1, h2, h3⟩ := h; exact ⟨a, vs, n, h1, h2, h3.s⟩
theorem VR.rng_ {x y : Int} (h : VR ρ (.rng x y) v) : ∃ a t u w, (a, rngO x y t u w) ∈ ρ.fz ∧ v = .ref a := by unfold VR at h; exact h
theorem VR.strm_ {x : Str} {t : Nat} (h : VR ρ (.strm x t) v) : ∃ a at_, v = .ref a ∧ ρ.ids[t]? = some at_ ∧ (x, at_, a) ∈ ρ.st := by unfold VR at h; exact h
theorem VR.none' : VR ρ .none .none := by unfold VR; rfl
theorem VR.bool' {b : Bool} : VR ρ (.bool b) (.bool b) := by unfold VR; rfl
theorem VR.int' {i : Int} {t : Tok} : VR ρ (.int i) (.int i t) := by unfold VR; exact ⟨t, rfl⟩
theorem VR.str' {x : Str} {t : Tok} : VR ρ (.str x) (.str x t) := by unfold VR; exact ⟨t, rfl⟩
theorem VR.ref' {i : Nat} {a : Addr} (h : ρ.ids[i]? = some a) : VR ρ (.ref i) (.ref a) := by unfold VR; exact ⟨a, h, rfl⟩
theorem VR.tup' {a : Addr} {vs : List Value} {n : Nat} {ms : List MV} (h : (a, tupO vs n) ∈ ρ.fz) (hv : VRs ρ ms vs) : VR ρ (.tup ms) (.ref a) := by unfold VR; exact ⟨a, vs, n, h, rfl, hv.l⟩
theorem VR.lst' {a : Addr} {vs : List Value} {n : Nat} {ms : List MV} (h : (a, listO vs n) ∈ ρ.fz) (hv : VRs ρ ms vs) : VR ρ (.lst ms) (.ref a) := by unfold VR; exact ⟨a, vs, n, h, rfl, hv.l⟩
theorem VR.rng' {a : Addr} {x y : Int} {t u w : Tok} (h : (a, rngO x y t u w) ∈ ρ.fz) : VR ρ (.rng x y) (.ref a) := by unfold VR; exact ⟨a, t, u, w, h, rfl⟩
end

namespace VRs
variable {ρ ρ' : Wd} {ms : List MV} {vs : List Value}
theorem mono (h : VRs ρ ms vs) (hp : ρ.le ρ') : VRs ρ' ms vs := by
  induction h with
  | nil => exact .nil
  | cons h _ ih => exact .cons (h.mono hp) ih
theorem length (h : VRs ρ ms vs) : vs.length = ms.length := by
  induction h with
  | nil => rfl
  | cons _ _ ih => simp [ih]
theorem get {i : Nat} {m : MV} (h : VRs ρ ms vs) (hi : ms[i]? = some m) : ∃ v, vs[i]? = some v ∧ VR ρ m v := by
  induction h generalizing i with
  | nil => simp at hi
  | cons h _ ih =>
    cases i with
    | zero => simp at hi; subst hi; exact ⟨_, rfl, h⟩
    | succ i => simpa using ih (by simpa using hi)
theorem get_none {i : Nat} (h : VRs ρ ms vs) (hi : ms[i]? = none) : vs[i]? = none := by
  rw [List.getElem?_eq_none_iff] at hi ⊢
  rw [h.length]; exact hi
theorem append {ms' : List MV} {vs' : List Value} (h : VRs ρ ms vs) (h' : VRs ρ ms' vs') : VRs ρ (ms ++ ms') (vs ++ vs') := by
  induction h with
  | nil => exact h'
  | cons h _ ih => exact .cons h ih
theorem one {m : MV} {v : Value} (h : VR ρ m v) : VRs ρ [m] [v] := .cons h .nil
theorem set {i : Nat} {m : MV} {v : Value} (h : VRs ρ ms vs) (hm : VR ρ m v) : VRs ρ (ms.set i m) (vs.set i v) := by
  induction h generalizing i with
  | nil => exact .nil
  | cons h t ih =>
    cases i with
    | zero => exact .cons hm t
    | succ i => exact .cons h ih
theorem drop {n : Nat} (h : VRs ρ ms vs) : VRs ρ (ms.drop n) (vs.drop n) := by
  induction h generalizing n with
  | nil => simp; exact .nil
  | cons h t ih =>
    cases n with
    | zero => exact .cons h t
    | succ n => exact ih
theorem take {n : Nat} (h : VRs ρ ms vs) : VRs ρ (ms.take n) (vs.take n) := by
  induction h generalizing n with
  | nil => simp; exact .nil
  | cons h t ih =>
    cases n with
    | zero => exact .nil
    | succ n => exact .cons h ih
theorem reverse (h : VRs ρ ms vs) : VRs ρ ms.reverse vs.reverse := by
  induction h with
  | nil => exact .nil
  | cons h _ ih => rw [List.reverse_cons, List.reverse_cons]; exact ih.append (.one h)
theorem eraseIdx {i : Nat} (h : VRs ρ ms vs) : VRs ρ (ms.eraseIdx i) (vs.eraseIdx i) := by
  induction h generalizing i with
  | nil => exact .nil
  | cons h t ih =>
    cases i with
    | zero => exact t
    | succ i => exact .cons h ih
end VRs

inductive AttrsR (ρ : Wd) : List (Str × MV) → List DictEntry → Prop where
  | nil : AttrsR ρ [] []
  | cons {k mv e l es} : (∃ t, e.key = .str k t) → VR ρ mv e.val → AttrsR ρ l es → AttrsR ρ ((k, mv) :: l) (e :: es)
theorem AttrsR.mono {ρ ρ' : Wd} {l : List (Str × MV)} {es : List DictEntry} (h : AttrsR ρ l es) (hp : ρ.le ρ') : AttrsR ρ' l es := by
  induction h with
  | nil => exact .nil
  | cons h1 h2 _ ih => exact .cons h1 (h2.mono hp) ih
noncomputable def NsO (ρ : Wd) (l : List (Str × MV)) (o : Obj) : Prop := ∃ es n, o = dictOf es n ∧ AttrsR ρ l es

noncomputable def DictR (p : Program) (w : World) (ρ : Wd) (l : List (Str × MV)) (o : Obj) : Prop := ∃ kvs : List (Str × Value), o.IsDictOf (strKind p w) kvs ∧ kvs.map (·.1) = l.map (·.1) ∧ VRs ρ (l.map (·.2)) (kvs.map (·.2))
theorem DictR.mono {p : Program} {w : World} {ρ ρ' : Wd} {l : List (Str × MV)} {o : Obj} (h : DictR p w ρ l o) (hp : ρ.le ρ') : DictR p w ρ' l o := let ⟨kvs, a, b, c⟩ := h; ⟨kvs, a, b, c.mono hp⟩
theorem DictR.live {p : Program} {w : World} {ρ : Wd} {l : List (Str × MV)} {o : Obj} (h : DictR p w ρ l o) : o.isFreed = false := by
  obtain ⟨kvs, ⟨es, ep, _, hd, _⟩, _⟩ := h
  exact Obj.isFreed_of_dict hd

noncomputable def ObjR (ρ : Wd) (a : Addr) : MO → Obj → Prop
  | .list ms, o => ∃ vs n, o = listO vs n ∧ VRs ρ ms vs
  | .inst c d none, o => ∃ da, ρ.ids[d]? = some da ∧ o = { cls := .ref c, dict := some da, data := .plain }
  | .inst c d (some ms), o => ∃ da vs n, ρ.ids[d]? = some da ∧ o = { cls := .ref c, dict := some da, data := .seq vs.toArray n } ∧ VRs ρ ms vs
  | .attrs l, o => NsO ρ l o
  | .dict l, o => (a == sysModules) = false ∧ DictR ρ.pw.1 ρ.pw.2 ρ l o
  | .citer f (some i), o => ∃ x ma te, ρ.ids[i]? = some x ∧ (ma, ({ cls := .type "method", data := .fields #[.ref f, .ref x] } : Obj)) ∈ ρ.fz ∧ o = { cls := .type "callable_iterator", data := .fields #[.ref ma, .str "" te, .bool false] }
  | .citer _ none, o => o = { cls := .type "callable_iterator", data := .fields #[.none, .none, .bool true] }

theorem NsO.mono {ρ ρ' : Wd} {l : List (Str × MV)} {o : Obj} (h : NsO ρ l o) (hp : ρ.le ρ') : NsO ρ' l o :=
  let ⟨es, n, e, r⟩ := h; ⟨es, n, e, r.mono hp⟩

theorem ObjR.mono {ρ ρ' : Wd} {a : Addr} {mo : MO} {o : Obj} (h : ObjR ρ a mo o) (hp : ρ.le ρ') : ObjR ρ' a mo o := by
  cases mo with
  | list ms => obtain ⟨vs, n, e, r⟩ := h; exact ⟨vs, n, e, r.mono hp⟩
  | inst c d it =>
    cases it with
    | none => obtain ⟨da, hd, e⟩ := h; exact ⟨da, pre_get hp hd, e⟩
    | some ms => obtain ⟨da, vs, n, hd, e, r⟩ := h; exact ⟨da, vs, n, pre_get hp hd, e, r.mono hp⟩
  | attrs l => exact NsO.mono h hp
  | dict l => exact ⟨h.1, by rw [hp.pw]; exact DictR.mono h.2 hp⟩
  | citer f i =>
    cases i with
    | none => exact h
    | some i => obtain ⟨x, ma, te, h1, h2, h3⟩ := h; exact ⟨x, ma, te, pre_get hp h1, hp.fz _ h2, h3⟩

theorem ObjR.live {ρ : Wd} {a : Addr} {mo : MO} {o : Obj} (h : ObjR ρ a mo o) : o.isFreed = false := by
  cases mo with
  | list ms => obtain ⟨vs, n, rfl, r⟩ := h; rfl
  | inst c d it =>
    cases it with
    | none => obtain ⟨da, hd, rfl⟩ := h; rfl
    | some ms => obtain ⟨da, vs, n, hd, rfl, r⟩ := h; rfl
  | attrs l => obtain ⟨es, n, rfl, r⟩ := h; rfl
  | dict l => exact DictR.live h.2
  | citer f i =>
    cases i with
    | none => cases h; rfl
    | some i => obtain ⟨x, ma, te, h1, h2, rfl⟩ := h; rfl

noncomputable def CodeTab (h : Heap) (c P : Addr) (ps : Array Value) : Prop := h.IsCode c P ps ∧ h.TableAt c P ps
theorem CodeTab.keeps {h h' : Heap} {c P : Addr} {ps : Array Value} (x : CodeTab h c P ps) (hk : ∀ b o, h.get? b = some o → h'.get? b = some o) : CodeTab h' c P ps := ⟨x.1.keeps hk, x.2.keeps hk⟩
theorem CodeTab.extBut {h h' : Heap} {c P a : Addr} {ps : Array Value} (x : CodeTab h c P ps) (hs : Heap.ExtBut a h h') (hc : c ≠ a) (hP : P ≠ a) : CodeTab h' c P ps := ⟨x.1.extBut hs hc hP, x.2.extBut hs hc hP⟩
structure Inv (C : Cx) (ρ : Wd) (mh : MH) (h : Heap) : Prop where
  len : ρ.ids.length = mh.length
  nd : ρ.ids.Nodup
  obj : ∀ (i : Nat) (mo : MO), mh[i]? = some mo → ∃ (a : Addr) (o : Obj), ρ.ids[i]? = some a ∧ h.get? a = some o ∧ ObjR ρ a mo o
  fz : ∀ p ∈ ρ.fz, h.get? p.1 = some p.2
  sep : ∀ p ∈ ρ.fz, p.1 ∉ ρ.ids
  st : ∀ p ∈ ρ.st, StrmOk C.give ρ.fz p.1 p.2.1 p.2.2
  new : ∀ a ∈ ρ.ids, C.base.get? a = none
  newf : ∀ p ∈ ρ.fz, p.1 ∉ C.X
  keep : ∀ b o, C.base.get? b = some o → b ∉ C.X → h.get? b = some o
  tab : ∀ p ∈ C.T, ∃ ps, CodeTab h p.1 p.2 ps ∧ TabQ C.gv ρ.fz p.2 ps
  xb : ∀ p ∈ C.T, (∃ o, C.base.get? p.1 = some o) ∧ (∃ o, C.base.get? p.2 = some o) ∧ p.1 ∉ C.X
  pw : ρ.pw = (C.prog, C.w)

theorem Inv.x_base {C : Cx} {ρ : Wd} {mh : MH} {h : Heap} (I : Inv C ρ mh h) {a : Addr} (ha : a ∈ C.X) : ∃ o, C.base.get? a = some o := by
  obtain ⟨p, hp, rfl⟩ := List.mem_map.mp ha
  exact (I.xb p hp).2.1
theorem Inv.x_live {C : Cx} {ρ : Wd} {mh : MH} {h : Heap} (I : Inv C ρ mh h) {a : Addr} (ha : a ∈ C.X) : ∃ o, h.get? a = some o := by
  obtain ⟨p, hp, rfl⟩ := List.mem_map.mp ha
  obtain ⟨ps, ⟨⟨o, vs, file, tf, flags, tg, inF, text, tt, op, ho, hd, h11, h2, h7, h9, h10, hop, r⟩, _⟩, _⟩ := I.tab p hp
  exact ⟨op, hop⟩
theorem Inv.not_x {C : Cx} {ρ : Wd} {mh : MH} {h : Heap} (I : Inv C ρ mh h) {a : Addr} (ha : C.base.get? a = none) : a ∉ C.X := fun hx => by
  obtain ⟨o, e⟩ := I.x_base hx
  rw [e] at ha; cases ha
theorem Inv.id_x {C : Cx} {ρ : Wd} {mh : MH} {h : Heap} (I : Inv C ρ mh h) {a : Addr} (ha : a ∈ ρ.ids) : a ∉ C.X := I.not_x (I.new a ha)

theorem Inv.at {C : Cx} {ρ : Wd} {mh : MH} {h : Heap} (I : Inv C ρ mh h) {i : Nat} {mo : MO} (hi : mh[i]? = some mo) {a : Addr} (ha : ρ.ids[i]? = some a) :
    ∃ o, h.get? a = some o ∧ ObjR ρ a mo o := by
  obtain ⟨a', o, h1, h2, h3⟩ := I.obj i mo hi
  rw [ha] at h1; cases h1
  exact ⟨o, h2, h3⟩

theorem Inv.liveId {C : Cx} {ρ : Wd} {mh : MH} {h : Heap} (I : Inv C ρ mh h) {a : Addr} (ha : a ∈ ρ.ids) : ∃ o, h.get? a = some o := by
  obtain ⟨i, hi, e⟩ := List.mem_iff_getElem.mp ha
  have hl : i < mh.length := I.len ▸ hi
  obtain ⟨a', o, h1, h2, _⟩ := I.obj i mh[i] (List.getElem?_eq_getElem hl)
  rw [List.getElem?_eq_getElem hi, e] at h1
  cases h1
  exact ⟨o, h2⟩
theorem Inv.live {C : Cx} {ρ : Wd} {mh : MH} {h : Heap} (I : Inv C ρ mh h) {a : Addr} (ha : ρ.has a) : ∃ o, h.get? a = some o := by
  rcases ha with ha | ⟨o, ha⟩
  · exact I.liveId ha
  · exact ⟨o, I.fz _ ha⟩

theorem get_size (h : Heap) : h.get? h.objs.size = none := by
  cases e : h.get? h.objs.size with
  | none => rfl
  | some o => exact absurd (Heap.lt_size e) (Nat.lt_irrefl _)

theorem Inv.fresh {C : Cx} {ρ : Wd} {mh : MH} {h : Heap} (I : Inv C ρ mh h) {a : Addr} (ha : h.get? a = none) : ¬ ρ.has a ∧ C.base.get? a = none := by
  have h1 : ¬ ρ.has a := fun hm => by obtain ⟨o, e⟩ := I.live hm; rw [e] at ha; cases ha
  refine ⟨h1, ?_⟩
  cases e : C.base.get? a with
  | none => rfl
  | some o =>
    by_cases hx : a ∈ C.X
    · obtain ⟨o', e'⟩ := I.x_live hx; rw [e'] at ha; cases ha
    · rw [I.keep a o e hx] at ha; cases ha

theorem Inv.tabKeep {C : Cx} {ρ : Wd} {mh : MH} {h h' : Heap} (I : Inv C ρ mh h) (hk : ∀ p ∈ C.T, ∀ b o, b = p.1 ∨ b = p.2 → h.get? b = some o → h'.get? b = some o) : ∀ p ∈ C.T, ∃ ps, CodeTab h' p.1 p.2 ps ∧ TabQ C.gv ρ.fz p.2 ps := by
  intro p hp
  obtain ⟨ps, ⟨⟨o, vs, file, tf, flags, tg, inF, text, tt, op, ho, hd, h11, h2, h7, h9, h10, hop, r⟩, ⟨o', vs', a', r'⟩, t'⟩, tq⟩ := I.tab p hp
  exact ⟨ps, ⟨⟨o, vs, file, tf, flags, tg, inF, text, tt, op, hk p hp _ _ (.inl rfl) ho, hd, h11, h2, h7, h9, h10, hk p hp _ _ (.inr rfl) hop, r⟩, ⟨o', vs', hk p hp _ _ (.inl rfl) a', r'⟩, hk p hp _ _ (.inr rfl) t'⟩, tq⟩

theorem mem_X {C : Cx} {p : Addr × Addr} (h : p ∈ C.T) : p.2 ∈ C.X := List.mem_map.mpr ⟨p, h, rfl⟩

theorem Inv.junk {C : Cx} {ρ : Wd} {mh : MH} {h h' : Heap} (I : Inv C ρ mh h) (hk : ∀ b o, h.get? b = some o → h'.get? b = some o) : Inv C ρ mh h' :=
  ⟨I.len, I.nd, fun i mo hi => let ⟨a, o, h1, h2, h3⟩ := I.obj i mo hi; ⟨a, o, h1, hk _ _ h2, h3⟩, fun p hp => hk _ _ (I.fz p hp), I.sep, I.st, I.new, I.newf,
    fun b o e hx => hk _ _ (I.keep b o e hx), I.tabKeep fun _ _ b o _ e => hk b o e, I.xb, I.pw⟩

theorem Inv.push {C : Cx} {ρ : Wd} {mh : MH} {h : Heap} (I : Inv C ρ mh h) {mo : MO} {o : Obj} (ho : ObjR ρ h.objs.size mo o) :
    Inv C (ρ.push h.objs.size) (mh ++ [mo]) (h.push o) := by
  have fr := I.fresh (get_size h)
  have J := I.junk (h' := h.push o) fun b o' e => Heap.get?_push_of_some _ e
  have hp : ρ.le (ρ.push h.objs.size) := ρ.le_push _
  refine ⟨by simp [I.len], ?_, fun i mo' hi => ?_, J.fz, fun p hm => ?_, J.st, fun a ha => ?_, J.newf, J.keep, J.tab, J.xb, I.pw⟩
  · show (ρ.ids ++ [h.objs.size]).Nodup
    rw [List.nodup_append]
    refine ⟨I.nd, by simp, fun a ha b hb => ?_⟩
    simp at hb; subst hb
    exact fun e => fr.1 (.inl (e ▸ ha))
  · by_cases hl : i < mh.length
    · rw [List.getElem?_append_left hl] at hi
      obtain ⟨a, o', h1, h2, h3⟩ := J.obj i mo' hi
      exact ⟨a, o', pre_get hp h1, h2, h3.mono hp⟩
    · rw [List.getElem?_append_right (Nat.not_lt.mp hl)] at hi
      have h0 : i - mh.length = 0 := by
        cases hk : i - mh.length with
        | zero => rfl
        | succ n => rw [hk] at hi; simp at hi
      rw [h0] at hi
      simp at hi; subst hi
      have : i = ρ.ids.length := by rw [I.len]; lia
      subst this
      exact ⟨h.objs.size, o, by simp, Heap.get?_push_size _ ho.live, ho.mono hp⟩
  · show p.1 ∉ ρ.ids ++ [h.objs.size]
    rw [List.mem_append]
    rintro (q | q)
    · exact I.sep p hm q
    · simp at q; exact fr.1 (.inr ⟨p.2, by rw [← q]; exact hm⟩)
  · rcases List.mem_append.mp ha with ha | ha
    · exact I.new a ha
    · simp at ha; subst ha; exact fr.2

theorem Inv.pushF {C : Cx} {ρ : Wd} {mh : MH} {h : Heap} (I : Inv C ρ mh h) {o : Obj} (ho : o.isFreed = false) :
    Inv C (ρ.froze h.objs.size o) mh (h.push o) := by
  have fr := I.fresh (get_size h)
  have J := I.junk (h' := h.push o) fun b o' e => Heap.get?_push_of_some _ e
  have hp : ρ.le (ρ.froze h.objs.size o) := ρ.le_froze _ _
  refine ⟨I.len, I.nd, fun i mo' hi => ?_, fun p hm => ?_, fun p hm => ?_, fun p hm => ?_, I.new, fun p hm => ?_, J.keep, fun p hm => let ⟨ps, h1, h2⟩ := J.tab p hm; ⟨ps, h1, h2.mono hp.fz⟩, J.xb, I.pw⟩
  · obtain ⟨a, o', h1, h2, h3⟩ := J.obj i mo' hi
    exact ⟨a, o', h1, h2, h3.mono hp⟩
  · rcases List.mem_cons.mp hm with rfl | hm
    · exact Heap.get?_push_size _ ho
    · exact J.fz p hm
  · rcases List.mem_cons.mp hm with rfl | hm
    · exact fun q => fr.1 (.inl q)
    · exact I.sep p hm
  · obtain ⟨o1, od, oD, c, oc, fd, ct, tt, cat, a1, a2, a3, a4, a5, a6, a7, a8, a9, a10, a11, a12, a13, a14⟩ := I.st p hm
    exact ⟨o1, od, oD, c, oc, fd, ct, tt, cat, hp.fz _ a1, a2, a3, a4, hp.fz _ a5, a6, hp.fz _ a7, a8, a9, ⟨a10.1, a10.2.mono hp.fz⟩, a11, a12, let ⟨o, m, r⟩ := a13; ⟨o, hp.fz _ m, r⟩, let ⟨o, m, r⟩ := a14; ⟨o, hp.fz _ m, r⟩⟩
  · rcases List.mem_cons.mp hm with rfl | hm
    · exact I.not_x fr.2
    · exact I.newf p hm

theorem Inv.ext {C : Cx} {ρ : Wd} {mh : MH} {h h' : Heap} (I : Inv C ρ mh h) {c : Addr} (hc : ¬ ρ.has c) (hb : C.base.get? c = none) (hk : Heap.ExtBut c h h') : Inv C ρ mh h' := by
  have bl : ∀ b o, C.base.get? b = some o → b ≠ c := fun b o e z => by subst z; rw [hb] at e; cases e
  refine ⟨I.len, I.nd, fun i mo hi => ?_, fun p hm => ?_, I.sep, I.st, I.new, I.newf, fun b o e hx => hk b o (bl b o e) (I.keep b o e hx), I.tabKeep fun p hp b o hb' e => hk b o ?_ e, I.xb, I.pw⟩
  · obtain ⟨a, o, h1, h2, h3⟩ := I.obj i mo hi
    exact ⟨a, o, h1, hk a o (fun e => hc (.inl (e ▸ List.mem_of_getElem? h1))) h2, h3⟩
  · exact hk _ _ (fun e => hc (.inr ⟨p.2, e ▸ hm⟩)) (I.fz p hm)
  · obtain ⟨⟨o1, e1⟩, ⟨o2, e2⟩, _⟩ := I.xb p hp
    rcases hb' with rfl | rfl
    · exact bl _ _ e1
    · exact bl _ _ e2

theorem Inv.grow {C : Cx} {ρ : Wd} {mh : MH} {h h' : Heap} (I : Inv C ρ mh h) {p : Addr × Addr} (hp : p ∈ C.T) (hk : Heap.ExtBut p.2 h h') {ps : Array Value} (hc : CodeTab h' p.1 p.2 ps) (htq : TabQ C.gv ρ.fz p.2 ps)
    (hu : ∀ q ∈ C.T, q.2 = p.2 → q = p) : Inv C ρ mh h' := by
  have hx := mem_X hp
  refine ⟨I.len, I.nd, fun i mo hi => ?_, fun q hm => hk _ _ (fun e => I.newf q hm (e ▸ hx)) (I.fz q hm), I.sep, I.st, I.new, I.newf, fun b o e hb => hk b o (fun e' => hb (e' ▸ hx)) (I.keep b o e hb), fun q hq => ?_, I.xb, I.pw⟩
  · obtain ⟨a, o, h1, h2, h3⟩ := I.obj i mo hi
    exact ⟨a, o, h1, hk a o (fun e => I.id_x (List.mem_of_getElem? h1) (e ▸ hx)) h2, h3⟩
  · by_cases e : q.2 = p.2
    · rw [hu q hq e]; exact ⟨ps, hc, htq⟩
    · obtain ⟨qs, x, tq⟩ := I.tab q hq
      refine ⟨qs, x.extBut hk (fun z => ?_) e, tq⟩
      exact (I.xb q hq).2.2 (z ▸ hx)

theorem Inv.set {C : Cx} {ρ : Wd} {mh : MH} {h h' : Heap} (I : Inv C ρ mh h) {i : Nat} {a : Addr} {mo : MO} {o : Obj} (hi : i < mh.length) (ha : ρ.ids[i]? = some a)
    (hs : Heap.ExtBut a h h') (hg : h'.get? a = some o) (ho : ObjR ρ a mo o) : Inv C ρ (mh.set i mo) h' := by
  have hm := List.mem_of_getElem? ha
  have bl : ∀ b o, C.base.get? b = some o → b ≠ a := fun b o e z => by subst z; rw [I.new b hm] at e; cases e
  refine ⟨by simp [I.len], I.nd, fun j mo' hj => ?_, fun p hp => hs _ _ (fun e => I.sep p hp (e ▸ hm)) (I.fz p hp), I.sep, I.st, I.new, I.newf, fun b o' e hb => hs b o' (bl b o' e) (I.keep b o' e hb), I.tabKeep fun p hp b o hb' e => hs b o ?_ e, I.xb, I.pw⟩
  · by_cases hij : i = j
    · subst hij
      rw [List.getElem?_set_self hi] at hj
      cases hj
      exact ⟨a, o, ha, hg, ho⟩
    · rw [List.getElem?_set_ne hij] at hj
      obtain ⟨b, o', h1, h2, h3⟩ := I.obj j mo' hj
      refine ⟨b, o', h1, hs b o' (fun e => hij ?_) h2, h3⟩
      subst e
      obtain ⟨li, ei⟩ := List.getElem?_eq_some_iff.mp ha
      obtain ⟨lj, ej⟩ := List.getElem?_eq_some_iff.mp h1
      exact (List.getElem_inj I.nd).mp (ei.trans ej.symm)
  · obtain ⟨⟨o1, e1⟩, ⟨o2, e2⟩, _⟩ := I.xb p hp
    rcases hb' with rfl | rfl
    · exact bl _ _ e1
    · exact bl _ _ e2

structure SOk (C : Cx) (s : Shared) : Prop where
  os : s.os = C.os
  gens : AllBare s.gens

theorem SOk.heap {C : Cx} {s : Shared} (h : SOk C s) (x : Heap) (t : Nat) : SOk C { s with heap := x, toks := t } := ⟨h.os, h.gens⟩

structure Ext (C : Cx) (ρ : Wd) (F : List Addr) (h : Heap) (ρ' : Wd) (h' : Heap) : Prop where
  pre : ρ.le ρ'
  keep : ∀ b o, h.get? b = some o → b ∉ ρ.ids → b ∉ C.X → b ∉ F → h'.get? b = some o
  freshI : ∀ a ∈ ρ'.ids, a ∈ ρ.ids ∨ h.get? a = none
  fresh : ∀ a, ρ'.has a → ρ.has a ∨ h.get? a = none
  live : ∀ b o, h.get? b = some o → ∃ o', h'.get? b = some o'

theorem Ext.refl {C : Cx} (ρ : Wd) (F : List Addr) (h : Heap) : Ext C ρ F h ρ h := ⟨.refl ρ, fun _ _ e _ _ _ => e, fun _ ha => .inl ha, fun _ ha => .inl ha, fun _ o e => ⟨o, e⟩⟩
theorem Ext.trans {C : Cx} {ρ ρ' ρ'' : Wd} {F : List Addr} {h h' h'' : Heap} (x : Ext C ρ F h ρ' h') (y : Ext C ρ' F h' ρ'' h'') : Ext C ρ F h ρ'' h'' := by
  have back : ∀ a, h'.get? a = none → h.get? a = none := fun a q => by
    cases e : h.get? a with
    | none => rfl
    | some o => obtain ⟨o', e'⟩ := x.live a o e; rw [e'] at q; cases q
  refine ⟨x.pre.trans y.pre, fun b o e hb hx hf => ?_, fun a ha => ?_, fun a ha => ?_, fun b o e => ?_⟩
  · refine y.keep b o (x.keep b o e hb hx hf) (fun hm => ?_) hx hf
    rcases x.freshI b hm with q | q
    · exact hb q
    · rw [e] at q; cases q
  · rcases y.freshI a ha with q | q
    · exact x.freshI a q
    · exact .inr (back a q)
  · rcases y.fresh a ha with q | q
    · exact x.fresh a q
    · exact .inr (back a q)
  · obtain ⟨o', e'⟩ := x.live b o e
    exact y.live b o' e'
theorem Ext.more {C : Cx} {ρ ρ' : Wd} {F G : List Addr} {h h' : Heap} (x : Ext C ρ F h ρ' h') (hs : ∀ a ∈ F, a ∈ G ∨ h.get? a = none) : Ext C ρ G h ρ' h' :=
  ⟨x.pre, fun b o e hb hx hg => x.keep b o e hb hx fun hm => (hs b hm).elim hg fun q => absurd (e.symm.trans q) (by simp), x.freshI, x.fresh, x.live⟩
theorem Ext.step {C : Cx} {ρ ρ' : Wd} {F : List Addr} {h h' h'' : Heap} (x : Ext C ρ F h ρ' h') {c : Addr} (hc : h.get? c = none) (hk : Heap.ExtBut c h' h'') : Ext C ρ F h ρ' h'' := by
  have ne : ∀ b o, h.get? b = some o → b ≠ c := fun b o e z => by subst z; rw [hc] at e; cases e
  exact ⟨x.pre, fun b o e hb hx hf => hk b o (ne b o e) (x.keep b o e hb hx hf), x.freshI, x.fresh, fun b o e => let ⟨o', e'⟩ := x.live b o e; ⟨o', hk b o' (ne b o e) e'⟩⟩
theorem Ext.all {C : Cx} {ρ : Wd} {h h' : Heap} (hk : ∀ b o, h.get? b = some o → h'.get? b = some o) : Ext C ρ [] h ρ h' :=
  ⟨.refl ρ, fun b o e _ _ _ => hk b o e, fun _ ha => .inl ha, fun _ ha => .inl ha, fun b o e => ⟨o, hk b o e⟩⟩
theorem Ext.push {C : Cx} (ρ : Wd) (h : Heap) (o : Obj) : Ext C ρ [] h (ρ.push h.objs.size) (h.push o) := by
  refine ⟨ρ.le_push _, fun b o' e _ _ _ => Heap.get?_push_of_some _ e, fun a ha => ?_, fun a ha => ?_, fun b o' e => ⟨o', Heap.get?_push_of_some _ e⟩⟩
  · rcases List.mem_append.mp ha with q | q
    · exact .inl q
    · simp at q; subst q; exact .inr (get_size _)
  · rcases ha with ha | ha
    · rcases List.mem_append.mp ha with q | q
      · exact .inl (.inl q)
      · simp at q; subst q; exact .inr (get_size _)
    · exact .inl (.inr ha)
theorem Ext.pushF {C : Cx} (ρ : Wd) (h : Heap) (o : Obj) : Ext C ρ [] h (ρ.froze h.objs.size o) (h.push o) := by
  refine ⟨ρ.le_froze _ _, fun b o' e _ _ _ => Heap.get?_push_of_some _ e, fun a ha => .inl ha, fun a ha => ?_, fun b o' e => ⟨o', Heap.get?_push_of_some _ e⟩⟩
  rcases ha with ha | ⟨o', ha⟩
  · exact .inl (.inl ha)
  · rcases List.mem_cons.mp ha with e | q
    · cases e; exact .inr (get_size _)
    · exact .inl (.inr ⟨o', q⟩)
theorem Ext.set {C : Cx} {ρ : Wd} {h h' : Heap} {a : Addr} (ha : a ∈ ρ.ids) (hs : Heap.SameBut a h h') (hl : ∃ o, h'.get? a = some o) : Ext C ρ [] h ρ h' :=
  ⟨.refl ρ, fun b o e hb _ _ => (hs.2 b fun z => hb (z ▸ ha)).trans e, fun _ q => .inl q, fun _ q => .inl q, fun b o e => by
    by_cases z : b = a
    · subst z; exact hl
    · exact ⟨o, (hs.2 b z).trans e⟩⟩
theorem Ext.one {C : Cx} {ρ : Wd} {F : List Addr} {h h' : Heap} {a : Addr} (hs : Heap.SameBut a h h') (ha : a ∈ F) (hl : ∃ o, h'.get? a = some o) : Ext C ρ F h ρ h' :=
  ⟨.refl ρ, fun b o e _ _ hf => (hs.2 b fun z => hf (z ▸ ha)).trans e, fun _ q => .inl q, fun _ q => .inl q, fun b o e => by
    by_cases z : b = a
    · subst z; exact hl
    · exact ⟨o, (hs.2 b z).trans e⟩⟩
theorem Ext.grow {C : Cx} {ρ : Wd} {h h' : Heap} {P : Addr} (hP : P ∈ C.X) (hk : Heap.ExtBut P h h') (hl : ∃ o, h'.get? P = some o) : Ext C ρ [] h ρ h' :=
  ⟨.refl ρ, fun b o e _ hx _ => hk b o (fun z => hx (z ▸ hP)) e, fun _ q => .inl q, fun _ q => .inl q, fun b o e => by
    by_cases z : b = P
    · subst z; exact hl
    · exact ⟨o, hk b o z e⟩⟩
theorem Ext.wide {C : Cx} {ρ ρ' : Wd} {G : List Addr} {h h' : Heap} (x : Ext C ρ [] h ρ' h') : Ext C ρ G h ρ' h' := x.more (by simp)

structure Cx.Ok (C : Cx) : Prop where
  g : C.base.Ns mainGlobals C.mg
  b : C.base.Ns builtinsNs C.mb
  nolimit : C.base.NoLimit
  builtins : ∀ x : Str, x ≠ "__name__" → C.mb x = bootBuiltins x
  k : C.K.In C.base
  kx : ∀ a ∈ C.X, C.K.lookup a = none
  gx : mainGlobals ∉ C.X
  bx : builtinsNs ∉ C.X
  sx : cStatics ∉ C.X
  nd : C.tbl.Nodup
  tu : ∀ p ∈ C.T, ∀ q ∈ C.T, q.2 = p.2 → q = p
  mod : ∃ bm o, C.mg "__builtins__" = some (.ref bm) ∧ bm ≠ builtinsNs ∧ C.base.get? bm = some o ∧ o.cls = .type "module" ∧ o.dict = some builtinsNs ∧ o.data = .plain ∧ bm ∉ C.X

theorem Ns.uniq {h : Heap} {a : Addr} {m m' : Str → Option Value} (x : h.Ns a m) (y : h.Ns a m') : m = m' := by
  obtain ⟨o, es, ep, ho, hd, _, hf⟩ := x
  obtain ⟨o', es', ep', ho', hd', _, hf'⟩ := y
  rw [ho] at ho'; cases ho'
  rw [hd] at hd'; cases hd'
  funext n
  rw [← hf, ← hf']

theorem Ns.keep1 {h h' : Heap} {a : Addr} {m : Str → Option Value} (x : h.Ns a m) (hk : ∀ o, h.get? a = some o → h'.get? a = some o) : h'.Ns a m :=
  let ⟨o, es, ep, ho, r⟩ := x; ⟨o, es, ep, hk o ho, r⟩
theorem Ns.live {h : Heap} {a : Addr} {m : Str → Option Value} (x : h.Ns a m) : ∃ o, h.get? a = some o := let ⟨o, _, _, ho, _⟩ := x; ⟨o, ho⟩
theorem IsCell.keep1 {h h' : Heap} {a : Addr} {v : Option Value} (x : h.IsCell a v) (hk : ∀ o, h.get? a = some o → h'.get? a = some o) : h'.IsCell a v :=
  let ⟨o, ho, r⟩ := x; ⟨o, hk o ho, r⟩

theorem Inv.g {C : Cx} {ρ : Wd} {mh : MH} {h : Heap} (I : Inv C ρ mh h) (ok : C.Ok) : h.Ns mainGlobals C.mg := Ns.keep1 ok.g fun o e => I.keep _ o e ok.gx
theorem Inv.b {C : Cx} {ρ : Wd} {mh : MH} {h : Heap} (I : Inv C ρ mh h) (ok : C.Ok) : h.Ns builtinsNs C.mb := Ns.keep1 ok.b fun o e => I.keep _ o e ok.bx
theorem Inv.nolimit {C : Cx} {ρ : Wd} {mh : MH} {h : Heap} (I : Inv C ρ mh h) (ok : C.Ok) : h.NoLimit :=
  let ⟨mc, hn, e⟩ := ok.nolimit; ⟨mc, Ns.keep1 hn fun o e => I.keep _ o e ok.sx, e⟩
theorem Inv.k {C : Cx} {ρ : Wd} {mh : MH} {h : Heap} (I : Inv C ρ mh h) (ok : C.Ok) : C.K.In h := fun a o e => I.keep a o (ok.k a o e) fun hx => by
  rw [ok.kx a hx] at e; cases e

noncomputable def fa (env : Env) : List Addr := env.locals :: env.cells.map (·.2)

noncomputable def VarAt (env : Env) (h : Heap) (n : Str) (v : Value) : Prop :=
  match env.kindOf n with
  | some .local => ∃ m, h.Ns env.locals m ∧ m n = some v
  | some .cell => ∃ c, env.cells.lookup n = some c ∧ h.IsCell c (some v)
  | some .free => ∃ c, env.cells.lookup n = some c ∧ h.IsCell c (some v)
  | _ => True

structure FR (C : Cx) (ρ : Wd) (env : Env) (me : ME) (h : Heap) : Prop where
  kind : env.scope.kind = .function
  glob : env.globals = mainGlobals
  bui : env.builtins = builtinsNs
  ns : ∃ m, h.Ns env.locals m
  cells : ∀ n c, (n, c) ∈ env.cells → ∃ v, h.IsCell c v
  out : ∀ a ∈ fa env, ¬ ρ.has a ∧ C.base.get? a = none
  outX : ∀ a ∈ fa env, a ∉ C.X
  apart : env.cells.Pairwise fun x y => x.2 ≠ y.2
  nl : ∀ n c, (n, c) ∈ env.cells → c ≠ env.locals
  has : ∀ n, env.kindOf n = some .cell → ∃ c, env.cells.lookup n = some c
  hasF : ∀ n, env.kindOf n = some .free → ∃ c, env.cells.lookup n = some c
  var : ∀ x mv n, me.lookup x = some mv → C.tbl[x]? = some n → ∃ v, VR ρ mv v ∧ VarAt env h n v

theorem FR.liveFa {C : Cx} {ρ : Wd} {env : Env} {me : ME} {h : Heap} (F : FR C ρ env me h) {a : Addr} (ha : a ∈ fa env) : ∃ o, h.get? a = some o := by
  unfold fa at ha
  rcases List.mem_cons.mp ha with rfl | ha
  · obtain ⟨m, hm⟩ := F.ns; exact Ns.live hm
  · obtain ⟨⟨n, c⟩, hm, rfl⟩ := List.mem_map.mp ha
    obtain ⟨v, o, ho, _⟩ := F.cells n c hm
    exact ⟨o, ho⟩

theorem VarAt.keep {env : Env} {h h' : Heap} {n : Str} {v : Value} (x : VarAt env h n v) (hk : ∀ a ∈ fa env, ∀ o, h.get? a = some o → h'.get? a = some o) : VarAt env h' n v := by
  unfold VarAt at x ⊢
  have hl : env.locals ∈ fa env := by simp [fa]
  have hc : ∀ c, env.cells.lookup n = some c → c ∈ fa env := fun c e => by
    unfold fa
    exact List.mem_cons_of_mem _ (List.mem_map.mpr ⟨(n, c), mem_of_lookup e, rfl⟩)
  split at x
  · obtain ⟨m, hm, e⟩ := x; exact ⟨m, Ns.keep1 hm (hk _ hl), e⟩
  · obtain ⟨c, e, hv⟩ := x; exact ⟨c, e, IsCell.keep1 hv (hk _ (hc c e))⟩
  · obtain ⟨c, e, hv⟩ := x; exact ⟨c, e, IsCell.keep1 hv (hk _ (hc c e))⟩
  · trivial

theorem FR.keep {C : Cx} {ρ ρ' : Wd} {env : Env} {me : ME} {h h' : Heap} (F : FR C ρ env me h) (hp : ρ.le ρ') (hk : ∀ a ∈ fa env, ∀ o, h.get? a = some o → h'.get? a = some o) (hn : ∀ a ∈ fa env, ¬ ρ'.has a) : FR C ρ' env me h' := by
  have hl : env.locals ∈ fa env := by simp [fa]
  refine ⟨F.kind, F.glob, F.bui, ?_, fun n c hm => ?_, fun a ha => ⟨hn a ha, (F.out a ha).2⟩, F.outX, F.apart, F.nl, F.has, F.hasF, fun x mv n hx ht => ?_⟩
  · obtain ⟨m, hm⟩ := F.ns; exact ⟨m, Ns.keep1 hm (hk _ hl)⟩
  · obtain ⟨v, hv⟩ := F.cells n c hm
    exact ⟨v, IsCell.keep1 hv (hk c (by unfold fa; exact List.mem_cons_of_mem _ (List.mem_map.mpr ⟨(n, c), hm, rfl⟩)))⟩
  · obtain ⟨v, h1, h2⟩ := F.var x mv n hx ht
    exact ⟨v, h1.mono hp, h2.keep hk⟩

theorem not_has_ids {ρ : Wd} {a : Addr} (h : ¬ ρ.has a) : a ∉ ρ.ids := fun q => h (.inl q)

theorem FR.ext {C : Cx} {ρ ρ' : Wd} {G : List Addr} {env : Env} {me : ME} {h h' : Heap} (F : FR C ρ env me h) (x : Ext C ρ G h ρ' h') (hG : ∀ a ∈ fa env, a ∉ G) : FR C ρ' env me h' := by
  refine F.keep x.pre (fun a ha o e => x.keep a o e (not_has_ids (F.out a ha).1) (F.outX a ha) (hG a ha)) fun a ha hm => ?_
  rcases x.fresh a hm with q | q
  · exact (F.out a ha).1 q
  · obtain ⟨o, e⟩ := F.liveFa ha
    rw [e] at q; cases q
theorem FR.ext0 {C : Cx} {ρ ρ' : Wd} {env : Env} {me : ME} {h h' : Heap} (F : FR C ρ env me h) (x : Ext C ρ [] h ρ' h') : FR C ρ' env me h' := F.ext x fun _ _ => by simp

structure Aok (d : Nat) (A : Around) : Prop where
  depth : A.depth + 2 * d ≤ 900
  units : A.units + 16 * d ≤ 9000
  handled : A.handled = none

theorem Aok.deeper {d : Nat} {A : Around} {env : Env} (h : Aok (d + 1) A) : Aok d (A.deeper env) := by
  refine ⟨?_, ?_, h.handled⟩
  · have := h.depth; show A.depth + 1 + 2 * d ≤ 900; lia
  · have := h.units; show A.units + 3 + 16 * d ≤ 9000; lia
theorem Aok.less {d d' : Nat} {A : Around} (h : Aok d A) (hd : d' ≤ d) : Aok d' A := ⟨by have := h.depth; lia, by have := h.units; lia, h.handled⟩
theorem Aok.room {d : Nat} {A : Around} (h : Aok d A) : A.depth < recursionLimit := by have := h.depth; show A.depth < 1000; lia

noncomputable abbrev D := ME → MH → Option (MV × MH)
noncomputable abbrev DL := ME → MH → Option (List MV × MH)
noncomputable abbrev DB := ME → MH → Option (Bool × MH)

noncomputable abbrev Post (C : Cx) (ρ : Wd) (h : Heap) (mh' : MH) (mv : MV) (Q : Value → Shared → Prop) : Prop :=
  ∀ v ρ' s', Ext C ρ [] h ρ' s'.heap → Inv C ρ' mh' s'.heap → SOk C s' → VR ρ' mv v → Q v s'

noncomputable def RT (C : Cx) (d : Nat) (env : Env) (t : Sem Value) (f : D) : Prop :=
  ∀ {me mh mv mh'}, f me mh = some (mv, mh') → ∀ {ρ A s Q E}, Aok d A → Inv C ρ mh s.heap → SOk C s → FR C ρ env me s.heap →
    Post C ρ s.heap mh' mv Q → wpAny C.M A t Q E s
noncomputable abbrev RE (C : Cx) (d : Nat) (env : Env) (e : PySem.Expr) (f : D) : Prop := RT C d env (eval e env) f

noncomputable def RL (C : Cx) (d : Nat) (env : Env) (t : Sem (List Value)) (f : DL) : Prop :=
  ∀ {me mh mvs mh'}, f me mh = some (mvs, mh') → ∀ {ρ A s Q E}, Aok d A → Inv C ρ mh s.heap → SOk C s → FR C ρ env me s.heap →
    (∀ vs ρ' s', Ext C ρ [] s.heap ρ' s'.heap → Inv C ρ' mh' s'.heap → SOk C s' → VRs ρ' mvs vs → Q vs s') → wpAny C.M A t Q E s

noncomputable def RB (C : Cx) (d : Nat) (env : Env) (t : Sem Bool) (f : DB) : Prop :=
  ∀ {me mh b mh'}, f me mh = some (b, mh') → ∀ {ρ A s Q E}, Aok d A → Inv C ρ mh s.heap → SOk C s → FR C ρ env me s.heap →
    (∀ ρ' s', Ext C ρ [] s.heap ρ' s'.heap → Inv C ρ' mh' s'.heap → SOk C s' → Q b s') → wpAny C.M A t Q E s

noncomputable abbrev Op1 := MV → MH → Option (MV × MH)
noncomputable abbrev Op2 := MV → MV → MH → Option (MV × MH)
noncomputable def RO1 (C : Cx) (d : Nat) (t : Value → Sem Value) (op : Op1) : Prop :=
  ∀ {a mh mv mh'}, op a mh = some (mv, mh') → ∀ {ρ A s Q E va}, Aok d A → Inv C ρ mh s.heap → SOk C s → VR ρ a va →
    Post C ρ s.heap mh' mv Q → wpAny C.M A (t va) Q E s
noncomputable def RO2 (C : Cx) (d : Nat) (t : Value → Value → Sem Value) (op : Op2) : Prop :=
  ∀ {a b mh mv mh'}, op a b mh = some (mv, mh') → ∀ {ρ A s Q E va vb}, Aok d A → Inv C ρ mh s.heap → SOk C s → VR ρ a va → VR ρ b vb →
    Post C ρ s.heap mh' mv Q → wpAny C.M A (t va vb) Q E s

inductive Fl where
  | next | brk | cont
  | ret (v : MV)
noncomputable def FlR (ρ : Wd) : Fl → Flow → Prop
  | .next, f => f = .next
  | .brk, f => f = .brk
  | .cont, f => f = .cont
  | .ret m, f => ∃ v, f = .ret v ∧ VR ρ m v
noncomputable abbrev DS := ME → MH → Option (Fl × ME × MH)

noncomputable def RS (C : Cx) (d : Nat) (env : Env) (t : Sem Flow) (f : DS) : Prop :=
  ∀ {me mh fl me' mh'}, f me mh = some (fl, me', mh') → ∀ {ρ A s Q E}, Aok d A → Inv C ρ mh s.heap → SOk C s → FR C ρ env me s.heap →
    (∀ fl' ρ' s', Ext C ρ (fa env) s.heap ρ' s'.heap → Inv C ρ' mh' s'.heap → SOk C s' → FR C ρ' env me' s'.heap → FlR ρ' fl fl' → Q fl' s') → wpAny C.M A t Q E s

end Mine

namespace Mine
variable {C : Cx} {d : Nat} {env : Env}

noncomputable def dVar (x : Nat) : D := fun me mh => match me.lookup x with | some v => some (v, mh) | none => none
noncomputable def dC (v : MV) : D := fun _ mh => some (v, mh)
noncomputable def dOp1 (o : Op1) (f : D) : D := fun me mh => match f me mh with | some (a, mh1) => o a mh1 | none => none
noncomputable def dOp2 (o : Op2) (f g : D) : D := fun me mh => match f me mh with
  | some (a, mh1) => (match g me mh1 with | some (b, mh2) => o a b mh2 | none => none)
  | none => none

theorem dOp1_some {o : Op1} {f : D} {me : ME} {mh : MH} {r : MV × MH} (h : dOp1 o f me mh = some r) : ∃ a mh1, f me mh = some (a, mh1) ∧ o a mh1 = some r := by
  unfold dOp1 at h
  split at h
  · exact ⟨_, _, by assumption, h⟩
  · cases h
theorem dOp2_some {o : Op2} {f g : D} {me : ME} {mh : MH} {r : MV × MH} (h : dOp2 o f g me mh = some r) :
    ∃ a mh1 b mh2, f me mh = some (a, mh1) ∧ g me mh1 = some (b, mh2) ∧ o a b mh2 = some r := by
  unfold dOp2 at h
  split at h
  · split at h
    · exact ⟨_, _, _, _, by assumption, by assumption, h⟩
    · cases h
  · cases h

theorem Post.same {ρ : Wd} {mh : MH} {mv : MV} {Q : Value → Shared → Prop} {s : Shared} (h : Post C ρ s.heap mh mv Q) (I : Inv C ρ mh s.heap) (so : SOk C s) (v : Value) (hv : VR ρ mv v) (t : Nat) :
    Q v { s with toks := t } := h v ρ _ (Ext.refl _ _ _) I (so.heap _ _) hv
theorem Post.here {ρ : Wd} {mh : MH} {mv : MV} {Q : Value → Shared → Prop} {s : Shared} (h : Post C ρ s.heap mh mv Q) (I : Inv C ρ mh s.heap) (so : SOk C s) (v : Value) (hv : VR ρ mv v) :
    Q v s := h v ρ _ (Ext.refl _ _ _) I so hv

theorem Post.new {ρ : Wd} {mh : MH} {mo : MO} {Q : Value → Shared → Prop} {s : Shared} (h : Post C ρ s.heap (mh ++ [mo]) (.ref mh.length) Q) (I : Inv C ρ mh s.heap) (so : SOk C s) {o : Obj}
    (ho : ObjR ρ s.heap.objs.size mo o) (t : Nat) : Q (.ref s.heap.objs.size) { s with heap := s.heap.push o, toks := t } :=
  h _ _ _ (Ext.push _ _ _) (I.push ho) (so.heap _ _) (.ref' (by rw [← I.len]; simp))
theorem Post.newF {ρ : Wd} {mh : MH} {mv : MV} {Q : Value → Shared → Prop} {s : Shared} (h : Post C ρ s.heap mh mv Q) (I : Inv C ρ mh s.heap) (so : SOk C s) {o : Obj} (hl : o.isFreed = false)
    (ho : VR (ρ.froze s.heap.objs.size o) mv (.ref s.heap.objs.size)) (t : Nat) : Q (.ref s.heap.objs.size) { s with heap := s.heap.push o, toks := t } :=
  h _ _ _ (Ext.pushF _ _ _) (I.pushF hl) (so.heap _ _) ho
theorem mem_froze {ρ : Wd} {a : Addr} {o : Obj} : (a, o) ∈ (ρ.froze a o).fz := List.mem_cons_self
theorem Post.lst {ρ : Wd} {mh : MH} {ms : List MV} {vs : List Value} {n : Nat} {Q : Value → Shared → Prop} {s : Shared} (h : Post C ρ s.heap mh (.lst ms) Q) (I : Inv C ρ mh s.heap) (so : SOk C s) (hv : VRs ρ ms vs) (t : Nat) :
    Q (.ref s.heap.objs.size) { s with heap := s.heap.push (listO vs n), toks := t } :=
  h.newF I so rfl (.lst' mem_froze (hv.mono (ρ.le_froze _ _))) t
theorem Post.tup {ρ : Wd} {mh : MH} {ms : List MV} {vs : List Value} {n : Nat} {Q : Value → Shared → Prop} {s : Shared} (h : Post C ρ s.heap mh (.tup ms) Q) (I : Inv C ρ mh s.heap) (so : SOk C s) (hv : VRs ρ ms vs) (t : Nat) :
    Q (.ref s.heap.objs.size) { s with heap := s.heap.push (tupO vs n), toks := t } :=
  h.newF I so rfl (.tup' mem_froze (hv.mono (ρ.le_froze _ _))) t

set_option tactic.hygienic true in
theorem RE_Name {x : Nat} {n : Str} {pos : Pos} (hx : C.tbl[x]? = some n) (hk : env.kindOf n = some .local ∨ env.kindOf n = some .cell ∨ env.kindOf n = some .free)
    (hd : (n == ("__debug__" : Str)) = false) (hc : (n == ("__classdict__" : Str)) = false) : RE C d env (.Name n pos) (dVar x) := by
  intro me mh mv mh' hf ρ A s Q E ao I so F hQ
  unfold dVar at hf
  split at hf
  · rename_i v hv
    cases hf
    obtain ⟨rv, h1, h2⟩ := F.var x mv n hv hx
    refine wpAny_Name ?_ hd
    unfold VarAt at h2
    rcases hk with e | e | e
    · rw [e] at h2
      obtain ⟨m, hm, hn⟩ := h2
      exact wpAny_loadName_local F.kind e hm hn (hQ.here I so _ h1)
    · rw [e] at h2
      obtain ⟨c, hc, hn⟩ := h2
      exact wpAny_loadName_cell F.kind e hc hn (hQ.here I so _ h1)
    · rw [e] at h2
      obtain ⟨c, hcc, hn⟩ := h2
      exact wpAny_loadName_free F.kind e hcc hn (hQ.here I so _ h1) hc
  · cases hf

theorem RE_int {i : Int} {k pos} : RE C d env (.Constant (.int i) k pos) (dC (.int i)) := by
  intro me mh mv mh' hf ρ A s Q E ao I so F hQ
  cases hf
  exact wpAny_Constant_int (hQ.same I so _ .int' _)
theorem RE_str {x : Str} {k pos} : RE C d env (.Constant (.str x) k pos) (dC (.str x)) := by
  intro me mh mv mh' hf ρ A s Q E ao I so F hQ
  cases hf
  exact wpAny_Constant_str (hQ.same I so _ .str' _)
theorem RE_bool {b : Bool} {k pos} : RE C d env (.Constant (.bool b) k pos) (dC (.bool b)) := by
  intro me mh mv mh' hf ρ A s Q E ao I so F hQ
  cases hf
  exact wpAny_Constant_bool (hQ.here I so _ .bool')
theorem RE_BinOp {l r : PySem.Expr} {op : Operator} {pos : Pos} {f g : D} {o : Op2} (hl : RE C d env l f) (hr : RE C d env r g) (ho : RO2 C d (binaryOp op) o) :
    RE C d env (.BinOp l op r pos) (dOp2 o f g) := by
  intro me mh mv mh' hf ρ A s Q E ao I so F hQ
  obtain ⟨a, mh1, b, mh2, h1, h2, h3⟩ := dOp2_some hf
  exact wpAny_BinOp (hl h1 ao I so F fun va ρ1 s1 x1 I1 so1 v1 => hr h2 ao I1 so1 (F.ext0 x1) fun vb ρ2 s2 x2 I2 so2 v2 =>
    ho h3 ao I2 so2 (v1.mono x2.pre) v2 fun v ρ3 s3 x3 I3 so3 v3 => hQ v ρ3 s3 (x1.trans (x2.trans x3)) I3 so3 v3)

theorem RE_Compare {l r : PySem.Expr} {op : CmpOp} {pos : Pos} {f g : D} {o : Op2} (hl : RE C d env l f) (hr : RE C d env r g) (ho : RO2 C d (compareOp op) o)
    (hm : behindInMarks op r = false := by with_unfolding_all rfl) :
    RE C d env (.Compare l [op] [r] pos) (dOp2 o f g) := by
  intro me mh mv mh' hf ρ A s Q E ao I so F hQ
  obtain ⟨a, mh1, b, mh2, h1, h2, h3⟩ := dOp2_some hf
  exact wpAny_Compare1 (hl h1 ao I so F fun va ρ1 s1 x1 I1 so1 v1 => hr h2 ao I1 so1 (F.ext0 x1) fun vb ρ2 s2 x2 I2 so2 v2 =>
    ho h3 ao I2 so2 (v1.mono x2.pre) v2 fun v ρ3 s3 x3 I3 so3 v3 => hQ v ρ3 s3 (x1.trans (x2.trans x3)) I3 so3 v3) hm

noncomputable def oAdd : Op2 := fun a b mh => match a, b with
  | .int x, .int y => some (.int (x + y), mh)
  | .str x, .str y => if x.length + y.length ≤ sizeLine then some (.str (x ++ y), mh) else none
  | .lst xs, .lst ys => if xs.length + ys.length ≤ sizeLine then some (.lst (xs ++ ys), mh) else none
  | _, _ => none
noncomputable def oSub : Op2 := fun a b mh => match a, b with
  | .int x, .int y => some (.int (x - y), mh)
  | _, _ => none
noncomputable def oDiv : Op2 := fun a b mh => match a, b with
  | .int x, .int y => if 0 < y ∧ y < 1073741824 then some (.int (x.fdiv y), mh) else none
  | _, _ => none
noncomputable def oMod : Op2 := fun a b mh => match a, b with
  | .int x, .int y => if 0 < y then some (.int (x.fmod y), mh) else none
  | _, _ => none
noncomputable def oMul : Op2 := fun a b mh => match a, b with
  | .int x, .int y => if -1073741824 < x ∧ x < 1073741824 then some (.int (x * y), mh) else none
  | .str x, .int n => if 0 ≤ n ∧ n ≤ 1000 ∧ x.length ≤ 1000 then some (.str (Txt.mul x n), mh) else none
  | _, _ => none

theorem str_len0 {x : Str} (h : (x.length == 0) = true) : x = ⟨#[]⟩ := by
  cases x with | mk c =>
  have : c.size = 0 := by simpa [Str.length] using h
  rw [Array.size_eq_zero_iff.mp this]

theorem str_app_nil (x : Str) : x ++ (⟨#[]⟩ : Str) = x := by
  cases x with | mk c =>
  show Str.mk (c ++ #[]) = _
  rw [Array.append_empty]
theorem str_nil_app (x : Str) : (⟨#[]⟩ : Str) ++ x = x := by
  cases x with | mk c =>
  show Str.mk (#[] ++ c) = _
  rw [Array.empty_append]
theorem isL_of {h : Heap} {a : Addr} {vs : List Value} {n : Nat} (e : h.get? a = some (listO vs n)) : IsL h a vs.toArray n := e

set_option tactic.hygienic true in
theorem rAdd : RO2 C d (binaryOp .Add) oAdd := by
  intro a b mh mv mh' h ρ A s Q E va vb ao I so ha hb hQ
  unfold oAdd at h
  split at h
  · cases h
    obtain ⟨t, rfl⟩ := ha.int_
    obtain ⟨u, rfl⟩ := hb.int_
    exact add_int (hQ.same I so _ .int' _)
  · split at h
    · rename_i x y hl
      cases h
      obtain ⟨t, rfl⟩ := ha.str_
      obtain ⟨u, rfl⟩ := hb.str_
      refine PySem.P.add_str ?_
      split
      · rename_i e
        have : x ++ y = y := by rw [str_len0 e, str_nil_app]
        exact hQ.here I so _ (by rw [this]; exact .str')
      · split
        · rename_i e
          have : x ++ y = x := by rw [str_len0 e, str_app_nil]
          exact hQ.here I so _ (by rw [this]; exact .str')
        · refine ⟨?_, hQ.same I so _ .str' _⟩
          show (x.cps ++ y.cps).size ≤ sizeLine
          rw [Array.size_append]; exact hl
    · cases h
  · split at h
    · rename_i xs ys hl
      cases h
      obtain ⟨a, vs, n, ea, rfl, r1⟩ := ha.lst_
      obtain ⟨b, ws, m, eb, rfl, r2⟩ := hb.lst_
      refine PySem.P.add_list (isL_of (I.fz _ ea)) (isL_of (I.fz _ eb)) ?_ (by simp [r1.length, r2.length]; exact hl)
      have := hQ.lst (n := 0) I so (r1.append r2) s.toks
      simpa using this
    · cases h
  · cases h

theorem rSub : RO2 C d (binaryOp .Sub) oSub := by
  intro a b mh mv mh' h ρ A s Q E va vb ao I so ha hb hQ
  unfold oSub at h
  split at h
  · cases h
    obtain ⟨t, rfl⟩ := ha.int_
    obtain ⟨u, rfl⟩ := hb.int_
    exact sub_int (hQ.same I so _ .int' _)
  · cases h
set_option tactic.hygienic true in
theorem rDiv : RO2 C d (binaryOp .FloorDiv) oDiv := by
  intro a b mh mv mh' h ρ A s Q E va vb ao I so ha hb hQ
  unfold oDiv at h
  split at h
  · split at h
    · rename_i x y hy
      cases h
      obtain ⟨t, rfl⟩ := ha.int_
      obtain ⟨u, rfl⟩ := hb.int_
      exact floordiv_int (by omega) (hQ.same I so _ .int' _) (.inl (PyProof.noPylong_small (by omega)))
    · cases h
  · cases h
set_option tactic.hygienic true in
theorem rMod : RO2 C d (binaryOp .Mod) oMod := by
  intro a b mh mv mh' h ρ A s Q E va vb ao I so ha hb hQ
  unfold oMod at h
  split at h
  · split at h
    · rename_i x y hy
      cases h
      obtain ⟨t, rfl⟩ := ha.int_
      obtain ⟨u, rfl⟩ := hb.int_
      exact mod_int' (by omega) (hQ.same I so _ .int' _)
    · cases h
  · cases h
set_option tactic.hygienic true in
theorem rMul : RO2 C d (binaryOp .Mult) oMul := by
  intro a b mh mv mh' h ρ A s Q E va vb ao I so ha hb hQ
  unfold oMul at h
  split at h
  · split at h
    · rename_i x y hy
      cases h
      obtain ⟨t, rfl⟩ := ha.int_
      obtain ⟨u, rfl⟩ := hb.int_
      exact mul_int (hQ.same I so _ .int' _) (IntMulOk.of_left (intBits_le_64 (by lia) (by lia)))
    · cases h
  · split at h
    · rename_i x n hn
      obtain ⟨h0, h1, h2⟩ := hn
      cases h
      obtain ⟨t, rfl⟩ := ha.str_
      obtain ⟨u, rfl⟩ := hb.int_
      exact SB.mul (mulOk_of 1000 1000 h2 h1 (by lia) (by decide) (by decide)) fun t' k => hQ.same I so _ .str' _
    · cases h
  · cases h

noncomputable def oLt : Op2 := fun a b mh => match a, b with
  | .int x, .int y => some (.bool (decide (x < y)), mh)
  | .str x, .str y => some (.bool (decide (x.cps.toList < y.cps.toList)), mh)
  | _, _ => none
noncomputable def oGt : Op2 := fun a b mh => match a, b with
  | .int x, .int y => some (.bool (decide (y < x)), mh)
  | _, _ => none
theorem rLt : RO2 C d (compareOp .Lt) oLt := by
  intro a b mh mv mh' h ρ A s Q E va vb ao I so ha hb hQ
  unfold oLt at h
  split at h
  · cases h
    obtain ⟨t, rfl⟩ := ha.int_
    obtain ⟨u, rfl⟩ := hb.int_
    exact lt_int (hQ.here I so _ .bool')
  · cases h
    obtain ⟨t, rfl⟩ := ha.str_
    obtain ⟨u, rfl⟩ := hb.str_
    exact PySem.P.lt_str (hQ.here I so _ .bool')
  · cases h
theorem rGt : RO2 C d (compareOp .Gt) oGt := by
  intro a b mh mv mh' h ρ A s Q E va vb ao I so ha hb hQ
  unfold oGt at h
  split at h
  · cases h
    obtain ⟨t, rfl⟩ := ha.int_
    obtain ⟨u, rfl⟩ := hb.int_
    exact gt_int (hQ.here I so _ .bool')
  · cases h

mutual
noncomputable def toD : MV → Option PyData
  | .none => some .none
  | .bool b => some (.bool b)
  | .int i => some (.int i)
  | .str s => some (.str s)
  | .lst vs => (toDs vs).map .list
  | .tup vs => (toDs vs).map .tuple
  | _ => none
noncomputable def toDs : List MV → Option (List PyData)
  | [] => some []
  | v :: vs => match toD v with
    | some d => (toDs vs).map (d :: ·)
    | none => none
end

set_option tactic.hygienic true
mutual
theorem toD_reads {ρ : Wd} {mh : MH} {h : Heap} (I : Inv C ρ mh h) : ∀ (m : MV) (v : Value) (dd : PyData), VR ρ m v → toD m = some dd → ∃ as, Reads h v dd as
  | .none, v, dd, hv, e => by simp [toD] at e; subst e; cases hv.none_; exact ⟨_, .none⟩
  | .bool b, v, dd, hv, e => by simp [toD] at e; subst e; cases hv.bool_; exact ⟨_, .bool b⟩
  | .int i, v, dd, hv, e => by simp [toD] at e; subst e; obtain ⟨t, rfl⟩ := hv.int_; exact ⟨_, .int i t⟩
  | .str x, v, dd, hv, e => by simp [toD] at e; subst e; obtain ⟨t, rfl⟩ := hv.str_; exact ⟨_, .str x t⟩
  | .ref i, v, dd, hv, e => by simp [toD] at e
  | .rng _ _, v, dd, hv, e => by simp [toD] at e
  | .strm _ _, v, dd, hv, e => by simp [toD] at e
  | .lst ms, v, dd, hv, e => by
    obtain ⟨a, ws, n, ea, rfl, r⟩ := hv.lst_
    unfold toD at e
    obtain ⟨ds, h1, rfl⟩ := Option.map_eq_some_iff.mp e
    obtain ⟨as, hr⟩ := toDs_reads I ms ws ds r h1
    exact ⟨_, .list (I.fz _ ea) rfl rfl (by simpa using hr)⟩
  | .tup ms, v, dd, hv, e => by
    obtain ⟨a, ws, n, ea, rfl, r⟩ := hv.tup_
    unfold toD at e
    obtain ⟨ds, h1, rfl⟩ := Option.map_eq_some_iff.mp e
    obtain ⟨as, hr⟩ := toDs_reads I ms ws ds r h1
    exact ⟨_, .tuple (I.fz _ ea) rfl rfl (by simpa using hr)⟩
theorem toDs_reads {ρ : Wd} {mh : MH} {h : Heap} (I : Inv C ρ mh h) : ∀ (ms : List MV) (vs : List Value) (ds : List PyData), VRs ρ ms vs → toDs ms = some ds → ∃ as, ReadsAll h vs ds as
  | [], vs, ds, hv, e => by simp [toDs] at e; subst e; cases hv; exact ⟨_, .nil⟩
  | m :: ms, vs, ds, hv, e => by
    cases hv with
    | cons h1 h2 =>
      unfold toDs at e
      split at e
      · rename_i d0 hd
        obtain ⟨ds', h3, rfl⟩ := Option.map_eq_some_iff.mp e
        obtain ⟨as, ha⟩ := toD_reads I m _ d0 h1 hd
        obtain ⟨bs, hb⟩ := toDs_reads I ms _ ds' h2 h3
        exact ⟨_, .cons ha hb⟩
      · cases e
end
set_option tactic.hygienic false

noncomputable def oEq : Op2 := fun a b mh => match toD a, toD b with
  | some x, some y => if SeqAt.shaped x && SeqAt.shaped y then some (.bool (PyData.eqv x y), mh) else none
  | _, _ => none
noncomputable def oNe : Op2 := fun a b mh => match toD a, toD b with
  | some x, some y => if SeqAt.shaped x && SeqAt.shaped y then some (.bool (!PyData.eqv x y), mh) else none
  | _, _ => none
theorem Aok.eqRoom {A : Around} (h : Aok d A) : A.units + 64 < cLine := by have := h.units; show A.units + 64 < 9900; lia
set_option tactic.hygienic true in
theorem rEq : RO2 C d (compareOp .Eq) oEq := by
  intro a b mh mv mh' h ρ A s Q E va vb ao I so ha hb hQ
  unfold oEq at h
  split at h
  · rename_i x y hx hy
    split at h
    · rename_i hs
      cases h
      obtain ⟨as, ra⟩ := toD_reads I _ _ _ ha hx
      obtain ⟨bs, rb⟩ := toD_reads I _ _ _ hb hy
      have q := Bool.and_eq_true_iff.mp hs
      exact SeqAt.compareEq_shaped ra rb q.1 q.2 ao.eqRoom (hQ.here I so _ .bool')
    · cases h
  · cases h
set_option tactic.hygienic true in
theorem rNe : RO2 C d (compareOp .NotEq) oNe := by
  intro a b mh mv mh' h ρ A s Q E va vb ao I so ha hb hQ
  unfold oNe at h
  split at h
  · rename_i x y hx hy
    split at h
    · rename_i hs
      cases h
      obtain ⟨as, ra⟩ := toD_reads I _ _ _ ha hx
      obtain ⟨bs, rb⟩ := toD_reads I _ _ _ hb hy
      have q := Bool.and_eq_true_iff.mp hs
      exact SeqAt.compareNe_shaped ra rb q.1 q.2 ao.eqRoom (hQ.here I so _ .bool')
    · cases h
  · cases h

end Mine

namespace Mine
variable {C : Cx} {d : Nat} {env : Env}

noncomputable def upd : ME → Nat → MV → ME
  | [], x, v => [(x, v)]
  | (y, w) :: r, x, v => if y == x then (y, v) :: r else (y, w) :: upd r x v
theorem lookup_upd (me : ME) (x : Nat) (v : MV) (y : Nat) : (upd me x v).lookup y = if y = x then some v else me.lookup y := by
  induction me with
  | nil =>
    unfold upd
    rw [List.lookup_cons]
    by_cases h : y = x
    · subst h; simp
    · have : (y == x) = false := by simpa using h
      rw [this, if_neg h]
  | cons p r ih =>
    obtain ⟨z, w⟩ := p
    unfold upd
    by_cases hz : z = x
    · subst hz
      simp only [beq_self_eq_true, if_true]
      rw [List.lookup_cons, List.lookup_cons]
      by_cases h : y = z
      · subst h; simp
      · have : (y == z) = false := by simpa using h
        rw [this, if_neg h]
    · have hz' : (z == x) = false := by simpa using hz
      simp only [hz', Bool.false_eq_true, if_false]
      rw [List.lookup_cons, List.lookup_cons, ih]
      by_cases h : y = z
      · subst h
        simp [hz]
      · have : (y == z) = false := by simpa using h
        rw [this]

theorem tbl_ne (ok : C.Ok) {x y : Nat} {n n' : Str} (hx : C.tbl[x]? = some n) (hy : C.tbl[y]? = some n') (h : y ≠ x) : n' ≠ n := by
  intro e
  subst e
  obtain ⟨lx, ex⟩ := List.getElem?_eq_some_iff.mp hx
  obtain ⟨ly, ey⟩ := List.getElem?_eq_some_iff.mp hy
  exact h ((List.getElem_inj ok.nd).mp (ey.trans ex.symm))

theorem storeG (ok : C.Ok) {x : Nat} {n : Str} {mv : MV} {v : Value} {me : ME} {mh : MH} {ρ : Wd} {G : List Addr} {A : Around} {s : Shared} {Q : Unit → Shared → Prop} {E : Value → Shared → Prop}
    (hx : C.tbl[x]? = some n) (hk : (env.kindOf n = some .local ∧ env.locals ∈ G) ∨ (env.kindOf n = some .cell ∧ ∀ a ∈ fa env, a ∈ G)) (I : Inv C ρ mh s.heap) (so : SOk C s) (F : FR C ρ env me s.heap) (hv : VR ρ mv v)
    (h : ∀ s', Ext C ρ G s.heap ρ s'.heap → Inv C ρ mh s'.heap → SOk C s' → FR C ρ env (upd me x mv) s'.heap → Q () s') : wpAny C.M A (storeName env n v) Q E s := by
  have hl : env.locals ∈ fa env := by simp [fa]
  rcases hk with ⟨hk, hG⟩ | ⟨hk, hG⟩
  · obtain ⟨m, hm⟩ := F.ns
    refine wpAny_storeName_local hk hm (fun h' hn hs => h _ (Ext.one hs hG (Ns.live hn)) (I.ext (F.out _ hl).1 (F.out _ hl).2 hs.extBut) (so.heap _ _) ?_) (by rw [F.kind]; rfl)
    refine ⟨F.kind, F.glob, F.bui, ⟨_, hn⟩, fun n' c hm' => ?_, F.out, F.outX, F.apart, F.nl, F.has, F.hasF, fun y mw n' hy ht => ?_⟩
    · obtain ⟨v', hc⟩ := F.cells n' c hm'
      exact ⟨v', hc.sameBut hs (F.nl n' c hm')⟩
    · rw [lookup_upd] at hy
      by_cases e : y = x
      · subst e
        rw [if_pos rfl] at hy
        cases hy
        rw [hx] at ht; cases ht
        refine ⟨v, hv, ?_⟩
        unfold VarAt; rw [hk]
        exact ⟨_, hn, by simp⟩
      · rw [if_neg e] at hy
        obtain ⟨v', h1, h2⟩ := F.var y mw n' hy ht
        have hne := tbl_ne ok hx ht e
        refine ⟨v', h1, ?_⟩
        unfold VarAt at h2 ⊢
        split at h2
        · obtain ⟨m', hm', e'⟩ := h2
          have := Ns.uniq hm hm'
          subst this
          exact ⟨_, hn, by simp only [if_neg hne]; exact e'⟩
        · obtain ⟨c, e1, e2⟩ := h2
          exact ⟨c, e1, e2.sameBut hs (F.nl _ c (mem_of_lookup e1))⟩
        · obtain ⟨c, e1, e2⟩ := h2
          exact ⟨c, e1, e2.sameBut hs (F.nl _ c (mem_of_lookup e1))⟩
        · trivial
  · obtain ⟨c, hc⟩ := F.has n hk
    have hcm := mem_of_lookup hc
    have hcf : c ∈ fa env := by unfold fa; exact List.mem_cons_of_mem _ (List.mem_map.mpr ⟨(n, c), hcm, rfl⟩)
    obtain ⟨v0, hv0⟩ := F.cells n c hcm
    refine wpAny_storeName_cell F.kind hk hc hv0 fun h' hn hs => h _ (Ext.one hs (hG _ hcf) (let ⟨o, ho, _⟩ := hn; ⟨o, ho⟩)) (I.ext (F.out _ hcf).1 (F.out _ hcf).2 hs.extBut) (so.heap _ _) ?_
    obtain ⟨m, hm⟩ := F.ns
    have hcl : c ≠ env.locals := F.nl n c hcm
    refine ⟨F.kind, F.glob, F.bui, ⟨_, hm.sameBut hs hcl.symm⟩, fun n' c' hm' => ?_, F.out, F.outX, F.apart, F.nl, F.has, F.hasF, fun y mw n' hy ht => ?_⟩
    · by_cases e : c' = c
      · subst e; exact ⟨_, hn⟩
      · obtain ⟨v', hc'⟩ := F.cells n' c' hm'
        exact ⟨v', hc'.sameBut hs e⟩
    · rw [lookup_upd] at hy
      by_cases e : y = x
      · subst e
        rw [if_pos rfl] at hy
        cases hy
        rw [hx] at ht; cases ht
        refine ⟨v, hv, ?_⟩
        unfold VarAt; rw [hk]
        exact ⟨c, hc, hn⟩
      · rw [if_neg e] at hy
        obtain ⟨v', h1, h2⟩ := F.var y mw n' hy ht
        have hne := tbl_ne ok hx ht e
        refine ⟨v', h1, ?_⟩
        unfold VarAt at h2 ⊢
        split at h2
        · obtain ⟨m', hm', e'⟩ := h2
          exact ⟨m', hm'.sameBut hs hcl.symm, e'⟩
        · obtain ⟨c', e1, e2⟩ := h2
          exact ⟨c', e1, e2.sameBut hs fun z => hne (name_of_addr F.apart (mem_of_lookup e1) (z ▸ hcm))⟩
        · obtain ⟨c', e1, e2⟩ := h2
          exact ⟨c', e1, e2.sameBut hs fun z => hne (name_of_addr F.apart (mem_of_lookup e1) (z ▸ hcm))⟩
        · trivial

theorem storeV (ok : C.Ok) {x : Nat} {n : Str} {mv : MV} {v : Value} {me : ME} {mh : MH} {ρ : Wd} {A : Around} {s : Shared} {Q : Unit → Shared → Prop} {E : Value → Shared → Prop}
    (hx : C.tbl[x]? = some n) (hk : env.kindOf n = some .local ∨ env.kindOf n = some .cell) (I : Inv C ρ mh s.heap) (so : SOk C s) (F : FR C ρ env me s.heap) (hv : VR ρ mv v)
    (h : ∀ s', Ext C ρ (fa env) s.heap ρ s'.heap → Inv C ρ mh s'.heap → SOk C s' → FR C ρ env (upd me x mv) s'.heap → Q () s') : wpAny C.M A (storeName env n v) Q E s :=
  storeG ok hx (hk.imp (fun e => ⟨e, by simp [fa]⟩) fun e => ⟨e, fun _ h => h⟩) I so F hv h

noncomputable def dNil : DS := fun me mh => some (.next, me, mh)
noncomputable def dSeq (f g : DS) : DS := fun me mh => match f me mh with
  | some (.next, me1, mh1) => g me1 mh1
  | r => r
noncomputable def dAsg (x : Nat) (f : D) : DS := fun me mh => match f me mh with
  | some (v, mh1) => some (.next, upd me x v, mh1)
  | none => none
noncomputable def dRet (f : D) : DS := fun me mh => match f me mh with
  | some (v, mh1) => some (.ret v, me, mh1)
  | none => none
noncomputable def dIf (c : DB) (f g : DS) : DS := fun me mh => match c me mh with
  | some (b, mh1) => if b then f me mh1 else g me mh1
  | none => none
noncomputable def dBrk : DS := fun me mh => some (.brk, me, mh)
noncomputable def dCont : DS := fun me mh => some (.cont, me, mh)

theorem RS_nil : RS C d env (execs [] env) dNil := by
  intro me mh fl me' mh' hf ρ A s Q E ao I so F hQ
  cases hf
  exact wpAny_execs_nil (hQ _ _ _ (Ext.refl _ _ _) I so F rfl)
theorem RS_cons {st : Stmt} {rest : List Stmt} {f g : DS} (h1 : RS C d env (exec st env) f) (h2 : RS C d env (execs rest env) g) : RS C d env (execs (st :: rest) env) (dSeq f g) := by
  intro me mh fl me' mh' hf ρ A s Q E ao I so F hQ
  refine wpAny_execs_cons ?_
  unfold dSeq at hf
  cases hf1 : f me mh with
  | none => rw [hf1] at hf; simp at hf
  | some r =>
    obtain ⟨fl1, me1, mh1⟩ := r
    rw [hf1] at hf
    refine h1 hf1 ao I so F fun fl' ρ1 s1 x1 I1 so1 F1 r1 => ?_
    cases fl1 with
    | next =>
      cases r1
      exact h2 hf ao I1 so1 F1 fun fl'' ρ2 s2 x2 I2 so2 F2 r2 => hQ _ _ _ (x1.trans x2) I2 so2 F2 r2
    | brk => cases hf; cases r1; exact hQ _ _ _ x1 I1 so1 F1 rfl
    | cont => cases hf; cases r1; exact hQ _ _ _ x1 I1 so1 F1 rfl
    | ret v => cases hf; obtain ⟨w, rfl, r⟩ := r1; exact hQ _ _ _ x1 I1 so1 F1 ⟨_, rfl, r⟩

set_option tactic.hygienic true in
theorem RS_assign (ok : C.Ok) {x : Nat} {n : Str} {p pos : Pos} {value : PySem.Expr} {f : D} (hx : C.tbl[x]? = some n) (hk : env.kindOf n = some .local ∨ env.kindOf n = some .cell)
    (h : RE C d env value f) (hs : swapsWith value (some (.Name n p)) pos.line env = pure false) : RS C d env (exec (.Assign [.Name n p] value pos) env) (dAsg x f) := by
  intro me mh fl me' mh' hf ρ A s Q E ao I so F hQ
  unfold dAsg at hf
  split at hf
  · rename_i v mh1 hf1
    cases hf
    exact wpAny_Assign_Name (h hf1 ao I so F fun v ρ1 s1 x1 I1 so1 v1 => storeV ok hx hk I1 so1 (F.ext0 x1) v1 fun s2 x2 I2 so2 F2 => hQ _ _ _ (x1.wide.trans x2) I2 so2 F2 rfl) hs
  · cases hf

set_option tactic.hygienic true in
theorem RS_ret {e : PySem.Expr} {pos : Pos} {f : D} (h : RE C d env e f) : RS C d env (exec (.Return (some e) pos) env) (dRet f) := by
  intro me mh fl me' mh' hf ρ A s Q E ao I so F hQ
  unfold dRet at hf
  split at hf
  · rename_i v mh1 hf1
    cases hf
    exact wpAny_Return_some (h hf1 ao I so F fun v ρ1 s1 x1 I1 so1 v1 => hQ _ _ _ x1.wide I1 so1 (F.ext0 x1) ⟨_, rfl, v1⟩)
  · cases hf

set_option tactic.hygienic true in
theorem RS_if {test : PySem.Expr} {body orelse : List Stmt} {pos : Pos} {c : DB} {f g : DS} (hc : RB C d env (isTrue test env (eval test env)) c) (h1 : RS C d env (execs body env) f) (h2 : RS C d env (execs orelse env) g) :
    RS C d env (exec (.If test body orelse pos) env) (dIf c f g) := by
  intro me mh fl me' mh' hf ρ A s Q E ao I so F hQ
  unfold dIf at hf
  split at hf
  · rename_i b mh1 hf1
    refine wpAny_If (hc hf1 ao I so F fun ρ1 s1 x1 I1 so1 => ?_)
    cases b with
    | true => exact h1 hf ao I1 so1 (F.ext0 x1) fun fl' ρ2 s2 x2 I2 so2 F2 r2 => hQ _ _ _ (x1.wide.trans x2) I2 so2 F2 r2
    | false => exact h2 hf ao I1 so1 (F.ext0 x1) fun fl' ρ2 s2 x2 I2 so2 F2 r2 => hQ _ _ _ (x1.wide.trans x2) I2 so2 F2 r2
  · cases hf

theorem RS_break {pos : Pos} : RS C d env (exec (.Break pos) env) dBrk := by
  intro me mh fl me' mh' hf ρ A s Q E ao I so F hQ
  cases hf
  exact wpAny_Break (hQ _ _ _ (Ext.refl _ _ _) I so F rfl)
theorem RS_continue {pos : Pos} : RS C d env (exec (.Continue pos) env) dCont := by
  intro me mh fl me' mh' hf ρ A s Q E ao I so F hQ
  cases hf
  exact wpAny_Continue (hQ _ _ _ (Ext.refl _ _ _) I so F rfl)

noncomputable def tru : MV → MH → Option Bool
  | .none, _ => some false
  | .bool b, _ => some b
  | .ref i, mh => (match mh[i]? with
    | some (.list vs) => if vs.length < 1000000000 then some (!vs.isEmpty) else none
    | _ => none)
  | _, _ => none
noncomputable def dTru (f : D) : DB := fun me mh => match f me mh with
  | some (v, mh1) => (match tru v mh1 with | some b => some (b, mh1) | none => none)
  | none => none
noncomputable def dNot (c : DB) : DB := fun me mh => match c me mh with
  | some (b, mh1) => some (!b, mh1)
  | none => none
noncomputable def dOr (c c' : DB) : DB := fun me mh => match c me mh with
  | some (false, mh1) => c' me mh1
  | r => r
noncomputable def dBt : DB := fun _ mh => some (true, mh)
noncomputable def dBf : DB := fun _ mh => some (false, mh)
noncomputable def dIte (c : DB) (f g : D) : D := fun me mh => match c me mh with
  | some (b, mh1) => if b then f me mh1 else g me mh1
  | none => none

theorem isList_of {h : Heap} {a : Addr} {vs : List Value} {n : Nat} (e : h.get? a = some (listO vs n)) : h.IsList a vs.toArray := ⟨_, e, rfl, n, rfl⟩
set_option tactic.hygienic true in
theorem tru_ok {ρ : Wd} {v : MV} {rv : Value} {mh : MH} {b : Bool} {A : Around} {s : Shared} {Q : Bool → Shared → Prop} {E : Value → Shared → Prop} (h : tru v mh = some b) (I : Inv C ρ mh s.heap) (hv : VR ρ v rv) (hQ : ∀ t, Q b { s with toks := t }) :
    wpAny C.M A (truthy rv) Q E s := by
  unfold tru at h
  split at h
  · cases h; cases hv.none_; exact fun _ _ _ => hQ s.toks
  · cases h; cases hv.bool_; exact wpAny_truthy_bool (hQ s.toks)
  · split at h
    · rename_i vs hi
      split at h
      · rename_i hl
        cases h
        obtain ⟨a, ea, rfl⟩ := hv.ref_
        obtain ⟨o, ho, ws, n, rfl, r⟩ := I.at hi ea
        have hlen := r.length
        refine wpAny_truthy_list (isList_of ho) (by simp [hlen]; lia) ?_
        have : (!vs.isEmpty) = (!ws.toArray.isEmpty) := by
          cases vs with
          | nil => have : ws = [] := by cases ws with | nil => rfl | cons => simp at hlen
                   subst this; rfl
          | cons v r => cases ws with
            | nil => simp at hlen
            | cons => rfl
        rw [← this]
        exact hQ _
      · cases h
    · cases h
  · cases h

set_option tactic.hygienic true in
theorem RB_cmp {l r : PySem.Expr} {op : CmpOp} {pos : Pos} {whole : Sem Value} {f g : D} {o : Op2} (hl : RE C d env l f) (hr : RE C d env r g) (ho : RO2 C d (compareOp op) o)
    (hm : behindInMarks op r = false := by with_unfolding_all rfl) : RB C d env (isTrue (.Compare l [op] [r] pos) env whole) (dTru (dOp2 o f g)) := by
  intro me mh b mh' hf ρ A s Q E ao I so F hQ
  unfold dTru at hf
  split at hf
  · rename_i v mh3 hf3
    split at hf
    · rename_i b' hb
      cases hf
      obtain ⟨x, mh1, y, mh2, h1, h2, h3⟩ := dOp2_some hf3
      exact wpAny_isTrue_Compare1 (hl h1 ao I so F fun va ρ1 s1 x1 I1 so1 v1 => hr h2 ao I1 so1 (F.ext0 x1) fun vb ρ2 s2 x2 I2 so2 v2 =>
        ho h3 ao I2 so2 (v1.mono x2.pre) v2 fun v ρ3 s3 x3 I3 so3 v3 => tru_ok hb I3 v3 fun t => hQ _ _ (x1.trans (x2.trans x3)) I3 (so3.heap _ _)) hm
    · cases hf
  · cases hf

set_option tactic.hygienic true in
theorem RB_value {e : PySem.Expr} {whole : Sem Value} {f : D} (h : RT C d env whole f) (he : isTrue e env whole = (do let v ← whole; standAt e.pos; holding [v] (truthy v)) := by rfl) :
    RB C d env (isTrue e env whole) (dTru f) := by
  intro me mh b mh' hf ρ A s Q E ao I so F hQ
  unfold dTru at hf
  split at hf
  · rename_i v mh3 hf3
    split at hf
    · rename_i b' hb
      cases hf
      exact wpAny_isTrue_value (h hf3 ao I so F fun v ρ3 s3 x3 I3 so3 v3 => tru_ok hb I3 v3 fun t => hQ _ _ x3 I3 (so3.heap _ _)) he
    · cases hf
  · cases hf

set_option tactic.hygienic true in
theorem RB_not {x : PySem.Expr} {pos : Pos} {whole : Sem Value} {c : DB} (h : RB C d env (isTrue x env (eval x env)) c) : RB C d env (isTrue (.UnaryOp .Not x pos) env whole) (dNot c) := by
  intro me mh b mh' hf ρ A s Q E ao I so F hQ
  unfold dNot at hf
  split at hf
  · rename_i b' mh1 hf1
    cases hf
    exact isTrue_not (h hf1 ao I so F fun ρ1 s1 x1 I1 so1 => hQ _ _ x1 I1 so1)
  · cases hf

end Mine

namespace Mine
variable {C : Cx} {d : Nat} {env : Env}

theorem RB_or_nil {pos : Pos} {whole : Sem Value} : RB C d env (isTrue (.BoolOp .Or [] pos) env whole) dBf := by
  intro me mh b mh' hf ρ A s Q E ao I so F hQ
  cases hf
  exact isTrue_or_nil (hQ _ _ (Ext.refl _ _ _) I so)
theorem RB_or {x : PySem.Expr} {rest : List PySem.Expr} {pos : Pos} {whole : Sem Value} {c c' : DB} (h1 : RB C d env (isTrue x env (eval x env)) c) (h2 : RB C d env (isTrue (.BoolOp .Or rest pos) env whole) c') :
    RB C d env (isTrue (.BoolOp .Or (x :: rest) pos) env whole) (dOr c c') := by
  intro me mh b mh' hf ρ A s Q E ao I so F hQ
  unfold dOr at hf
  refine isTrue_or ?_
  cases hc : c me mh with
  | none => rw [hc] at hf; simp at hf
  | some r =>
    obtain ⟨b1, mh1⟩ := r
    rw [hc] at hf
    refine h1 hc ao I so F fun ρ1 s1 x1 I1 so1 => ?_
    cases b1 with
    | false => exact h2 hf ao I1 so1 (F.ext0 x1) fun ρ2 s2 x2 I2 so2 => hQ _ _ (x1.trans x2) I2 so2
    | true => cases hf; exact hQ _ _ x1 I1 so1
set_option tactic.hygienic true in
theorem RE_ite {test body orelse : PySem.Expr} {pos : Pos} {c : DB} {f g : D} (hc : RB C d env (isTrue test env (eval test env)) c) (h1 : RE C d env body f) (h2 : RE C d env orelse g) :
    RE C d env (.IfExp test body orelse pos) (dIte c f g) := by
  intro me mh mv mh' hf ρ A s Q E ao I so F hQ
  unfold dIte at hf
  split at hf
  · rename_i b mh1 hf1
    refine wpAny_IfExp (hc hf1 ao I so F fun ρ1 s1 x1 I1 so1 => ?_)
    cases b with
    | true => exact h1 hf ao I1 so1 (F.ext0 x1) fun v ρ2 s2 x2 I2 so2 v2 => hQ _ _ _ (x1.trans x2) I2 so2 v2
    | false => exact h2 hf ao I1 so1 (F.ext0 x1) fun v ρ2 s2 x2 I2 so2 v2 => hQ _ _ _ (x1.trans x2) I2 so2 v2
  · cases hf
noncomputable def dBoolAnd (f g : D) : D := fun me mh => match f me mh with
  | some (.bool true, mh1) => g me mh1
  | some (.bool false, mh1) => some (.bool false, mh1)
  | _ => none
set_option tactic.hygienic true in
theorem RE_and2 {x y : PySem.Expr} {pos : Pos} {f g : D} (h1 : RE C d env x f) (h2 : RE C d env y g) : RE C d env (.BoolOp .And [x, y] pos) (dBoolAnd f g) := by
  intro me mh mv mh' hf ρ A s Q E ao I so F hQ
  unfold dBoolAnd at hf
  split at hf
  · rename_i mh1 hf1
    refine wpAny_And2 (h1 hf1 ao I so F fun v ρ1 s1 x1 I1 so1 v1 => ?_)
    cases v1.bool_
    exact wpAny_truthy_bool (h2 hf ao I1 so1 (F.ext0 x1) fun v ρ2 s2 x2 I2 so2 v2 => hQ _ _ _ (x1.trans x2) I2 so2 v2)
  · rename_i mh1 hf1
    cases hf
    refine wpAny_And2 (h1 hf1 ao I so F fun v ρ1 s1 x1 I1 so1 v1 => ?_)
    cases v1.bool_
    exact wpAny_truthy_bool (hQ _ _ _ x1 I1 so1 .bool')
  · cases hf

noncomputable def dL0 : DL := fun _ mh => some ([], mh)
noncomputable def dL1 (f : D) (g : DL) : DL := fun me mh => match f me mh with
  | some (v, mh1) => (match g me mh1 with | some (vs, mh2) => some (v :: vs, mh2) | none => none)
  | none => none
noncomputable def dTup (g : DL) : D := fun me mh => match g me mh with
  | some (vs, mh1) => if vs.length ≤ 1000 then some (.tup vs, mh1) else none
  | none => none
noncomputable def dLst (g : DL) : D := fun me mh => match g me mh with
  | some (vs, mh1) => if vs.length ≤ 1000 then some (.lst vs, mh1) else none
  | none => none
noncomputable def dLstM (g : DL) : D := fun me mh => match g me mh with
  | some (vs, mh1) => if vs.length ≤ 1000 then some (.ref mh1.length, mh1 ++ [.list vs]) else none
  | none => none

noncomputable abbrev RArgs (C : Cx) (d : Nat) (env : Env) (es : List PySem.Expr) (f : DL) : Prop := ∀ pos, RL C d env (spliced (backTo pos (starEach es env))) f
theorem RL_nil : RArgs C d env [] dL0 := by
  intro pos me mh mvs mh' hf ρ A s Q E ao I so F hQ
  cases hf
  exact PyProof.Rows.args_nil (hQ _ _ _ (Ext.refl _ _ _) I so .nil)
set_option tactic.hygienic true in
theorem RL_cons {e : PySem.Expr} {rest : List PySem.Expr} {f : D} {g : DL} (h1 : RE C d env e f) (h2 : RArgs C d env rest g)
    (he : starEach (e :: rest) env = (false, eval e env) :: starEach rest env := by rfl) : RArgs C d env (e :: rest) (dL1 f g) := by
  intro pos me mh mvs mh' hf ρ A s Q E ao I so F hQ
  unfold dL1 at hf
  split at hf
  · rename_i v mh1 hf1
    split at hf
    · rename_i vs mh2 hf2
      cases hf
      exact PyProof.Rows.args_cons (h1 hf1 ao I so F fun v ρ1 s1 x1 I1 so1 v1 => h2 pos hf2 ao I1 so1 (F.ext0 x1) fun vs ρ2 s2 x2 I2 so2 v2 => hQ _ _ _ (x1.trans x2) I2 so2 (.cons (v1.mono x2.pre) v2)) he
    · cases hf
  · cases hf
theorem le_line {n : Nat} (h : n ≤ 1000) : n ≤ sizeLine := Nat.le_trans h (by decide)
set_option tactic.hygienic true in
theorem RE_tuple {es : List PySem.Expr} {k : Nat} {pos : Pos} {g : DL} (h : RArgs C d env es g) : RE C d env (.Tuple es k pos) (dTup g) := by
  intro me mh mv mh' hf ρ A s Q E ao I so F hQ
  unfold dTup at hf
  split at hf
  · rename_i vs mh1 hf1
    split at hf
    · rename_i hl
      cases hf
      refine PyProof.Rows.Tuple_ (h pos hf1 ao I so F fun ws ρ1 s1 x1 I1 so1 v1 => ?_)
      refine wpAny_newTuple ?_ (by rw [v1.length]; exact le_line hl)
      exact Post.tup (Q := Q) (fun v ρ' s' x => hQ v ρ' s' (x1.trans x)) I1 so1 v1 s1.toks
    · cases hf
  · cases hf
set_option tactic.hygienic true in
theorem RE_list {es : List PySem.Expr} {pos : Pos} {g : DL} (h : RArgs C d env es g) : RE C d env (.List es pos) (dLst g) := by
  intro me mh mv mh' hf ρ A s Q E ao I so F hQ
  unfold dLst at hf
  split at hf
  · rename_i vs mh1 hf1
    split at hf
    · rename_i hl
      cases hf
      refine PyProof.Rows.List_ (h pos hf1 ao I so F fun ws ρ1 s1 x1 I1 so1 v1 => ?_)
      refine wpAny_newList ?_ (by rw [v1.length]; exact le_line hl)
      exact Post.lst (Q := Q) (fun v ρ' s' x => hQ v ρ' s' (x1.trans x)) I1 so1 v1 s1.toks
    · cases hf
  · cases hf

set_option tactic.hygienic true in
theorem RE_listM {es : List PySem.Expr} {pos : Pos} {g : DL} (h : RArgs C d env es g) : RE C d env (.List es pos) (dLstM g) := by
  intro me mh mv mh' hf ρ A s Q E ao I so F hQ
  unfold dLstM at hf
  split at hf
  · rename_i vs mh1 hf1
    split at hf
    · rename_i hl
      cases hf
      refine PyProof.Rows.List_ (h pos hf1 ao I so F fun ws ρ1 s1 x1 I1 so1 v1 => ?_)
      refine wpAny_newList ?_ (by rw [v1.length]; exact le_line hl)
      exact Post.new (Q := Q) (fun v ρ' s' x => hQ v ρ' s' (x1.trans x)) I1 so1 ⟨ws, 0, rfl, v1⟩ s1.toks
    · cases hf
  · cases hf

theorem subTail {M : Model} {prog : Program} {w : World} (hM : M = model prog w) {A : Around} {E : Value → Shared → Prop} {s : Shared} {value slice : PySem.Expr} {o i : Value} {T id : String} {L : List Value} {Q : Value → Shared → Prop} (hT : s.TypeIs o T)
    (hl : typeLookup (.type T) "__getitem__" = pure (some (.builtin id))) (h : wpAny M A (getItem o i) Q E s)
    (hs : subscripted slice false o i = operate L (getItem o i)) : wpAny M A (subscriptTail value slice o i) Q E s := by
  subst hM
  unfold subscriptTail
  refine wpAny_bind ?_
  rw [getitemInPython_of_ne hT.not_modules]
  refine wpAny_bind (wpAny_specialOf hT hl ?_)
  have fin : wpAny (model prog w) A (subscripted slice false o i) (fun r s₃ => wpAny (model prog w) A (letTemporaryGo value o r >>= fun _ => pure r) Q E s₃) E s := by
    rw [hs]
    exact wpAny_operating (wpAny_mono h (fun r s₃ h₃ => wpAny_bind (wpAny_letTemporaryGo (wpAny_pure h₃))) fun _ _ x => x)
  first
    | exact wpAny_pure (wpAny_bind fin)
    | exact wpAny_bind (wpAny_pure (wpAny_bind fin))
    | exact wpAny_bind fin

noncomputable def place (k : Int) (n : Nat) : Option Nat :=
  if 0 ≤ k then (if k < n ∧ k < 1000000000 then some k.toNat else none) else if 0 ≤ k + n ∧ n < 1000000000 then some (k + n).toNat else none
set_option tactic.hygienic true in
theorem place_seq {k : Int} {n j : Nat} (h : place k n = some j) : seqIndex? k n = some j ∧ j < n ∧ -(2 ^ 63) ≤ k ∧ k < 2 ^ 63 ∧ (0 ≤ k → j = k.toNat) ∧ (k < 0 → j = (k + n).toNat ∧ -(n : Int) ≤ k) := by
  unfold place at h
  split at h
  · split at h
    · rename_i h0 h1
      cases h
      refine ⟨?_, by omega, by omega, by omega, fun _ => rfl, fun q => by omega⟩
      unfold seqIndex?
      simp only [if_neg (Int.not_lt.mpr h0)]
      rw [if_pos (by simp; omega)]
    · cases h
  · split at h
    · rename_i h0 h1
      cases h
      refine ⟨?_, by omega, by omega, by omega, fun q => by omega, fun _ => ⟨rfl, by omega⟩⟩
      unfold seqIndex?
      simp only [if_pos (Int.not_le.mp h0)]
      rw [if_pos (by simp; omega)]
    · cases h

noncomputable def itemAt (k : Int) (vs : List MV) (mh : MH) : Option (MV × MH) := match place k vs.length with
  | some j => (match vs[j]? with | some v => some (v, mh) | none => none)
  | none => none
noncomputable def oItem : Op2 := fun a b mh => match a, b with
  | .ref i, .int k => (match mh[i]? with
    | some (.list vs) => itemAt k vs mh
    | _ => none)
  | .lst vs, .int k => itemAt k vs mh
  | .tup vs, .int k => itemAt k vs mh
  | .str x, .int k => (match place k x.length with | some j => (match x.cps[j]? with | some c => some (.str ⟨#[c]⟩, mh) | none => none) | none => none)
  | _, _ => none
theorem itemAt_some {k : Int} {vs : List MV} {mh mh' : MH} {v : MV} (h : itemAt k vs mh = some (v, mh')) : ∃ j, place k vs.length = some j ∧ vs[j]? = some v ∧ mh' = mh := by
  unfold itemAt at h
  split at h
  · split at h
    · cases h; exact ⟨_, by assumption, by assumption, rfl⟩
    · cases h
  · cases h

theorem getItem_listP {prog : Program} {w : World} {A : Around} {E : Value → Shared → Prop} {s : Shared} {l : Addr} {items : Array Value} {k : Int} {t : Tok} {j : Nat} {x : Value} {Q : Value → Shared → Prop} (hl : s.heap.IsList l items)
    (hp : place k items.size = some j) (hx : items[j]? = some x) (h : Q x s) : wpAny (model prog w) A (getItem (.ref l) (.int k t)) Q E s := by
  obtain ⟨_, _, h1, h2, h3, h4⟩ := place_seq hp
  by_cases h0 : 0 ≤ k
  · have e := h3 h0
    subst e
    exact wpAny_getItem_list hl h0 h2 hx h
  · have h0' : k < 0 := by lia
    obtain ⟨e, e'⟩ := h4 h0'
    subst e
    exact wpAny_getItem_list_neg hl h0' e' h1 hx h

theorem isTup_of {h : Heap} {a : Addr} {vs : List Value} {n : Nat} (e : h.get? a = some (tupO vs n)) : IsTup h a vs.toArray := ⟨_, e, rfl, n, rfl⟩

set_option tactic.hygienic true in
theorem item_ok {a b : MV} {mh : MH} {mv : MV} {mh' : MH} (h : oItem a b mh = some (mv, mh')) {ρ : Wd} {A : Around} {s : Shared} {Q : Value → Shared → Prop} {E : Value → Shared → Prop} {va vb : Value}
    (I : Inv C ρ mh s.heap) (so : SOk C s) (ha : VR ρ a va) (hb : VR ρ b vb) (hQ : Post C ρ s.heap mh' mv Q) :
    wpAny C.M A (getItem va vb) Q E s ∧ ∃ T id, s.TypeIs va T ∧ typeLookup (.type T) "__getitem__" = pure (some (.builtin id)) := by
  unfold oItem at h
  split at h
  · obtain ⟨l, el, rfl⟩ := ha.ref_
    obtain ⟨u, rfl⟩ := hb.int_
    split at h
    · rename_i vs hi
      obtain ⟨j, hj, hv, rfl⟩ := itemAt_some h
      obtain ⟨o, ho, ws, n, rfl, r⟩ := I.at hi el
      obtain ⟨x, hx, hr⟩ := r.get hv
      refine ⟨getItem_listP (isList_of ho) (j := j) (by simpa [r.length] using hj) (by simpa using hx) (hQ.here I so _ hr), "list", _, ⟨_, ho, rfl⟩, slot_list_getitem.lookup⟩
    · cases h
  · obtain ⟨l, ws, n, el, rfl, r⟩ := ha.lst_
    obtain ⟨u, rfl⟩ := hb.int_
    obtain ⟨j, hj, hv, rfl⟩ := itemAt_some h
    have ho := I.fz _ el
    obtain ⟨x, hx, hr⟩ := r.get hv
    refine ⟨getItem_listP (isList_of ho) (j := j) (by simpa [r.length] using hj) (by simpa using hx) (hQ.here I so _ hr), "list", _, ⟨_, ho, rfl⟩, slot_list_getitem.lookup⟩
  · obtain ⟨l, ws, n, el, rfl, r⟩ := ha.tup_
    obtain ⟨u, rfl⟩ := hb.int_
    obtain ⟨j, hj, hv, rfl⟩ := itemAt_some h
    have ho := I.fz _ el
    obtain ⟨x, hx, hr⟩ := r.get hv
    obtain ⟨p1, p2, p3, p4, _⟩ := place_seq hj
    exact ⟨PyProof.Rows.getItem_tuple (isTup_of ho) p3 p4 (j := j) (by simpa [r.length] using p1) (by simpa using hx) (hQ.here I so _ hr), "tuple", _, ⟨_, ho, rfl⟩, slot_tuple_getitem.lookup⟩
  · rename_i x k
    obtain ⟨t, rfl⟩ := ha.str_
    obtain ⟨u, rfl⟩ := hb.int_
    split at h
    · rename_i j hj
      split at h
      · rename_i c hc
        cases h
        obtain ⟨p1, p2, p3, p4, _⟩ := place_seq hj
        refine ⟨PySem.P.getItem_str (by simp; lia) (c := c) (by rw [p1]; exact hc) (hQ.same I so _ .str' _), "str", _, typeIs_str s x t, PySem.F.slot_str_getitem.lookup⟩
      · cases h
    · cases h
  · cases h

theorem RE_item {value slice : PySem.Expr} {pos : Pos} {f g : D} (hl : RE C d env value f) (hr : RE C d env slice g)
    (hs : ∀ o i, subscripted slice false o i = operate [o, i] (getItem o i)) : RE C d env (.Subscript value slice pos) (dOp2 oItem f g) := by
  intro me mh mv mh' hf ρ A s Q E ao I so F hQ
  obtain ⟨a, mh1, b, mh2, h1, h2, h3⟩ := dOp2_some hf
  refine Subscript_ (hl h1 ao I so F fun va ρ1 s1 x1 I1 so1 v1 => hr h2 ao I1 so1 (F.ext0 x1) fun vb ρ2 s2 x2 I2 so2 v2 => ?_)
  obtain ⟨hw, T, id, hT, ht⟩ := item_ok (A := A) (E := E) h3 I2 so2 (v1.mono x2.pre) v2 (Q := Q) fun v ρ3 s3 x3 I3 so3 v3 => hQ v ρ3 s3 (x1.trans (x2.trans x3)) I3 so3 v3
  exact subTail rfl hT ht hw (hs _ _)

noncomputable def oIAdd : Op2 := fun a b mh => match a, b with
  | .int x, .int y => some (.int (x + y), mh)
  | .str x, .str y => if x.length + y.length ≤ sizeLine then some (.str (x ++ y), mh) else none
  | _, _ => none
set_option tactic.hygienic true in
theorem rIAdd : RO2 C d (inplaceOp .Add) oIAdd := by
  intro a b mh mv mh' h ρ A s Q E va vb ao I so ha hb hQ
  unfold oIAdd at h
  split at h
  · cases h
    obtain ⟨t, rfl⟩ := ha.int_
    obtain ⟨u, rfl⟩ := hb.int_
    exact iadd_int (hQ.same I so _ .int' _)
  · split at h
    · rename_i x y hl
      cases h
      obtain ⟨t, rfl⟩ := ha.str_
      obtain ⟨u, rfl⟩ := hb.str_
      exact PyProof.Rows.iadd_str (fun t' tk => hQ.same I so _ .str' _) hl
    · cases h
  · cases h
noncomputable def dAugV (x : Nat) (o : Op2) (f : D) : DS := dAsg x (dOp2 o (dVar x) f)

set_option tactic.hygienic true in
theorem RS_augName (ok : C.Ok) {x : Nat} {n : Str} {p pos : Pos} {op : Operator} {value : PySem.Expr} {f : D} {o : Op2} (hx : C.tbl[x]? = some n) (hk : env.kindOf n = some .local ∨ env.kindOf n = some .cell)
    (h : RE C d env value f) (ho : RO2 C d (inplaceOp op) o) : RS C d env (exec (.AugAssign (.Name n p) op value pos) env) (dAugV x o f) := by
  intro me mh fl me' mh' hf ρ A s Q E ao I so F hQ
  unfold dAugV dAsg at hf
  split at hf
  · rename_i v mh1 hf1
    cases hf
    obtain ⟨a, mh2, b, mh3, h1, h2, h3⟩ := dOp2_some hf1
    refine wpAny_AugAssign_Name ?_
    unfold dVar at h1
    split at h1
    · rename_i v0 hv0
      cases h1
      obtain ⟨rv, r1, r2⟩ := F.var x _ n hv0 hx
      have key : wpAny C.M A (eval value env) (fun v s₂ => wpAny C.M A (inplaceOp op rv v) (fun r s₃ => wpAny C.M A (storeName env n r) (fun _ => Q .next) E s₃) E s₂) E s :=
        h h2 ao I so F fun vb ρ2 s2 x2 I2 so2 v2 => ho h3 ao I2 so2 (r1.mono x2.pre) v2 fun v ρ3 s3 x3 I3 so3 v3 =>
          storeV ok hx hk I3 so3 ((F.ext0 x2).ext0 x3) v3 fun s4 x4 I4 so4 F4 => hQ _ _ _ ((x2.trans x3).wide.trans x4) I4 so4 F4 rfl
      unfold VarAt at r2
      rcases hk with e | e
      · rw [e] at r2
        obtain ⟨m, hm, hn⟩ := r2
        exact wpAny_loadName_local F.kind e hm hn key
      · rw [e] at r2
        obtain ⟨c, hc, hn⟩ := r2
        exact wpAny_loadName_cell F.kind e hc hn key
    · cases h1
  · cases hf

noncomputable def dExprN (f : D) : DS := fun me mh => match f me mh with
  | some (.none, mh1) => some (.next, me, mh1)
  | _ => none
set_option tactic.hygienic true in
theorem RS_expr {e : PySem.Expr} {pos : Pos} {f : D} (h : RE C d env e f) (hi : interactive env = false) (hs : swapsWith e none pos.line env = pure false) :
    RS C d env (exec (.Expr e pos) env) (dExprN f) := by
  intro me mh fl me' mh' hf ρ A s Q E ao I so F hQ
  unfold dExprN at hf
  split at hf
  · rename_i mh1 hf1
    cases hf
    refine wpAny_Expr (h hf1 ao I so F fun v ρ1 s1 x1 I1 so1 v1 => ?_) hi hs
    cases v1.none_
    exact hQ _ _ _ x1.wide I1 so1 (F.ext0 x1) rfl
  · cases hf

end Mine

namespace Mine
variable {C : Cx} {d : Nat} {env : Env}

noncomputable abbrev Tg := ME → MH → MV → Option ME
noncomputable def RTg (C : Cx) (d : Nat) (env : Env) (G : List Addr) (target : PySem.Expr) (tg : Tg) : Prop :=
  ∀ {me mh mv me'}, tg me mh mv = some me' → ∀ {ρ A s Q E v}, Aok d A → Inv C ρ mh s.heap → SOk C s → FR C ρ env me s.heap → VR ρ mv v →
    (∀ s', Ext C ρ G s.heap ρ s'.heap → Inv C ρ mh s'.heap → SOk C s' → FR C ρ env me' s'.heap → Q () s') → wpAny C.M A (assign target env v) Q E s

noncomputable def tgV (x : Nat) : Tg := fun me _ v => some (upd me x v)
theorem RTg_name (ok : C.Ok) {G : List Addr} {x : Nat} {n : Str} {p : Pos} (hx : C.tbl[x]? = some n) (hk : (env.kindOf n = some .local ∧ env.locals ∈ G) ∨ (env.kindOf n = some .cell ∧ ∀ a ∈ fa env, a ∈ G)) :
    RTg C d env G (.Name n p) (tgV x) := by
  intro me mh mv me' ht ρ A s Q E v ao I so F hv h
  cases ht
  exact wpAny_assign_Name (storeG ok hx hk I so F hv h)

noncomputable def upds : ME → List Nat → List MV → ME
  | me, x :: xs, v :: vs => upds (upd me x v) xs vs
  | me, _, _ => me
noncomputable def tgT (xs : List Nat) : Tg := fun me _ v => match v with
  | .tup vs => if vs.length = xs.length then some (upds me xs vs) else none
  | _ => none

inductive TNames (C : Cx) (env : Env) (G : List Addr) : List PySem.Expr → List Nat → Prop where
  | nil : TNames C env G [] []
  | cons {x : Nat} {n : Str} {p : Pos} {es xs} : C.tbl[x]? = some n → ((env.kindOf n = some .local ∧ env.locals ∈ G) ∨ (env.kindOf n = some .cell ∧ ∀ a ∈ fa env, a ∈ G)) → TNames C env G es xs → TNames C env G (.Name n p :: es) (x :: xs)
theorem TNames.len {G : List Addr} {es : List PySem.Expr} {xs : List Nat} (h : TNames C env G es xs) : (assignEach es env).length = xs.length := by
  induction h with
  | nil => rfl
  | cons _ _ _ ih => exact congrArg (· + 1) ih
theorem TNames.star {G : List Addr} {es : List PySem.Expr} {xs : List Nat} (h : TNames C env G es xs) : (assignEach es env).findIdx? (·.1) = none := by
  induction h with
  | nil => rfl
  | cons _ _ _ ih =>
    refine List.findIdx?_cons.trans ?_
    rw [ih]
    rfl
theorem TNames.run (ok : C.Ok) {G : List Addr} {es : List PySem.Expr} {xs : List Nat} (h : TNames C env G es xs) : ∀ {vs : List MV} {ws : List Value} {me : ME} {mh : MH} {ρ : Wd} {A : Around} {s : Shared} {Q : Unit → Shared → Prop} {E : Value → Shared → Prop},
    vs.length = xs.length → VRs ρ vs ws → Inv C ρ mh s.heap → SOk C s → FR C ρ env me s.heap →
    (∀ s', Ext C ρ G s.heap ρ s'.heap → Inv C ρ mh s'.heap → SOk C s' → FR C ρ env (upds me xs vs) s'.heap → Q () s') →
    wpAny C.M A (assignInOrder ((assignEach es env).map (·.2)) ws) Q E s := by
  induction h with
  | nil =>
    intro vs ws me mh ρ A s Q E hl hv I so F hQ
    cases hv with
    | nil => exact wpAny_assignInOrder_none (hQ _ (Ext.refl _ _ _) I so F)
    | cons _ _ => simp at hl
  | cons hx hk _ ih =>
    intro vs ws me mh ρ A s Q E hl hv I so F hQ
    cases hv with
    | nil => simp at hl
    | cons h1 h2 =>
      refine wpAny_assignInOrder_more (wpAny_assign_Name (storeG ok hx hk I so F h1 fun s1 x1 I1 so1 F1 => ?_))
      exact ih (by simpa using hl) h2 I1 so1 F1 fun s2 x2 I2 so2 F2 => hQ _ (x1.trans x2) I2 so2 F2
theorem isTuple_of {h : Heap} {a : Addr} {vs : List Value} {n : Nat} (e : h.get? a = some (tupO vs n)) : h.IsTuple a vs.toArray := ⟨_, e, rfl, n, rfl⟩

set_option tactic.hygienic true in
theorem RTg_tuple (ok : C.Ok) {G : List Addr} {es : List PySem.Expr} {xs : List Nat} {k : Nat} {p : Pos} (hn : TNames C env G es xs) : RTg C d env G (.Tuple es k p) (tgT xs) := by
  intro me mh mv me' ht ρ A s Q E v ao I so F hv h
  unfold tgT at ht
  split at ht
  · split at ht
    · rename_i vs hl
      cases ht
      obtain ⟨a, ws, n, ea, rfl, r⟩ := hv.tup_
      have ho := I.fz _ ea
      refine wpAny_assign_Tuple ao.handled (isTuple_of ho) (by rw [hn.len]; simp [r.length, hl]) hn.star fun h' hk => ?_
      have hk' : ∀ b o, s.heap.get? b = some o → h'.get? b = some o := fun b o e => hk b o (fun z => by subst z; rw [get_size] at e; cases e) e
      have x0 : Ext C ρ G s.heap ρ h' := (Ext.all hk').more (by simp)
      exact hn.run ok (mh := mh) hl (by simpa using r) (I.junk hk') (so.heap _ _) (F.keep (.refl _) (fun a _ o e => hk' a o e) fun a ha => (F.out a ha).1) fun s' x I' so' F' => h s' (x0.trans x) I' so' F'
    · cases ht
  · cases ht

inductive ItK where
  | list (i : Nat) | lst (vs : List MV) | tup (vs : List MV) | rng (a b : Int) | str (x : Str)
noncomputable def itOf (c0 : Option Addr) : MV → MH → Option ItK
  | .ref i, mh => (match mh[i]? with
    | some (.list _) => some (.list i)
    | some (.inst c _ (some _)) => if c0 = some c then some (.list i) else none
    | _ => none)
  | .lst vs, _ => some (.lst vs)
  | .tup vs, _ => some (.tup vs)
  | .rng a b, _ => if -1000000000 < a ∧ a < 1000000000 ∧ -1000000000 < b ∧ b < 1000000000 then some (.rng a b) else none
  | .str x, _ => if x.cps.all (· < 128) then some (.str x) else none
  | _, _ => none
noncomputable def nextOf : ItK → MH → Nat → Option (Option MV)
  | .list i, mh, j => (match mh[i]? with | some (.list vs) => some vs[j]? | some (.inst _ _ (some vs)) => some vs[j]? | _ => none)
  | .lst vs, _, j => some vs[j]?
  | .tup vs, _, j => some vs[j]?
  | .rng a b, _, j => some (if a + j < b then some (.int (a + j)) else none)
  | .str x, _, j => some (match x.cps[j]? with | some c => some (.str ⟨#[c]⟩) | none => none)

noncomputable def ItAt (ρ : Wd) (it : Addr) (h : Heap) : ItK → Nat → Prop
  | .list i, j => ∃ a, ρ.ids[i]? = some a ∧ h.IsListIter it a j
  | .lst vs, j => ∃ a ws n, (a, listO ws n) ∈ ρ.fz ∧ VRs ρ vs ws ∧ h.IsListIter it a j
  | .tup vs, j => ∃ a ws n, (a, tupO ws n) ∈ ρ.fz ∧ VRs ρ vs ws ∧ h.IsTupleIter it a j
  | .rng a b, j => IsRangeIter h it (a + j) ((if a < b then b - a else 0) - j) 1 ∧ (j : Int) ≤ (if a < b then b - a else 0)
  | .str x, j => ∃ t, h.IsStrIter it "str_ascii_iterator" x t j

theorem ItAt.keep {ρ ρ' : Wd} {it : Addr} {h h' : Heap} {k : ItK} {j : Nat} (x : ItAt ρ it h k j) (hp : ρ.le ρ') (hk : ∀ o, h.get? it = some o → h'.get? it = some o) : ItAt ρ' it h' k j := by
  cases k with
  | list i => obtain ⟨a, e, o, ho, r⟩ := x; exact ⟨a, pre_get hp e, o, hk o ho, r⟩
  | lst vs => obtain ⟨a, ws, n, e, q, o, ho, r⟩ := x; exact ⟨a, ws, n, hp.fz _ e, q.mono hp, o, hk o ho, r⟩
  | tup vs => obtain ⟨a, ws, n, e, q, o, ho, r⟩ := x; exact ⟨a, ws, n, hp.fz _ e, q.mono hp, o, hk o ho, r⟩
  | rng a b => exact ⟨hk _ x.1, x.2⟩
  | str s => obtain ⟨t, o, ho, r⟩ := x; exact ⟨t, o, hk o ho, r⟩
theorem ItAt.live {ρ : Wd} {it : Addr} {h : Heap} {k : ItK} {j : Nat} (x : ItAt ρ it h k j) : ∃ o, h.get? it = some o := by
  cases k with
  | list i => obtain ⟨a, e, o, ho, r⟩ := x; exact ⟨o, ho⟩
  | lst vs => obtain ⟨a, ws, n, e, q, o, ho, r⟩ := x; exact ⟨o, ho⟩
  | tup vs => obtain ⟨a, ws, n, e, q, o, ho, r⟩ := x; exact ⟨o, ho⟩
  | rng a b => exact ⟨_, x.1⟩
  | str s => obtain ⟨t, o, ho, r⟩ := x; exact ⟨o, ho⟩

theorem range_small {a b : Int} (h : -1000000000 < a ∧ a < 1000000000 ∧ -1000000000 < b ∧ b < 1000000000) : Builtin.Range.small a b 1 = true := by
  have hf : ∀ x : Int, -4000000000 < x → x < 4000000000 → Builtin.Range.rangeFitsLong x = true := fun x h1 h2 => by
    unfold Builtin.Range.rangeFitsLong
    simp; lia
  have hr : -4000000000 < Builtin.Range.rangeSize a b 1 ∧ Builtin.Range.rangeSize a b 1 < 4000000000 := by
    rw [rangeSize_one]; split <;> lia
  unfold Builtin.Range.small
  rw [hf a (by lia) (by lia), hf b (by lia) (by lia), hf 1 (by lia) (by lia), hf _ hr.1 hr.2]
  simp only [show (1 : Int) > 0 by decide, if_true, Int.sub_self, Int.add_zero]
  rw [hf b (by lia) (by lia)]
  simp

noncomputable def SubIter (C : Cx) : Option Addr → Prop
  | none => True
  | some c => ∀ {s : Shared} {x : Addr} {o : Obj} {vs : Array Value} {n : Nat}, C.K.In s.heap → s.heap.get? x = some o → o.cls = .ref c → o.data = .seq vs n → ∀ {A : Around} {Q : Value → Shared → Prop} {E : Value → Shared → Prop},
    Q (.ref s.heap.objs.size) { s with heap := s.heap.push { cls := .type "list_iterator", data := .fields #[.ref x, .int 0 0] } } → wpAny C.M A (pyIter (.ref x)) Q E s

set_option tactic.hygienic true in
theorem iter_ok (ok : C.Ok) {c0 : Option Addr} (hs : SubIter C c0) {v : MV} {rv : Value} {mh : MH} {k : ItK} (h : itOf c0 v mh = some k) {ρ : Wd} {A : Around} {s : Shared} {Q : Value → Shared → Prop} {E : Value → Shared → Prop}
    (I : Inv C ρ mh s.heap) (hv : VR ρ v rv) (hQ : ∀ o, ItAt ρ s.heap.objs.size (s.heap.push o) k 0 → Q (.ref s.heap.objs.size) { s with heap := s.heap.push o }) : wpAny C.M A (pyIter rv) Q E s := by
  unfold itOf at h
  split at h
  · split at h
    · rename_i i vs hi
      cases h
      obtain ⟨a, ea, rfl⟩ := hv.ref_
      obtain ⟨o, ho, ws, n, rfl, r⟩ := I.at hi ea
      exact wpAny_pyIter_list (isList_of ho) (hQ _ ⟨a, ea, _, Heap.get?_push_size _ rfl, rfl, rfl⟩)
    · rename_i i c dd vs hi
      split at h
      · rename_i hc
        subst hc
        cases h
        obtain ⟨a, ea, rfl⟩ := hv.ref_
        obtain ⟨o, ho, da, ws, n, hda, rfl, r⟩ := I.at hi ea
        exact hs (I.k ok) ho rfl rfl (hQ _ ⟨a, ea, _, Heap.get?_push_size _ rfl, rfl, rfl⟩)
      · cases h
    · cases h
  · cases h
    obtain ⟨a, ws, n, ea, rfl, r⟩ := hv.lst_
    exact wpAny_pyIter_list (isList_of (I.fz _ ea)) (hQ _ ⟨a, ws, n, ea, r, _, Heap.get?_push_size _ rfl, rfl, rfl⟩)
  · cases h
    obtain ⟨a, ws, n, ea, rfl, r⟩ := hv.tup_
    exact wpAny_pyIter_tuple (isTuple_of (I.fz _ ea)) (hQ _ ⟨a, ws, n, ea, r, _, Heap.get?_push_size _ rfl, rfl, rfl⟩)
  · rename_i a b
    split at h
    · rename_i hb
      cases h
      obtain ⟨l, t, u, w, el, rfl⟩ := hv.rng_
      refine wpAny_pyIter_range (I.fz _ el) (range_small hb) (hQ _ ⟨?_, ?_⟩)
      · rw [rangeSize_one]
        show Heap.get? _ _ = _
        rw [Heap.get?_push_size _ rfl]
        simp
      · simp; split <;> lia
    · cases h
  · split at h
    · rename_i x hx
      cases h
      obtain ⟨t, rfl⟩ := hv.str_
      exact wpAny_pyIter_ascii hx (hQ _ ⟨t, _, Heap.get?_push_size _ rfl, rfl, rfl⟩)
    · cases h
  · cases h

theorem nextObj_item {A : Around} {s : Shared} {E : Value → Shared → Prop} {it l : Addr} {i : Nat} {ol : Obj} {items : Array Value} {nl : Nat} {x : Value} {Q : Option Value → Shared → Prop} (hit : s.heap.IsListIter it l i)
    (hol : s.heap.get? l = some ol) (hdl : ol.data = .seq items nl) (hx : items[i]? = some x)
    (hQ : ∀ h', h'.IsListIter it l (i + 1) → Heap.SameBut it s.heap h' → Q (some x) { s with heap := h' }) :
    wpAny C.M A (pyNext (.ref it)) Q E s := by
  obtain ⟨o, ho, hc, hd⟩ := id hit
  unfold pyNext
  refine wpAny_bind (wpAny_attempt (wpAny_callSpecial?_slot (name := Str.ofString "__next__") hit.typeIs slot_listiter_next
    (wpAny_call_entry slot_listiter_next hit.typeIs entry_listiter_next ?_ (args_listiter_next _))))
  show wpAny _ _ (field (.ref it) 0 >>= _) _ _ s
  refine wpAny_bind (wpAny_field ho hd (x := .ref l) rfl ?_)
  show wpAny _ _ (if (Value.ref l == Value.none) = true then _ else _) _ _ s
  rw [if_neg (show ¬ ((Value.ref l == Value.none) = true) from Bool.false_ne_true)]
  show wpAny _ _ (field (.ref it) 1 >>= _) _ _ s
  refine wpAny_bind (wpAny_field ho hd (x := .int i 0) rfl ?_)
  show wpAny _ _ (seqItems? (.ref l) >>= _) _ _ s
  refine wpAny_bind (wpAny_seqItems hol hdl ?_)
  simp only [Int.toNat_natCast, hx]
  refine wpAny_bind (wpAny_setField ho hd (by simp) (wpAny_pure ⟨x, rfl, wpAny_pure (hQ _ ?_ (Heap.SameBut.update ..))⟩))
  exact ⟨_, Heap.get?_update_self _ ho (Obj.isFreed_of_fields (Obj.data_mapFields hd _)), (Obj.cls_mapFields ..).trans hc, by
    rw [Obj.data_mapFields hd]; simp [rawInt]⟩
theorem nextObj_end {A : Around} {s : Shared} {E : Value → Shared → Prop} {it l : Addr} {i : Nat} {ol : Obj} {items : Array Value} {nl : Nat} {Q : Option Value → Shared → Prop} (hh : A.handled = none) (hit : s.heap.IsListIter it l i)
    (hol : s.heap.get? l = some ol) (hdl : ol.data = .seq items nl) (hx : items[i]? = none)
    (hQ : ∀ h', Heap.ExtBut it s.heap h' → Q none { s with heap := h' }) : wpAny C.M A (pyNext (.ref it)) Q E s := by
  obtain ⟨o, ho, hc, hd⟩ := id hit
  unfold pyNext
  refine wpAny_bind (wpAny_attempt (wpAny_callSpecial?_slot (name := Str.ofString "__next__") hit.typeIs slot_listiter_next
    (wpAny_call_entry slot_listiter_next hit.typeIs entry_listiter_next ?_ (args_listiter_next _))))
  show wpAny _ _ (field (.ref it) 0 >>= _) _ _ s
  refine wpAny_bind (wpAny_field ho hd (x := .ref l) rfl ?_)
  show wpAny _ _ (if (Value.ref l == Value.none) = true then _ else _) _ _ s
  rw [if_neg (show ¬ ((Value.ref l == Value.none) = true) from Bool.false_ne_true)]
  show wpAny _ _ (field (.ref it) 1 >>= _) _ _ s
  refine wpAny_bind (wpAny_field ho hd (x := .int i 0) rfl ?_)
  show wpAny _ _ (seqItems? (.ref l) >>= _) _ _ s
  refine wpAny_bind (wpAny_seqItems hol hdl ?_)
  simp only [Int.toNat_natCast, hx]
  refine wpAny_bind (wpAny_rule (wpAny_bind (wpAny_setField ho hd (by simp) ?_)))
  show wpAny _ _ (newExc (.type "StopIteration") [] >>= _) _ _ _
  refine wpAny_bind ?_
  simp only [newExc, newTuple]
  refine wpAny_bind (wpAny_newObj_type ?_ (by size_fits))
  refine wpAny_bind (m := firstArgMember _ _) (wpAny_of_eq (a := Value.none) (by first | rfl | (simp only [firstArgMember]; rfl)) ?_)
  refine wpAny_newObj_type ?_ (by size_fits)
  simp only [raiseNew]
  refine wpAny_bind (wpAny_handled ?_)
  rw [show A.in1.handled = none from hh]
  refine wpAny_bind (wpAny_pure (wpAny_throw ?_))
  refine wpAny_bind (wpAny_isInstance (T := "StopIteration") (b := true) ⟨_, Heap.get?_push_size _ rfl, rfl⟩ isSubtype_stop ?_)
  exact wpAny_pure (hQ _ (((Heap.SameBut.update ..).extBut.push _).push _))

theorem next_seq {ρ : Wd} {vs : List MV} {ws : List Value} {j : Nat} {A : Around} {s : Shared} {it a : Addr} {r : Option MV} {Q : Option Value → Shared → Prop} {E : Value → Shared → Prop} (ao : Aok d A) (rr : VRs ρ vs ws)
    {ol : Obj} {nl : Nat} (hol : s.heap.get? a = some ol) (hdl : ol.data = .seq ws.toArray nl) (hit : s.heap.IsListIter it a j) (hr : vs[j]? = r)
    (hsome : ∀ mv, r = some mv → ∀ v h', VR ρ mv v → h'.IsListIter it a (j + 1) → Heap.ExtBut it s.heap h' → Q (some v) { s with heap := h' })
    (hnone : r = none → ∀ h', Heap.ExtBut it s.heap h' → Q none { s with heap := h' }) : wpAny C.M A (pyNext (.ref it)) Q E s := by
  cases hj : vs[j]? with
  | some m =>
    obtain ⟨x, hx, hv⟩ := rr.get hj
    exact nextObj_item hit hol hdl (by simpa using hx) fun h' hit' hs => hsome m (hr.symm.trans hj) x h' hv hit' hs.extBut
  | none =>
    exact nextObj_end ao.handled hit hol hdl (by simpa using rr.get_none hj) fun h' hs => hnone (hr.symm.trans hj) h' hs

set_option tactic.hygienic true in
theorem next_ok {k : ItK} {mh : MH} {j : Nat} {r : Option MV} (h : nextOf k mh j = some r) {ρ : Wd} {A : Around} {s : Shared} {it : Addr} {Q : Option Value → Shared → Prop} {E : Value → Shared → Prop} (ao : Aok d A)
    (I : Inv C ρ mh s.heap) (hi : ItAt ρ it s.heap k j)
    (hsome : ∀ mv, r = some mv → ∀ v h' tk, VR ρ mv v → ItAt ρ it h' k (j + 1) → Heap.ExtBut it s.heap h' → Q (some v) { s with heap := h', toks := tk })
    (hnone : r = none → ∀ h' tk, Heap.ExtBut it s.heap h' → Q none { s with heap := h', toks := tk }) : wpAny C.M A (pyNext (.ref it)) Q E s := by
  cases k with
  | list i =>
    obtain ⟨a, ea, hit⟩ := hi
    simp only [nextOf] at h
    split at h
    · rename_i vs hvs
      cases h
      obtain ⟨o, ho, ws, n, rfl, rr⟩ := I.at hvs ea
      exact next_seq ao rr ho rfl hit rfl (fun mv e v h' hv hit' hs => hsome mv e v h' s.toks hv ⟨a, ea, hit'⟩ hs) fun e h' hs => hnone e h' s.toks hs
    · rename_i vs hvs
      cases h
      obtain ⟨o, ho, da, ws, n, hda, rfl, rr⟩ := I.at hvs ea
      exact next_seq ao rr ho rfl hit rfl (fun mv e v h' hv hit' hs => hsome mv e v h' s.toks hv ⟨a, ea, hit'⟩ hs) fun e h' hs => hnone e h' s.toks hs
    · cases h
  | lst vs =>
    unfold nextOf at h
    cases h
    obtain ⟨a, ws, n, ea, rr, hit⟩ := hi
    exact next_seq ao rr (I.fz _ ea) rfl hit rfl (fun mv e v h' hv hit' hs => hsome mv e v h' s.toks hv ⟨a, ws, n, ea, rr, hit'⟩ hs) fun e h' hs => hnone e h' s.toks hs
  | tup vs =>
    unfold nextOf at h
    cases h
    obtain ⟨a, ws, n, ea, rr, hit⟩ := hi
    have ho := I.fz _ ea
    cases hj : vs[j]? with
    | some m =>
      obtain ⟨x, hx, hr⟩ := rr.get hj
      exact wpAny_pyNext_tuple_item hit (isTuple_of ho) (by simpa using hx) fun h' hit' hs => hsome m hj x h' s.toks hr ⟨a, ws, n, ea, rr, hit'⟩ hs.extBut
    | none =>
      exact wpAny_pyNext_tuple_end ao.handled hit (isTuple_of ho) (by simpa using rr.get_none hj) fun h' hs => hnone hj h' s.toks hs
  | rng a b =>
    unfold nextOf at h
    cases h
    obtain ⟨hit, hle⟩ := hi
    by_cases hlt : a + (j : Int) < b
    · have hab : a < b := by lia
      simp only [hab, if_true] at hit hle
      refine wpAny_pyNext_range_item hit (by lia) fun h' hit' hs => hsome (.int (a + j)) (by simp [hlt]) _ h' _ .int' ⟨?_, ?_⟩ hs.extBut
      · simp only [hab, if_true]
        have e1 : a + ((j + 1 : Nat) : Int) = a + (j : Int) + 1 := by lia
        have e2 : b - a - ((j + 1 : Nat) : Int) = b - a - (j : Int) - 1 := by lia
        rw [e1, e2]; exact hit'
      · simp only [hab, if_true]; lia
    · refine wpAny_pyNext_range_end ao.handled hit ?_ fun h' hs => hnone (by simp [hlt]) h' s.toks hs
      split
      · rename_i q; simp only [q, if_true] at hle; lia
      · lia
  | str x =>
    unfold nextOf at h
    cases h
    obtain ⟨t, hit⟩ := hi
    cases hj : x.cps[j]? with
    | some c => exact wpAny_pyNext_ascii_item hit hj fun h' hit' hs => hsome (.str ⟨#[c]⟩) (by simp [hj]) _ h' _ .str' ⟨t, hit'⟩ hs.extBut
    | none => exact wpAny_pyNext_ascii_end ao.handled hit hj fun h' hs => hnone (by simp [hj]) h' s.toks hs

section
variable {prog : Program} {w : World} {A : Around} {R : Result → Shared → Prop} {s : Shared}
theorem forLoopT {target it body orelse env} (I : Nat → Shared → Prop)
    (turn : ∀ n s, I n s → wpAny (model prog w) A (pyNext it) (fun r s₁ => match r with
      | none => wpAny (model prog w) A (execs orelse env) (fun f s₃ => R (.ok f) s₃) (notedBy (model prog w) A env fun e s' => R (.error e) s') s₁
      | some v => wpAny (model prog w) A (letOwnedTupleGo target it v) (fun _ s₁' => wpAny (model prog w) A (assign target env v) (fun _ s₂ => wpAny (model prog w) A (execs body env) (fun f s₃ => match f with
          | .next | .cont => ∃ m, m < n ∧ I m s₃
          | .brk => R (.ok .next) s₃
          | .ret v => R (.ok (.ret v)) s₃) (notedBy (model prog w) A env fun e s' => R (.error e) s') s₂) (notedBy (model prog w) A env fun e s' => R (.error e) s') s₁') (notedBy (model prog w) A env fun e s' => R (.error e) s') s₁)
        (notedBy (model prog w) A env fun e s' => R (.error e) s') s)
    (n : Nat) (h : I n s) : codeAny (model prog w) A (.forLoop target it body orelse env) R s := by
  refine codeAny_loop' rfl I (fun n s hI => ?_) n h
  show wpAny _ _ ((forTurn target it body orelse env).onRaise (fun x => do noteFrame x env; theTreesLotGoes x)) _ _ s
  refine wpAny_noted ?_
  simp only [forTurn]
  refine wpAny_bind (wpAny_standAt (wpAny_bind (wpAny_onRaise (wpAny_mono (turn n s hI) (fun r s₁ h₁ => ?_) fun _ _ h' => wpAny_standAt h'))))
  cases r with
  | none => exact wpAny_pure (.inr ⟨rfl, codeAny_block h₁⟩)
  | some v =>
    refine wpAny_bind (wpAny_mono h₁ (fun _ s₁' h₁' => ?_) fun _ _ h' => h')
    refine wpAny_bind (wpAny_mono h₁' (fun _ s₂ h₂ => wpAny_bind (wpAny_mono h₂ (fun f s₃ h₃ => ?_) fun _ _ h' => h')) fun _ _ h' => h')
    cases f with
    | next => exact wpAny_pure (.inl ⟨rfl, h₃⟩)
    | cont => exact wpAny_pure (.inl ⟨rfl, h₃⟩)
    | brk => exact wpAny_pure h₃
    | ret v => exact wpAny_pure h₃
end

noncomputable def GoOk (C : Cx) (target : PySem.Expr) : Prop := ∀ {ρ : Wd} {it : Addr} {k : ItK} {j : Nat} {v : Value} {A : Around} {s : Shared} {Q : Unit → Shared → Prop} {E : Value → Shared → Prop},
  ItAt ρ it s.heap k j → Q () s → wpAny C.M A (letOwnedTupleGo target (.ref it) v) Q E s
theorem goOk_name {n : Str} {p : Pos} : GoOk C (.Name n p) := fun _ h => wpAny_pure h
theorem goOk_tuple {es : List PySem.Expr} {k : Nat} {p : Pos} : GoOk C (.Tuple es k p) := by
  intro ρ it kk j v A s Q E hi h
  cases v with
  | ref T =>
    cases kk with
    | list i => obtain ⟨a, _, hit⟩ := hi; exact wpAny_letOwnedTupleGo_listiter hit h
    | lst vs => obtain ⟨a, _, _, _, _, hit⟩ := hi; exact wpAny_letOwnedTupleGo_listiter hit h
    | tup vs =>
      obtain ⟨a, _, _, _, _, o, ho, hc, hd⟩ := hi
      unfold letOwnedTupleGo
      refine wpAny_bind (wpAny_load ho ?_)
      rw [hc, hd]
      exact wpAny_pure h
    | rng a b =>
      unfold letOwnedTupleGo
      refine wpAny_bind (wpAny_load hi.1 ?_)
      exact wpAny_pure h
    | str x =>
      obtain ⟨t, o, ho, hc, hd⟩ := hi
      unfold letOwnedTupleGo
      refine wpAny_bind (wpAny_load ho ?_)
      rw [hc, hd]
      exact wpAny_pure h
  | _ => exact wpAny_pure h

noncomputable def dForLoop (tg : Tg) (f : DS) (k : ItK) : Nat → Nat → DS
  | 0, _ => fun _ _ => none
  | n + 1, j => fun me mh => match nextOf k mh j with
    | none => none
    | some none => some (.next, me, mh)
    | some (some v) => (match tg me mh v with
      | none => none
      | some me1 => (match f me1 mh with
        | some (.next, me2, mh2) => dForLoop tg f k n (j + 1) me2 mh2
        | some (.cont, me2, mh2) => dForLoop tg f k n (j + 1) me2 mh2
        | some (.brk, me2, mh2) => some (.next, me2, mh2)
        | r => r))
noncomputable def dFor (c0 : Option Addr) (N : Nat) (it : D) (tg : Tg) (f : DS) : DS := fun me mh => match it me mh with
  | some (v, mh1) => (match itOf c0 v mh1 with
    | some k => dForLoop tg f k N 0 me mh1
    | none => none)
  | none => none

set_option tactic.hygienic true in
theorem RS_for (ok : C.Ok) {c0 : Option Addr} (h0 : SubIter C c0) {target iter : PySem.Expr} {body : List Stmt} {pos : Pos} {it : D} {tg : Tg} {f : DS} (N : Nat) (hi : RE C d env iter it) (ht : RTg C d env (fa env) target tg) (hg : GoOk C target) (hb : RS C d env (execs body env) f)
    (hs : ∀ x, foldedSetIterable iter env x = pure x) : RS C d env (exec (.For target iter body [] pos) env) (dFor c0 N it tg f) := by
  intro me mh fl me' mh' hf ρ A s Q E ao I so F hQ
  unfold dFor at hf
  split at hf
  · rename_i v mh1 hf1
    split at hf
    · rename_i k hk
      refine wpAny_For (hi hf1 ao I so F fun rv ρ1 s1 x1 I1 so1 v1 => iter_ok ok h0 hk I1 v1 fun o hit => ?_) hs
      have F1 := F.ext0 x1
      have c00 : s1.heap.get? s1.heap.objs.size = none := get_size _
      have cb : C.base.get? s1.heap.objs.size = none := (I1.fresh c00).2
      have cr : ¬ ρ1.has s1.heap.objs.size := (I1.fresh c00).1
      have cf : s1.heap.objs.size ∉ fa env := fun hm => by obtain ⟨o, e⟩ := F1.liveFa hm; rw [e] at c00; cases c00
      have kp : ∀ b o', s1.heap.get? b = some o' → (s1.heap.push o).get? b = some o' := fun b o' e => Heap.get?_push_of_some _ e
      generalize s1.heap.objs.size = c at *
      refine forLoopT (I := fun n s2 => ∃ j me2 mh2 ρ2, dForLoop tg f k n j me2 mh2 = some (fl, me', mh') ∧ ItAt ρ2 c s2.heap k j ∧ Ext C ρ1 (fa env) s1.heap ρ2 s2.heap ∧ ¬ ρ2.has c ∧ Inv C ρ2 mh2 s2.heap ∧ SOk C s2 ∧ FR C ρ2 env me2 s2.heap) ?_ N
        ⟨0, me, mh1, ρ1, hf, hit, (Ext.all kp).wide, cr, I1.junk kp, so1.heap _ _, F1.keep (.refl _) (fun a _ o' e => kp a o' e) fun a ha => (F1.out a ha).1⟩
      rintro n s2 ⟨j, me2, mh2, ρ2, hw, hit2, x2, hc2, I2, so2, F2⟩
      cases n with
      | zero => simp [dForLoop] at hw
      | succ n =>
        unfold dForLoop at hw
        cases hn : nextOf k mh2 j with
        | none => rw [hn] at hw; simp at hw
        | some r =>
          rw [hn] at hw
          refine next_ok (d := d) hn ao I2 hit2 (fun mv hr v h3 tk hv hit3 e3 => ?_) fun hr h3 tk e3 => ?_
          · subst hr
            simp only at hw
            have I3 : Inv C ρ2 mh2 h3 := I2.ext hc2 cb e3
            have F3 : FR C ρ2 env me2 h3 := F2.keep (.refl _) (fun a ha o' e => e3 a o' (fun z => cf (z ▸ ha)) e) fun a ha => (F2.out a ha).1
            have x3 : Ext C ρ1 (fa env) s1.heap ρ2 h3 := x2.step c00 e3
            refine hg (s := { s2 with heap := h3, toks := tk }) hit3 ?_
            cases htg : tg me2 mh2 mv with
            | none => rw [htg] at hw; simp at hw
            | some me3 =>
              rw [htg] at hw
              simp only at hw
              refine ht htg (s := { s2 with heap := h3, toks := tk }) ao I3 (so2.heap _ _) F3 hv fun s4 x4 I4 so4 F4 => ?_
              cases hff : f me3 mh2 with
              | none => rw [hff] at hw; simp at hw
              | some r =>
                obtain ⟨fl1, me5, mh5⟩ := r
                rw [hff] at hw
                refine hb hff ao I4 so4 F4 fun fl' ρ5 s5 x5 I5 so5 F5 r5 => ?_
                have x45 : Ext C ρ2 (fa env) h3 ρ5 s5.heap := x4.trans x5
                have hit5 : ItAt ρ5 c s5.heap k (j + 1) := hit3.keep x45.pre fun o' e => x45.keep c o' e (not_has_ids hc2) (I2.not_x cb) cf
                have hc5 : ¬ ρ5.has c := fun hm => by
                  rcases x45.fresh c hm with q | q
                  · exact hc2 q
                  · obtain ⟨o', e⟩ := hit3.live; rw [e] at q; cases q
                cases fl1 with
                | next => cases r5; exact ⟨n, Nat.lt_succ_self n, j + 1, me5, mh5, ρ5, hw, hit5, x3.trans x45, hc5, I5, so5, F5⟩
                | cont => cases r5; exact ⟨n, Nat.lt_succ_self n, j + 1, me5, mh5, ρ5, hw, hit5, x3.trans x45, hc5, I5, so5, F5⟩
                | brk => cases r5; cases hw; exact hQ _ _ _ (x1.wide.trans (x3.trans x45)) I5 so5 F5 rfl
                | ret v => obtain ⟨w, rfl, r⟩ := r5; cases hw; exact hQ _ _ _ (x1.wide.trans (x3.trans x45)) I5 so5 F5 ⟨_, rfl, r⟩
          · subst hr
            simp only at hw
            cases hw
            refine wpAny_execs_nil (hQ _ _ _ (x1.wide.trans (x2.step c00 e3)) (I2.ext hc2 cb e3) (so2.heap _ _) (F2.keep (.refl _) (fun a ha o' e => e3 a o' (fun z => cf (z ▸ ha)) e) fun a ha => (F2.out a ha).1) rfl)
    · cases hf
  · cases hf

end Mine

namespace Mine
variable {C : Cx} {d : Nat} {env : Env}

noncomputable abbrev DF := List MV → MH → Option (MV × MH)
noncomputable def RF (C : Cx) (d : Nat) (f : Addr) (den : DF) : Prop :=
  ∀ {mvs mh mv mh'}, den mvs mh = some (mv, mh') → ∀ {ρ A s vs R}, Aok d A → Inv C ρ mh s.heap → SOk C s → VRs ρ mvs vs →
    (∀ v ρ' s', Ext C ρ [] s.heap ρ' s'.heap → Inv C ρ' mh' s'.heap → SOk C s' → VR ρ' mv v → R (.ok (.ret v)) s') → codeAny C.M A (.call (.ref f) ⟨vs, []⟩) R s

noncomputable def zipE : List Nat → List MV → ME
  | x :: xs, v :: vs => (x, v) :: zipE xs vs
  | _, _ => []
noncomputable def dFn (xs : List Nat) (F : DS) : DF := fun mvs mh => if mvs.length = xs.length then (match F (zipE xs mvs) mh with
    | some (.ret v, _, mh') => some (v, mh')
    | some (.next, _, mh') => some (.none, mh')
    | _ => none) else none

theorem cellsFrom_names : ∀ (names : List (Str × NameKind)) (n m : Nat) (acc acc' : List (Str × Addr)), acc.map (·.1) = acc'.map (·.1) → (cellsFrom n names acc).map (·.1) = (cellsFrom m names acc').map (·.1)
  | [], _, _, _, _, h => h
  | (x, k) :: r, n, m, acc, acc', h => by
    unfold cellsFrom
    split
    · exact cellsFrom_names r _ _ _ _ (by simp [h])
    · exact cellsFrom_names r _ _ _ _ h
theorem lookup_of_mem_nodup {α : Type} : ∀ {l : List (Str × α)} {n : Str} {c : α}, (l.map (·.1)).Nodup → (n, c) ∈ l → l.lookup n = some c
  | (k, v) :: r, n, c, hn, hm => by
    rw [List.map_cons, List.nodup_cons] at hn
    rw [List.lookup_cons]
    rcases List.mem_cons.mp hm with e | hm
    · cases e; simp
    · have : n ≠ k := fun z => hn.1 (z ▸ List.mem_map.mpr ⟨(n, c), hm, rfl⟩)
      rw [show (n == k) = false by simpa using this]
      exact lookup_of_mem_nodup hn.2 hm
theorem cellsFrom_has : ∀ (names : List (Str × NameKind)) (n : Nat) (acc : List (Str × Addr)) (x : Str), (names.lookup x = some .cell ∨ (acc.lookup x).isSome = true) → ((cellsFrom n names acc).lookup x).isSome = true
  | names, n, acc, x, h => PySem.W.cellsFrom_some names n acc h

theorem bindL_out (kindOf : Str → Option NameKind) {n : Str} : ∀ (binds : List (Str × Value)) (m : Str → Option Value), n ∉ binds.map (·.1) → bindL kindOf binds m n = m n
  | [], _, _ => rfl
  | (x, v) :: r, m, h => by
    simp only [List.map_cons, List.mem_cons, not_or] at h
    unfold bindL
    rw [bindL_out kindOf r _ h.2]
    split
    · simp [h.1]
    · rfl
theorem bindC_out (kindOf : Str → Option NameKind) {n : Str} : ∀ (binds : List (Str × Value)) (m : Str → Option Value), n ∉ binds.map (·.1) → bindC kindOf binds m n = m n
  | [], _, _ => rfl
  | (x, v) :: r, m, h => by
    simp only [List.map_cons, List.mem_cons, not_or] at h
    unfold bindC
    rw [bindC_out kindOf r _ h.2]
    split
    · rfl
    · simp [h.1]
theorem bindL_in (kindOf : Str → Option NameKind) {n : Str} {v : Value} : ∀ (binds : List (Str × Value)) (m : Str → Option Value), (binds.map (·.1)).Nodup → (n, v) ∈ binds → kindOf n = some .local → bindL kindOf binds m n = some v
  | (x, w) :: r, m, hn, hm, hk => by
    rw [List.map_cons, List.nodup_cons] at hn
    unfold bindL
    rcases List.mem_cons.mp hm with e | hm
    · cases e
      rw [bindL_out kindOf r _ hn.1, if_pos hk]; simp
    · exact bindL_in kindOf r _ hn.2 hm hk
theorem bindC_in (kindOf : Str → Option NameKind) {n : Str} {v : Value} : ∀ (binds : List (Str × Value)) (m : Str → Option Value), (binds.map (·.1)).Nodup → (n, v) ∈ binds → kindOf n = some .cell → bindC kindOf binds m n = some v
  | (x, w) :: r, m, hn, hm, hk => by
    rw [List.map_cons, List.nodup_cons] at hn
    unfold bindC
    rcases List.mem_cons.mp hm with e | hm
    · cases e
      rw [bindC_out kindOf r _ hn.1, if_neg (by rw [hk]; decide)]; simp
    · exact bindC_in kindOf r _ hn.2 hm hk

inductive PNames (C : Cx) : List Nat → List Str → Prop where
  | nil : PNames C [] []
  | cons {x n xs ns} : C.tbl[x]? = some n → PNames C xs ns → PNames C (x :: xs) (n :: ns)
theorem PNames.len {xs : List Nat} {ns : List Str} (h : PNames C xs ns) : xs.length = ns.length := by
  induction h with
  | nil => rfl
  | cons _ _ ih => simp [ih]
theorem PNames.zip {xs : List Nat} {ns : List Str} (h : PNames C xs ns) : ∀ {mvs : List MV} {vs : List Value} {ρ : Wd}, VRs ρ mvs vs → ∀ {x mv n}, (zipE xs mvs).lookup x = some mv → C.tbl[x]? = some n → ∃ v, VR ρ mv v ∧ (n, v) ∈ ns.zip vs := by
  induction h with
  | nil => intro mvs vs ρ _ x mv n hl; simp [zipE] at hl
  | @cons x0 n0 xs ns hx _ ih =>
    intro mvs vs ρ hv x mv n hl ht
    cases hv with
    | nil => simp [zipE] at hl
    | cons h1 h2 =>
      unfold zipE at hl
      rw [List.lookup_cons] at hl
      by_cases e : x = x0
      · subst e
        simp at hl; subst hl
        rw [hx] at ht; cases ht
        exact ⟨_, h1, by simp⟩
      · rw [show (x == x0) = false by simpa using e] at hl
        obtain ⟨v, a, b⟩ := ih h2 hl ht
        exact ⟨v, a, by simp [b]⟩

set_option tactic.hygienic true in
theorem RF_def (ok : C.Ok) {f : Addr} {oc : Value} {od : Option Addr} {osl : Array (Option Value)} {name qual : Str} {params : Arguments} {body : List Stmt} {scope : Scope} {dV kV doc pm cdv ct : Value} {an : Option Addr}
    {xs : List Nat} {ns : List Str} {F : DS}
    (hK : C.K.lookup f = some ⟨oc, od, .func (fnOf name qual params body scope dV kV doc pm an cdv ct), osl⟩) (hcd : codeIn C.K cdv qual = true)
    (hp : PNames C xs ns) (hnn : ns.Nodup)
    (hbind : ∀ vs : List Value, vs.length = ns.length → bindArgs (fnOf name qual params body scope dV kV doc pm an cdv ct) ⟨vs, []⟩ = pure (ns.zip vs))
    (hkind : ∀ n ∈ ns, scope.names.lookup n = some .local ∨ scope.names.lookup n = some .cell)
    (hnd : ((cellsFrom 0 scope.names []).map (·.1)).Nodup) (hfr : ∀ n, scope.names.lookup n ≠ some .free) (hk : scope.kind = .function) (hco : scope.isCoroutine = false) (hgen : scope.isGenerator = false)
    (hb : ∀ L, RS C d (callEnvC (fnOf name qual params body scope dV kV doc pm an cdv ct) L f) (execs body (callEnvC (fnOf name qual params body scope dV kV doc pm an cdv ct) L f)) F) :
    RF C (d + 1) f (dFn xs F) := by
  intro mvs mh mv mh' hf ρ A s vs R ao I so hv hR
  unfold dFn at hf
  split at hf
  · rename_i hlen
    have hvl : vs.length = ns.length := by rw [hv.length, hlen, hp.len]
    have ho := (I.k ok) _ _ hK
    refine codeAny_call_cells ao.room ho rfl (I.nolimit ok) (codeRec_of (I.k ok) hcd) rfl (hbind vs hvl) rfl (fun x hx => ?_) (fun s₁ x => ?_) hco hgen hk
    · have hx1 : x.1 ∈ ns := by
        have := List.mem_map_of_mem (f := Prod.fst) hx
        rw [List.map_fst_zip (by lia)] at this
        exact this
      rcases hkind x.1 hx1 with q | q
      · exact .inl q
      · exact .inr ⟨q, cellsFrom_has _ _ _ _ (.inl q)⟩
    · have hnd' : ((cellsFrom (s.heap.objs.size + 1) scope.names []).map (·.1)).Nodup := by
        rw [cellsFrom_names scope.names _ 0 [] [] rfl]; exact hnd
      have hkeep := x.toInCall.keep
      have I1 : Inv C ρ mh s₁.heap := I.junk hkeep
      have so1 : SOk C s₁ := by obtain ⟨h', tk, rfl⟩ := x.toInCall.same; exact so.heap _ _
      have hfresh : ∀ a ∈ fa (callEnvC (fnOf name qual params body scope dV kV doc pm an cdv ct) s.heap.objs.size f), s.heap.get? a = none := by
        intro a ha
        have hge : s.heap.objs.size ≤ a := by
          unfold fa at ha
          rcases List.mem_cons.mp ha with rfl | ha
          · exact Nat.le_refl _
          · obtain ⟨⟨n, c⟩, hm, rfl⟩ := List.mem_map.mp ha
            exact Nat.le_of_lt (x.above n c hm)
        cases e : s.heap.get? a with
        | none => rfl
        | some o => exact absurd (Heap.lt_size e) (Nat.not_lt.mpr hge)
      have hzip : (ns.zip vs).map (·.1) = ns := List.map_fst_zip (by lia)
      have F1 : FR C ρ (callEnvC (fnOf name qual params body scope dV kV doc pm an cdv ct) s.heap.objs.size f) (zipE xs mvs) s₁.heap := by
        refine ⟨hk, rfl, rfl, ⟨_, x.toInCall.ns⟩, fun n c hm => ⟨_, x.cell n c (lookup_of_mem_nodup hnd' hm)⟩, fun a ha => I.fresh (hfresh a ha), fun a ha => I.not_x (I.fresh (hfresh a ha)).2, x.apart, fun n c hm => Nat.ne_of_gt (x.above n c hm), fun n hn => ?_, fun n hn => absurd hn (hfr n), fun y my n hy ht => ?_⟩
        · exact Option.isSome_iff_exists.mp (cellsFrom_has _ _ _ _ (.inl hn))
        · obtain ⟨v, h1, h2⟩ := hp.zip hv hy ht
          refine ⟨v, h1, ?_⟩
          have hn1 : n ∈ ns := by have := List.mem_map_of_mem (f := Prod.fst) h2; rw [hzip] at this; exact this
          unfold VarAt
          rcases hkind n hn1 with q | q
          · have q' : (callEnvC (fnOf name qual params body scope dV kV doc pm an cdv ct) s.heap.objs.size f).kindOf n = some .local := q
            rw [q']
            exact ⟨_, x.toInCall.ns, bindL_in _ _ _ (by rw [hzip]; exact hnn) h2 q'⟩
          · have q' : (callEnvC (fnOf name qual params body scope dV kV doc pm an cdv ct) s.heap.objs.size f).kindOf n = some .cell := q
            rw [q']
            obtain ⟨c, hc⟩ := Option.isSome_iff_exists.mp (cellsFrom_has scope.names (s.heap.objs.size + 1) [] n (.inl q))
            refine ⟨c, hc, ?_⟩
            have := x.cell n c hc
            rw [bindC_in _ _ _ (by rw [hzip]; exact hnn) h2 q'] at this
            exact this
      have x0 : Ext C ρ [] s.heap ρ s₁.heap := Ext.all hkeep
      cases hF : F (zipE xs mvs) mh with
      | none => rw [hF] at hf; simp at hf
      | some r =>
        obtain ⟨fl, me', mh1⟩ := r
        rw [hF] at hf
        refine hb s.heap.objs.size hF ao.deeper I1 so1 F1 fun fl' ρ' s' x' I' so' F' r' => ?_
        have xx : Ext C ρ [] s.heap ρ' s'.heap := (x0.wide.trans x').more fun a ha => .inr (hfresh a ha)
        cases fl with
        | ret v => obtain ⟨w, rfl, hw⟩ := r'; cases hf; exact hR _ _ _ xx I' so' hw
        | next => cases r'; cases hf; exact hR _ _ _ xx I' so' .none'
        | brk => simp at hf
        | cont => simp at hf
  · cases hf

theorem StrmOk.mono {g : FuncData → Prop} {fz fz' : List (Addr × Obj)} (hz : ∀ p ∈ fz, p ∈ fz') {x : Str} {t a : Addr} (h : StrmOk g fz x t a) : StrmOk g fz' x t a := by
  obtain ⟨o1, od, oD, c, oc, fd, ct, tt, cat, a1, a2, a3, a4, a5, a6, a7, a8, a9, a10, a11, a12, a13, a14⟩ := h
  exact ⟨o1, od, oD, c, oc, fd, ct, tt, cat, hz _ a1, a2, a3, a4, hz _ a5, a6, hz _ a7, a8, a9, ⟨a10.1, a10.2.mono hz⟩, a11, a12, let ⟨o, m, r⟩ := a13; ⟨o, hz _ m, r⟩, let ⟨o, m, r⟩ := a14; ⟨o, hz _ m, r⟩⟩

theorem len1 {α : Type} {l : List α} (h : l.length = 1) : ∃ a, l = [a] := List.length_eq_one_iff.mp h
theorem len2 {α : Type} {l : List α} (h : l.length = 2) : ∃ a b, l = [a, b] := by
  match l, h with
  | [a, b], _ => exact ⟨a, b, rfl⟩
theorem len3 {α : Type} {l : List α} (h : l.length = 3) : ∃ a b c, l = [a, b, c] := by
  match l, h with
  | [a, b, c], _ => exact ⟨a, b, c, rfl⟩

noncomputable def dCall (den : DF) (g : DL) : D := fun me mh => match g me mh with
  | some (vs, mh1) => den vs mh1
  | none => none
theorem eval_glob (ok : C.Ok) {n : Str} {pos : Pos} {v : Value} {me : ME} {mh : MH} {ρ : Wd} {A : Around} {s : Shared} {Q : Value → Shared → Prop} {E : Value → Shared → Prop} (hn : C.mg n = some v)
    (hx : env.kindOf n = some .globalImplicit) (hd : (n == ("__debug__" : Str)) = false) (I : Inv C ρ mh s.heap) (F : FR C ρ env me s.heap) (h : Q v s) : wpAny C.M A (eval (.Name n pos) env) Q E s :=
  Calls.Name_function_global F.kind hx (Calls.loadGlobal_global (by rw [F.glob]; exact I.g ok) hn h) hd
theorem eval_bui (ok : C.Ok) {n : Str} {pos : Pos} {v : Value} {me : ME} {mh : MH} {ρ : Wd} {A : Around} {s : Shared} {Q : Value → Shared → Prop} {E : Value → Shared → Prop} (hn : C.mg n = none) (hb : C.mb n = some v)
    (hx : env.kindOf n = some .globalImplicit) (hd : (n == ("__debug__" : Str)) = false) (I : Inv C ρ mh s.heap) (F : FR C ρ env me s.heap) (h : Q v s) : wpAny C.M A (eval (.Name n pos) env) Q E s :=
  Calls.Name_function_global F.kind hx (Calls.loadGlobal_builtin (by rw [F.glob]; exact I.g ok) hn (by rw [F.bui]; exact I.b ok) hb h) hd

noncomputable def IsDef (C : Cx) (f : Addr) : Prop := ∃ o fd, C.K.lookup f = some o ∧ o.data = .func fd

set_option tactic.hygienic true in
theorem RE_call (ok : C.Ok) {g : Str} {p pos : Pos} {e : PySem.Expr} {rest : List PySem.Expr} {f : Addr} {den : DF} {a : DL} (hg : C.mg g = some (.ref f)) (hx : env.kindOf g = some .globalImplicit) (hd : (g == ("__debug__" : Str)) = false)
    (hf : IsDef C f) (hr : RF C d f den) (ha : RArgs C d env (e :: rest) a) (he : starEach (e :: rest) env = (false, eval e env) :: starEach rest env := by rfl) :
    RE C d env (.Call (.Name g p) (e :: rest) [] pos) (dCall den a) := by
  intro me mh mv mh' h ρ A s Q E ao I so F hQ
  unfold dCall at h
  split at h
  · rename_i vs mh1 h1
    refine wpAny_Call_NameR (eval_glob ok hg hx hd I F ?_)
    obtain ⟨o, fd, hk, hdat⟩ := hf
    refine PyProof.Rows.callWith_def (o := o) hdat (ha pos h1 ao I so F fun ws ρ1 s1 x1 I1 so1 v1 => ⟨(I1.k ok) _ _ hk, ?_⟩) he
    exact wpAny_call (hr h ao I1 so1 v1 fun v ρ2 s2 x2 I2 so2 v2 => hQ v ρ2 s2 (x1.trans x2) I2 so2 v2)
  · cases h
end Mine

namespace Mine
variable {C : Cx} {d : Nat} {env : Env}

section
variable {prog : Program} {w : World} {A : Around} {R : Result → Shared → Prop} {s : Shared}
noncomputable abbrev testsOf (ifs : List PySem.Expr) (env : Env) : Sem Bool := forIn ifs true fun c r => if r = true then do let ok ← isTrue c env (eval c env); pure (ForInStep.yield ok) else pure (ForInStep.yield r)

theorem compLoopT {elt : PySem.Expr} {gens : List Comprehension} {scope : Scope} {pos p : Pos} {dp : Nat} {target : PySem.Expr} {ifs : List PySem.Expr} {it acc : Value} {env : Env} {act : Sem Unit}
    (heq : compTurn (.ListComp elt gens scope pos) dp it acc env = (do
      standAt p
      match ← pyNext it with
      | none => pure (.done .next)
      | some v =>
        letOwnedTupleGo target it v
        assign target env v
        let mut ok := true
        for c in ifs do
          if ok then ok ← isTrue c env (eval c env)
        if ok then act
        again (.compLoop (.ListComp elt gens scope pos) dp it acc env))) (I : Nat → Shared → Prop)
    (turn : ∀ n s, I n s → wpAny (model prog w) A (pyNext it) (fun r s₁ => match r with
      | none => R (.ok .next) s₁
      | some v => wpAny (model prog w) A (letOwnedTupleGo target it v) (fun _ s₁' => wpAny (model prog w) A (assign target env v) (fun _ s₂ =>
          wpAny (model prog w) A (testsOf ifs env) (fun ok s₃ =>
            if ok = true then wpAny (model prog w) A act (fun _ s₅ => ∃ m, m < n ∧ I m s₅) (notedBy (model prog w) A env fun e s' => R (.error e) s') s₃
            else ∃ m, m < n ∧ I m s₃) (notedBy (model prog w) A env fun e s' => R (.error e) s') s₂) (notedBy (model prog w) A env fun e s' => R (.error e) s') s₁') (notedBy (model prog w) A env fun e s' => R (.error e) s') s₁)
        (notedBy (model prog w) A env fun e s' => R (.error e) s') s)
    (n : Nat) (h : I n s) : codeAny (model prog w) A (.compLoop (.ListComp elt gens scope pos) dp it acc env) R s := by
  refine codeAny_loop rfl I (fun n s hI => ?_) n h
  show wpAny _ A ((compTurn (.ListComp elt gens scope pos) dp it acc env).onRaise (fun x => do noteFrame x env; theTreesLotGoes x)) _ _ s
  refine wpAny_noted ?_
  rw [heq]
  refine wpAny_bind (wpAny_standAt (wpAny_bind (wpAny_mono (turn n s hI) (fun r s₁ h₁ => ?_) fun _ _ h' => h')))
  cases r with
  | none => exact wpAny_pure h₁
  | some v =>
    refine wpAny_bind (wpAny_mono h₁ (fun _ s₁' h₁' => ?_) fun _ _ h' => h')
    refine wpAny_bind (wpAny_mono h₁' (fun _ s₂ h₂ => wpAny_bind (wpAny_mono h₂ (fun ok s₃ h₃ => ?_) fun _ _ h' => h')) fun _ _ h' => h')
    cases ok with
    | false => exact wpAny_pure ⟨rfl, h₃⟩
    | true => exact wpAny_bind (wpAny_mono h₃ (fun x s₄ h₄ => wpAny_pure ⟨rfl, h₄⟩) fun _ _ h' => h')

theorem compStartT {elt : PySem.Expr} {gens : List Comprehension} {scope : Scope} {pos : Pos} {dp : Nat} {g : Comprehension} {it acc : Value} {env : Env} (hg : gens[dp]? = some g) (ha : g.is_async = 0)
    (h0 : codeAny (model prog w) A (.compLoop (.ListComp elt gens scope pos) dp it acc env) R s)
    (h : wpAny (model prog w) A (pyIter it) (fun it' s' => codeAny (model prog w) A (.compLoop (.ListComp elt gens scope pos) dp it' acc env) R s')
      (notedBy (model prog w) A env fun x s' => R (.error x) s') s) :
    codeAny (model prog w) A (.compStart (.ListComp elt gens scope pos) dp it acc env) R s := by
  refine codeAny_of_tree ?_
  show wpAny _ _ ((compStart (.ListComp elt gens scope pos) dp it acc env).onRaise (fun x => do noteFrame x env; standAt theWindowsPlace)) _ _ s
  refine wpAny_notedAt ?_
  unfold compStart
  have e1 : (clausesOf (.ListComp elt gens scope pos))[dp]? = some g := hg
  simp only [e1, Option.elim, ha, bne_self_eq_false, Bool.false_eq_true, if_false]
  refine wpAny_bind (wpAny_askSetting (wpAny_ite ?_))
  split
  · first
      | exact wpAny_bind (wpAny_pure (wpAny_pure (And.intro rfl h0)))
      | exact wpAny_pure (And.intro rfl h0)
  · first
      | exact wpAny_bind (wpAny_rule (wpAny_bind (wpAny_standAt (wpAny_bind (wpAny_mono h (fun it' s' h' => wpAny_pure (And.intro rfl h')) fun _ _ x => x)))))
      | exact wpAny_bind (wpAny_rule (wpAny_bind (wpAny_bind (wpAny_standAt (wpAny_pure (wpAny_bind (wpAny_mono h (fun it' s' h' => wpAny_pure (And.intro rfl h')) fun _ _ x => x)))))))
end

theorem ItAt.self {ρ : Wd} {it : Addr} {k : ItK} {j : Nat} {A : Around} {s : Shared} {Q : Value → Shared → Prop} {E : Value → Shared → Prop} (x : ItAt ρ it s.heap k j) (h : Q (.ref it) s) : wpAny C.M A (pyIter (.ref it)) Q E s := by
  cases k with
  | list i => obtain ⟨a, e, hit⟩ := x; exact wpAny_pyIter_listiter hit h
  | lst vs => obtain ⟨a, _, _, _, _, hit⟩ := x; exact wpAny_pyIter_listiter hit h
  | tup vs => obtain ⟨a, _, _, _, _, hit⟩ := x; exact wpAny_pyIter_tupleiter hit h
  | rng a b => exact wpAny_pyIter_rangeiter x.1 h
  | str y => obtain ⟨t, hit⟩ := x; exact wpAny_pyIter_striter_ascii hit h

noncomputable def RTests (C : Cx) (d : Nat) (env : Env) (ifs : List PySem.Expr) (c : DB) : Prop := RB C d env (testsOf ifs env) c
theorem RTests_nil : RTests C d env [] dBt := by
  intro me mh b mh' hf ρ A s Q E ao I so F hQ
  cases hf
  exact wpAny_tests_nil (hQ _ _ (Ext.refl _ _ _) I so)
theorem RTests_one {c : PySem.Expr} {f : DB} (h : RB C d env (isTrue c env (eval c env)) f) : RTests C d env [c] f := by
  intro me mh b mh' hf ρ A s Q E ao I so F hQ
  exact wpAny_tests_one (h hf ao I so F hQ)

structure AccAt (C : Cx) (ρ : Wd) (env : Env) (acc : Addr) (l : List MV) (h : Heap) : Prop where
  out : ¬ ρ.has acc
  base : C.base.get? acc = none
  fr : acc ∉ fa env
  lst : ∃ ws n, h.get? acc = some (listO ws n) ∧ VRs ρ l ws

theorem AccAt.keep {ρ ρ' : Wd} {acc : Addr} {l : List MV} {h h' : Heap} (x : AccAt C ρ env acc l h) (hp : ρ.le ρ') (hn : ¬ ρ'.has acc) (hk : ∀ o, h.get? acc = some o → h'.get? acc = some o) : AccAt C ρ' env acc l h' :=
  ⟨hn, x.base, x.fr, let ⟨ws, n, ho, r⟩ := x.lst; ⟨ws, n, hk _ ho, r.mono hp⟩⟩
theorem AccAt.ext {ρ ρ' : Wd} {F : List Addr} {acc : Addr} {l : List MV} {mh : MH} {h h' : Heap} (x : AccAt C ρ env acc l h) (I : Inv C ρ mh h) (e : Ext C ρ F h ρ' h') (hF : acc ∉ F) : AccAt C ρ' env acc l h' := by
  obtain ⟨ws, n, ho, r⟩ := x.lst
  refine x.keep e.pre (fun hm => ?_) fun o q => e.keep _ o q (not_has_ids x.out) (I.not_x x.base) hF
  rcases e.fresh _ hm with q | q
  · exact x.out q
  · rw [ho] at q; cases q

noncomputable abbrev DA := List MV → ME → MH → Option (List MV × ME × MH)
noncomputable def RAct (C : Cx) (d : Nat) (env : Env) (acc : Addr) (t : Sem Unit) (f : DA) : Prop :=
  ∀ {l me mh l' me' mh'}, f l me mh = some (l', me', mh') → ∀ {ρ A s Q E}, Aok d A → Inv C ρ mh s.heap → SOk C s → FR C ρ env me s.heap → AccAt C ρ env acc l s.heap →
    (∀ ρ' s', Ext C ρ [env.locals, acc] s.heap ρ' s'.heap → Inv C ρ' mh' s'.heap → SOk C s' → FR C ρ' env me' s'.heap → AccAt C ρ' env acc l' s'.heap → Q () s') → wpAny C.M A t Q E s

noncomputable def dCompLoop (tg : Tg) (cond : DB) (act : DA) (k : ItK) : Nat → Nat → DA
  | 0, _ => fun _ _ _ => none
  | n + 1, j => fun l me mh => match nextOf k mh j with
    | none => none
    | some none => some (l, me, mh)
    | some (some v) => (match tg me mh v with
      | none => none
      | some me1 => (match cond me1 mh with
        | none => none
        | some (false, mh2) => dCompLoop tg cond act k n (j + 1) l me1 mh2
        | some (true, mh2) => (match act l me1 mh2 with
          | none => none
          | some (l3, me3, mh3) => dCompLoop tg cond act k n (j + 1) l3 me3 mh3)))

theorem compRun {elt : PySem.Expr} {gens : List Comprehension} {scope : Scope} {pos p : Pos} {dp : Nat} {target iter : PySem.Expr} {ifs : List PySem.Expr} {act : Sem Unit} {acc c : Addr}
    (heq : compTurn (.ListComp elt gens scope pos) dp (.ref c) (.ref acc) env = (do
      standAt p
      match ← pyNext (.ref c) with
      | none => pure (.done .next)
      | some v =>
        letOwnedTupleGo target (.ref c) v
        assign target env v
        let mut ok := true
        for c in ifs do
          if ok then ok ← isTrue c env (eval c env)
        if ok then act
        again (.compLoop (.ListComp elt gens scope pos) dp (.ref c) (.ref acc) env))) (hgen : gens[dp]? = some ⟨target, iter, ifs, 0⟩)
    {tg : Tg} {cond : DB} {f : DA} (ht : RTg C d env [env.locals] target tg) (hg : GoOk C target) (hc : RTests C d env ifs cond) (ha : RAct C d env acc act f)
    {N : Nat} {k : ItK} {l l' : List MV} {me : ME} {mh : MH} {me' : ME} {mh' : MH} (hf : dCompLoop tg cond f k N 0 l me mh = some (l', me', mh')) {ρ0 ρ : Wd} {h0 : Heap} {A : Around} {s : Shared} {R : Result → Shared → Prop}
    (ao : Aok d A) (x0 : Ext C ρ0 [env.locals, acc] h0 ρ s.heap) (c0 : h0.get? c = none) (cr : ¬ ρ.has c) (cb : C.base.get? c = none) (cf : c ∉ fa env) (ca : c ≠ acc) (I : Inv C ρ mh s.heap) (so : SOk C s) (F : FR C ρ env me s.heap) (hit : ItAt ρ c s.heap k 0) (hacc : AccAt C ρ env acc l s.heap)
    (hR : ∀ ρ' s', Ext C ρ0 [env.locals, acc] h0 ρ' s'.heap → Inv C ρ' mh' s'.heap → SOk C s' → FR C ρ' env me' s'.heap → ¬ ρ'.has c → ρ.le ρ' → AccAt C ρ' env acc l' s'.heap → R (.ok .next) s') :
    codeAny C.M A (.compStart (.ListComp elt gens scope pos) dp (.ref c) (.ref acc) env) R s := by
  have loop : codeAny C.M A (.compLoop (.ListComp elt gens scope pos) dp (.ref c) (.ref acc) env) R s := by
    refine compLoopT heq (I := fun n s2 => ∃ j l2 me2 mh2 ρ2, dCompLoop tg cond f k n j l2 me2 mh2 = some (l', me', mh') ∧ ItAt ρ2 c s2.heap k j ∧ Ext C ρ0 [env.locals, acc] h0 ρ2 s2.heap ∧ ρ.le ρ2 ∧ ¬ ρ2.has c ∧ Inv C ρ2 mh2 s2.heap ∧ SOk C s2 ∧ FR C ρ2 env me2 s2.heap ∧ AccAt C ρ2 env acc l2 s2.heap) ?_ N
      ⟨0, l, me, mh, ρ, hf, hit, x0, .refl _, cr, I, so, F, hacc⟩
    rintro n s2 ⟨j, l2, me2, mh2, ρ2, hw, hit2, x2, hp2, hc2, I2, so2, F2, a2⟩
    cases n with
    | zero => simp [dCompLoop] at hw
    | succ n =>
      unfold dCompLoop at hw
      have cl : c ≠ env.locals := fun z => cf (z ▸ (by simp [fa]))
      have al : acc ≠ env.locals := fun z => a2.fr (z ▸ (by simp [fa]))
      have cF : c ∉ [env.locals, acc] := by simp [cl, ca]
      cases hn : nextOf k mh2 j with
      | none => rw [hn] at hw; simp at hw
      | some r =>
        rw [hn] at hw
        refine next_ok (d := d) hn ao I2 hit2 (fun mv hr v h3 tk hv hit3 e3 => ?_) fun hr h3 tk e3 => ?_
        · subst hr
          simp only at hw
          have I3 : Inv C ρ2 mh2 h3 := I2.ext hc2 cb e3
          have F3 : FR C ρ2 env me2 h3 := F2.keep (.refl _) (fun a ha o' e => e3 a o' (fun z => cf (z ▸ ha)) e) fun a ha => (F2.out a ha).1
          have x3 : Ext C ρ0 [env.locals, acc] h0 ρ2 h3 := x2.step c0 e3
          have a3 : AccAt C ρ2 env acc l2 h3 := a2.keep (.refl _) a2.out fun o e => e3 _ o (Ne.symm ca) e
          refine hg (s := { s2 with heap := h3, toks := tk }) hit3 ?_
          cases htg : tg me2 mh2 mv with
          | none => rw [htg] at hw; simp at hw
          | some me3 =>
            rw [htg] at hw
            simp only at hw
            refine ht htg (s := { s2 with heap := h3, toks := tk }) ao I3 (so2.heap _ _) F3 hv fun s4 x4 I4 so4 F4 => ?_
            have x4' : Ext C ρ2 [env.locals, acc] h3 ρ2 s4.heap := x4.more fun a ha => .inl (by simp at ha; simp [ha])
            have a4 := a3.ext I3 x4 (by simpa using al)
            cases hcc : cond me3 mh2 with
            | none => rw [hcc] at hw; simp at hw
            | some r =>
              obtain ⟨b, mh5⟩ := r
              rw [hcc] at hw
              refine hc hcc ao I4 so4 F4 fun ρ5 s5 x5 I5 so5 => ?_
              have x35 : Ext C ρ2 [env.locals, acc] h3 ρ5 s5.heap := x4'.trans x5.wide
              have hit5 : ItAt ρ5 c s5.heap k (j + 1) := hit3.keep x35.pre fun o' e => x35.keep c o' e (not_has_ids hc2) (I2.not_x cb) cF
              have hc5 : ¬ ρ5.has c := fun hm => by
                rcases x35.fresh c hm with q | q
                · exact hc2 q
                · obtain ⟨o', e⟩ := hit3.live; rw [e] at q; cases q
              have F5 := F4.ext0 x5
              have a5 := a4.ext I4 x5 (by simp)
              cases b with
              | false =>
                exact ⟨n, Nat.lt_succ_self n, j + 1, l2, me3, mh5, ρ5, hw, hit5, x3.trans x35, hp2.trans x35.pre, hc5, I5, so5, F5, a5⟩
              | true =>
                simp only at hw
                simp only [if_true]
                cases haa : f l2 me3 mh5 with
                | none => rw [haa] at hw; simp at hw
                | some r =>
                  obtain ⟨l6, me6, mh6⟩ := r
                  rw [haa] at hw
                  refine ha haa ao I5 so5 F5 a5 fun ρ6 s6 x6 I6 so6 F6 a6 => ?_
                  have hc6 : ¬ ρ6.has c := fun hm => by
                    rcases x6.fresh c hm with q | q
                    · exact hc5 q
                    · obtain ⟨o', e⟩ := hit5.live; rw [e] at q; cases q
                  exact ⟨n, Nat.lt_succ_self n, j + 1, l6, me6, mh6, ρ6, hw, hit5.keep x6.pre fun o' e => x6.keep c o' e (not_has_ids hc5) (I2.not_x cb) cF, (x3.trans x35).trans x6, (hp2.trans x35.pre).trans x6.pre, hc6, I6, so6, F6, a6⟩
        · subst hr
          simp only at hw
          cases hw
          exact hR _ _ (x2.step c0 e3) (I2.ext hc2 cb e3) (so2.heap _ _) (F2.keep (.refl _) (fun a ha o' e => e3 a o' (fun z => cf (z ▸ ha)) e) fun a ha => (F2.out a ha).1) hc2 hp2
            (a2.keep (.refl _) a2.out fun o e => e3 _ o (Ne.symm ca) e)
  exact compStartT hgen rfl loop (hit.self loop)

noncomputable def aEmit (elt : D) : DA := fun l me mh => match elt me mh with
  | some (x, mh1) => if l.length ≤ 100000 then some (l ++ [x], me, mh1) else none
  | none => none
theorem plain_of {h : Heap} {a : Addr} {vs : List Value} {n : Nat} (e : h.get? a = some (listO vs n)) : h.PlainList a vs.toArray := ⟨n, e⟩
theorem mh_lt {mh : MH} {i : Nat} {mo : MO} (h : mh[i]? = some mo) : i < mh.length := (List.getElem?_eq_some_iff.mp h).1

set_option tactic.hygienic true in
theorem RAct_emit {elt : PySem.Expr} {f : D} {acc : Addr} (h : RE C d env elt f) : RAct C d env acc (do let _ ← call (.builtin "list.append") [.ref acc, ← eval elt env]) (aEmit f) := by
  intro l me mh l' me' mh' hf ρ A s Q E ao I so F hacc hQ
  unfold aEmit at hf
  split at hf
  · rename_i x mh1 hf1
    split at hf
    · rename_i hl
      cases hf
      refine wpAny_bind (h hf1 ao I so F fun v ρ1 s1 x1 I1 so1 v1 => ?_)
      have a1 := hacc.ext I x1 (by simp)
      obtain ⟨ws, n, ho, r⟩ := a1.lst
      refine wpAny_bind (wpAny_list_append_plain (plain_of ho) (fun h' hp hs => wpAny_pure ?_) (by simp [r.length]; exact Nat.le_trans hl (by decide)))
      obtain ⟨n', hp⟩ := hp
      have F1 := F.ext0 x1
      refine hQ ρ1 { s1 with heap := h' } (x1.wide.trans (Ext.one hs (by simp) ⟨_, hp⟩)) (I1.ext a1.out a1.base hs.extBut) (so1.heap _ _) ?_ ?_
      · exact F1.keep (.refl _) (fun a ha o e => hs.extBut a o (fun z => a1.fr (z ▸ ha)) e) fun a ha => (F1.out a ha).1
      · exact ⟨a1.out, a1.base, a1.fr, ws ++ [v], n', by simpa using hp, r.append (.one v1)⟩
    · cases hf
  · cases hf

end Mine

namespace Mine
variable {C : Cx} {d : Nat} {env : Env}

theorem nodup_rev {α : Type} {l : List α} (h : l.Nodup) : l.reverse.Nodup := List.pairwise_reverse.mpr (h.imp fun h => h.symm)

noncomputable def clOf (env : Env) (names : List (Str × NameKind)) : List (Str × Addr) := ((names.filter (·.2 == .free)).map fun x => (x.1, (env.cells.lookup x.1).getD 0)).reverse

theorem forIn_clos (env : Env) : ∀ (names : List (Str × NameKind)) (acc : List (Str × Addr)), (∀ n, (n, NameKind.free) ∈ names → ∃ c, env.cells.lookup n = some c) →
    (forIn names acc fun (x : Str × NameKind) cs => if (x.2 == NameKind.free) = true then (do let a ← cellOf env x.1; pure (ForInStep.yield ((x.1, a) :: cs)) : Sem _) else pure (ForInStep.yield cs)) = pure (clOf env names ++ acc)
  | [], acc, _ => rfl
  | (n, k) :: r, acc, h => by
    rw [List.forIn_cons]
    by_cases hk : (k == NameKind.free) = true
    · have hk' : k = .free := by simpa using hk
      obtain ⟨c, hc⟩ := h n (by rw [hk']; exact List.mem_cons_self)
      have e : cellOf env n = pure c := by unfold cellOf; rw [hc]
      simp only [hk, if_true, e]
      rw [pure_bind, pure_bind]
      show (forIn r ((n, c) :: acc) _) = _
      rw [forIn_clos env r _ fun n' hn' => h n' (List.mem_cons_of_mem _ hn')]
      unfold clOf
      rw [List.filter_cons, if_pos hk]
      simp [hc]
    · simp only [hk, if_false, Bool.false_eq_true]
      rw [pure_bind]
      show (forIn r acc _) = _
      rw [forIn_clos env r _ fun n' hn' => h n' (List.mem_cons_of_mem _ hn')]
      unfold clOf
      rw [List.filter_cons, if_neg hk]

theorem clos_ok (env : Env) (scope : Scope) (h : ∀ n, (n, NameKind.free) ∈ scope.names → ∃ c, env.cells.lookup n = some c) : closureFor scope env = pure (clOf env scope.names) := by
  unfold closureFor
  have := forIn_clos env scope.names [] h
  rw [List.append_nil] at this
  show (do let cs ← forIn scope.names ([] : List (Str × Addr)) _; pure cs) = _
  rw [show (forIn scope.names ([] : List (Str × Addr)) fun (x : Str × NameKind) cs => if (x.2 == NameKind.free) = true then (do let a ← cellOf env x.1; pure (ForInStep.yield ((x.1, a) :: cs)) : Sem _) else pure (ForInStep.yield cs)) = pure (clOf env scope.names) from this]
  rfl

theorem mem_clOf {env : Env} {names : List (Str × NameKind)} {n : Str} {c : Addr} (h : (n, c) ∈ clOf env names) (hh : ∀ n, (n, NameKind.free) ∈ names → ∃ c, env.cells.lookup n = some c) : (n, NameKind.free) ∈ names ∧ env.cells.lookup n = some c := by
  unfold clOf at h
  rw [List.mem_reverse] at h
  obtain ⟨⟨n', k⟩, hm, e⟩ := List.mem_map.mp h
  obtain ⟨hm1, hm2⟩ := List.mem_filter.mp hm
  have hk : k = .free := by simpa using hm2
  subst hk
  obtain ⟨c', hc⟩ := hh n' hm1
  simp only [hc, Option.getD_some] at e
  cases e
  exact ⟨hm1, hc⟩

theorem lookup_clOf {env : Env} {names : List (Str × NameKind)} (hn : (names.map (·.1)).Nodup) {n : Str} {c : Addr} (hm : (n, NameKind.free) ∈ names) (hc : env.cells.lookup n = some c) : (clOf env names).lookup n = some c := by
  refine lookup_of_mem_nodup ?_ ?_
  · unfold clOf
    rw [List.map_reverse, List.map_map]
    exact nodup_rev (hn.sublist ((List.filter_sublist).map _))
  · unfold clOf
    rw [List.mem_reverse]
    exact List.mem_map.mpr ⟨(n, .free), List.mem_filter.mpr ⟨hm, rfl⟩, by simp [hc]⟩

theorem lookup_relabel (env : Env) (n : Str) : ∀ names : List (Str × NameKind),
    (names.map fun (x : Str × NameKind) => match x with | (n, k) => if (k == NameKind.free && env.scope.kind == .function && env.kindOf n == some .cell) then (n, NameKind.cell) else (n, k)).lookup n =
      (names.lookup n).map fun k => if (k == NameKind.free && env.scope.kind == .function && env.kindOf n == some .cell) then NameKind.cell else k
  | [] => rfl
  | (x, k) :: r => by
    rw [List.map_cons]
    simp only
    by_cases hx : n = x
    · subst hx
      split <;> simp_all [List.lookup_cons]
    · have hb : (n == x) = false := by simpa using hx
      split
      · rw [List.lookup_cons, List.lookup_cons, hb]; exact lookup_relabel env n r
      · rw [List.lookup_cons, List.lookup_cons, hb]; exact lookup_relabel env n r

theorem kindOf_comp (scope : Scope) (cl : List (Str × Addr)) (Cc : Addr) (hf : env.scope.kind = .function) (n : Str) :
    (compEnvC scope cl Cc env).kindOf n = (scope.names.lookup n).map fun k => if k = .free ∧ env.kindOf n = some .cell then .cell else k := by
  show (relabel scope env).names.lookup n = _
  unfold relabel
  rw [lookup_relabel]
  cases scope.names.lookup n with
  | none => rfl
  | some k =>
    simp only [Option.map_some, hf]
    congr 1
    by_cases h1 : k = .free <;> by_cases h2 : env.kindOf n = some .cell <;> simp [h1, h2]

noncomputable def dropV (own : List Nat) (me : ME) : ME := me.filter fun p => !own.contains p.1
set_option tactic.hygienic true in
theorem lookup_dropV {own : List Nat} {x : Nat} {mv : MV} : ∀ {me : ME}, (dropV own me).lookup x = some mv → me.lookup x = some mv ∧ x ∉ own
  | [], h => by simp [dropV] at h
  | (y, v) :: r, h => by
    unfold dropV at h
    rw [List.filter_cons] at h
    split at h
    · rename_i hy
      rw [List.lookup_cons] at h ⊢
      by_cases e : x = y
      · subst e
        simp at h ⊢
        exact ⟨h, by simpa using hy⟩
      · have hb : (x == y) = false := by simpa using e
        rw [hb] at h ⊢
        exact lookup_dropV (me := r) h
    · rename_i hy
      have hh := lookup_dropV (me := r) h
      refine ⟨?_, hh.2⟩
      rw [List.lookup_cons]
      have e : x ≠ y := fun z => by subst z; simp at hy; exact hh.2 hy
      rw [show (x == y) = false by simpa using e]
      exact hh.1

structure CompOk (C : Cx) (env : Env) (scope : Scope) (own : List Nat) : Prop where
  kind : scope.kind = .function
  nocell : ∀ x ∈ scope.names, x.2 ≠ .cell
  nodup : (scope.names.map (·.1)).Nodup
  free : ∀ n, (n, NameKind.free) ∈ scope.names → env.kindOf n = some .cell ∨ env.kindOf n = some .free
  owns : ∀ x n, C.tbl[x]? = some n → scope.names.lookup n = some .local → x ∈ own

theorem CompOk.cell {scope : Scope} {own : List Nat} (K : CompOk C env scope own) {ρ : Wd} {me : ME} {h : Heap} (F : FR C ρ env me h) : ∀ n, (n, NameKind.free) ∈ scope.names → ∃ c, env.cells.lookup n = some c := fun n hn => by
  rcases K.free n hn with q | q
  · exact F.has n q
  · exact F.hasF n q

theorem mem_of_lookupK : ∀ {l : List (Str × NameKind)} {n : Str} {k : NameKind}, l.lookup n = some k → (n, k) ∈ l := fun h => mem_of_lookup h

theorem FR_comp {scope : Scope} {own : List Nat} (K : CompOk C env scope own) {ρ : Wd} {me : ME} {h h' : Heap} {Cc : Addr} {mh : MH} (F : FR C ρ env me h) (I : Inv C ρ mh h) (hc : h.get? Cc = none)
    (hk : ∀ b o, h.get? b = some o → h'.get? b = some o) (hn : h'.Ns Cc fun _ => none) : FR C ρ (compEnvC scope (clOf env scope.names) Cc env) (dropV own me) h' := by
  have hcl := K.cell F
  have fr := I.fresh hc
  have live : ∀ n c, (n, c) ∈ clOf env scope.names → ∃ v, h.IsCell c v := fun n c hm => F.cells n c (mem_of_lookup (mem_clOf hm hcl).2)
  have out : ∀ a ∈ fa (compEnvC scope (clOf env scope.names) Cc env), ¬ ρ.has a ∧ C.base.get? a = none := fun a ha => by
    unfold fa at ha
    rcases List.mem_cons.mp ha with rfl | ha
    · exact fr
    · obtain ⟨⟨n, c⟩, hm, rfl⟩ := List.mem_map.mp ha
      exact F.out c (by unfold fa; exact List.mem_cons_of_mem _ (List.mem_map.mpr ⟨(n, c), mem_of_lookup (mem_clOf hm hcl).2, rfl⟩))
  refine ⟨K.kind, F.glob, F.bui, ⟨_, hn⟩, fun n c hm => ?_, out, fun a ha => I.not_x (out a ha).2, ?_, fun n c hm => ?_, fun n hkn => ?_, fun n hkn => ?_, fun x mv n hx ht => ?_⟩
  · obtain ⟨v, hv⟩ := live n c hm; exact ⟨v, hv.keeps hk⟩
  · show (clOf env scope.names).Pairwise _
    have hnd : ((clOf env scope.names).map (·.1)).Nodup := by
      unfold clOf
      rw [List.map_reverse, List.map_map]
      exact nodup_rev (K.nodup.sublist ((List.filter_sublist).map _))
    rw [List.Nodup, List.pairwise_map] at hnd
    refine List.Pairwise.imp_of_mem (fun {x y} hx hy hxy e => hxy ?_) hnd
    have h1 := mem_of_lookup (mem_clOf (n := x.1) (c := x.2) hx hcl).2
    have h2 := mem_of_lookup (mem_clOf (n := y.1) (c := y.2) hy hcl).2
    rw [← e] at h2
    exact name_of_addr F.apart h1 h2
  · intro z
    obtain ⟨v, o, ho, _⟩ := live n c hm
    have z' : c = Cc := z
    rw [z', hc] at ho; cases ho
  · rw [kindOf_comp _ _ _ F.kind] at hkn
    obtain ⟨k, hk1, hk2⟩ := Option.map_eq_some_iff.mp hkn
    have hm := mem_of_lookupK hk1
    by_cases q : k = .free ∧ env.kindOf n = some .cell
    · obtain ⟨rfl, q2⟩ := q
      obtain ⟨c, hc'⟩ := hcl n hm
      exact ⟨c, lookup_clOf K.nodup hm hc'⟩
    · rw [if_neg q] at hk2
      exact absurd hk2 (K.nocell _ hm)
  · rw [kindOf_comp _ _ _ F.kind] at hkn
    obtain ⟨k, hk1, hk2⟩ := Option.map_eq_some_iff.mp hkn
    have hm := mem_of_lookupK hk1
    by_cases q : k = .free ∧ env.kindOf n = some .cell
    · rw [if_pos q] at hk2; cases hk2
    · rw [if_neg q] at hk2
      subst hk2
      obtain ⟨c, hc'⟩ := hcl n hm
      exact ⟨c, lookup_clOf K.nodup hm hc'⟩
  · obtain ⟨hx1, hx2⟩ := lookup_dropV hx
    obtain ⟨v, h1, h2⟩ := F.var x mv n hx1 ht
    refine ⟨v, h1, ?_⟩
    have key : (n, NameKind.free) ∈ scope.names → ∃ c, (compEnvC scope (clOf env scope.names) Cc env).cells.lookup n = some c ∧ h'.IsCell c (some v) := fun hm => by
      unfold VarAt at h2
      rcases K.free n hm with q | q
      · rw [q] at h2
        obtain ⟨c, e1, e2⟩ := h2
        exact ⟨c, lookup_clOf K.nodup hm e1, e2.keeps hk⟩
      · rw [q] at h2
        obtain ⟨c, e1, e2⟩ := h2
        exact ⟨c, lookup_clOf K.nodup hm e1, e2.keeps hk⟩
    unfold VarAt
    rw [kindOf_comp _ _ _ F.kind]
    cases hl : scope.names.lookup n with
    | none => trivial
    | some k =>
      have hm := mem_of_lookupK hl
      cases k with
      | «local» => exact absurd (K.owns x n ht hl) hx2
      | cell => exact absurd rfl (K.nocell _ hm)
      | free =>
        by_cases q : env.kindOf n = some .cell
        · simp only [Option.map_some, true_and, if_pos q]; exact key hm
        · simp only [Option.map_some, true_and, if_neg q]; exact key hm
      | _ => trivial

noncomputable def dComp (own : List Nat) (c0 : Option Addr) (N : Nat) (it : D) (tg : Tg) (cond : DB) (act : DA) : D := fun me mh => match it me mh with
  | some (v, mh1) => (match itOf c0 v mh1 with
    | some k => (match dCompLoop tg cond act k N 0 [] (dropV own me) mh1 with
      | some (l, _, mh2) => some (.lst l, mh2)
      | none => none)
    | none => none)
  | none => none

theorem Inv.freeze {ρ : Wd} {mh : MH} {h : Heap} (I : Inv C ρ mh h) {a : Addr} {o : Obj} (hn : ¬ ρ.has a) (hb : C.base.get? a = none) (ho : h.get? a = some o) : Inv C (ρ.froze a o) mh h := by
  have hp : ρ.le (ρ.froze a o) := ρ.le_froze _ _
  refine ⟨I.len, I.nd, fun i mo hi => ?_, fun p hm => ?_, fun p hm => ?_, fun p hm => (I.st p hm).mono hp.fz, I.new, fun p hm => ?_, I.keep, fun p hm => let ⟨ps, h1, h2⟩ := I.tab p hm; ⟨ps, h1, h2.mono hp.fz⟩, I.xb, I.pw⟩
  · obtain ⟨b, o', h1, h2, h3⟩ := I.obj i mo hi
    exact ⟨b, o', h1, h2, h3.mono hp⟩
  · rcases List.mem_cons.mp hm with rfl | hm
    · exact ho
    · exact I.fz p hm
  · rcases List.mem_cons.mp hm with rfl | hm
    · exact fun q => hn (.inl q)
    · exact I.sep p hm
  · rcases List.mem_cons.mp hm with rfl | hm
    · exact I.not_x hb
    · exact I.newf p hm
theorem Ext.freeze {ρ ρ' : Wd} {F : List Addr} {h h' : Heap} (x : Ext C ρ F h ρ' h') {a : Addr} (o : Obj) (ha : h.get? a = none) : Ext C ρ F h (ρ'.froze a o) h' :=
  ⟨x.pre.trans (ρ'.le_froze _ _), x.keep, x.freshI, fun b hb => by
    rcases hb with hb | ⟨o', hb⟩
    · exact x.fresh b (.inl hb)
    · rcases List.mem_cons.mp hb with e | q
      · cases e; exact .inr ha
      · exact x.fresh b (.inr ⟨o', q⟩), x.live⟩

structure RComp (C : Cx) (d : Nat) (env : Env) (elt : PySem.Expr) (gens : List Comprehension) (scope : Scope) (pos : Pos) (f : D) : Prop where
  run : ∀ {use : Option (Value → Sem Unit)} {p : Pos} {me mh mv mh'}, f me mh = some (mv, mh') → ∀ {ρ A s Q E}, Aok d A → Inv C ρ mh s.heap → SOk C s → FR C ρ env me s.heap →
    (use = none → Post C ρ s.heap mh' mv Q) →
    (∀ u, use = some u → ∀ v ρ' s', Ext C ρ [] s.heap ρ' s'.heap → Inv C ρ' mh' s'.heap → SOk C s' → VR ρ' mv v → ∀ Cc m, s'.heap.Ns Cc m → ¬ ρ'.has Cc → C.base.get? Cc = none → Cc ∉ fa env → s.heap.get? Cc = none →
      wpAny C.M A (u v) (fun _ s'' => ∃ m, s''.heap.Ns Cc m ∧ ∀ h', Heap.SameBut Cc s''.heap h' → Q .none { s'' with heap := h' }) E s') →
    wpAny C.M A (comprehension (.ListComp elt gens scope pos) scope env p (newList []) false (firstIter gens env) use) Q E s

set_option tactic.hygienic true in
theorem RComp_mk (ok : C.Ok) {c0 : Option Addr} (h0 : SubIter C c0) {elt target iter : PySem.Expr} {ifs : List PySem.Expr} {gs : List Comprehension} {scope : Scope} {pos : Pos} {own : List Nat} {it : D} {tg : Tg} {cond : DB} {f : DA} (N : Nat) (K : CompOk C env scope own) (hi : RE C d env iter it)
    (ht : ∀ Cc, RTg C d (compEnvC scope (clOf env scope.names) Cc env) [Cc] target tg) (hg : GoOk C target)
    (hc : ∀ Cc, RTests C d (compEnvC scope (clOf env scope.names) Cc env) ifs cond) (act : Value → Env → Sem Unit) (ha : ∀ Cc acc, RAct C d (compEnvC scope (clOf env scope.names) Cc env) acc (act (.ref acc) (compEnvC scope (clOf env scope.names) Cc env)) f)
    (hs : ∀ x, foldedSetIterable iter env x = pure x)
    (heq : ∀ it acc env, compTurn (.ListComp elt (⟨target, iter, ifs, 0⟩ :: gs) scope pos) 0 it acc env = (do
      standAt iter.pos
      match ← pyNext it with
      | none => pure (.done .next)
      | some v =>
        letOwnedTupleGo target it v
        assign target env v
        let mut ok := true
        for c in ifs do
          if ok then ok ← isTrue c env (eval c env)
        if ok then act acc env
        again (.compLoop (.ListComp elt (⟨target, iter, ifs, 0⟩ :: gs) scope pos) 0 it acc env))) : RComp C d env elt (⟨target, iter, ifs, 0⟩ :: gs) scope pos (dComp own c0 N it tg cond f) := by
  refine ⟨fun {use p me mh mv mh'} hf {ρ A s Q E} ao I so F hQ hU => ?_⟩
  unfold dComp at hf
  split at hf
  · rename_i v mh1 hf1
    split at hf
    · rename_i k hk
      split at hf
      · rename_i lr me2 mh2 hf2
        cases hf
        refine wpAny_comprehension_free rfl hs (clos_ok env scope (K.cell F)) K.kind (fun x hx hl => lookup_of_mem_nodup K.nodup (by rw [← hl]; exact hx)) ?_
        refine hi hf1 ao I so F fun rv ρ1 s1 x1 I1 so1 v1 => iter_ok ok h0 hk I1 v1 fun o hit => ?_
        have F1 := F.ext0 x1
        have c0 : s1.heap.get? s1.heap.objs.size = none := get_size _
        have kp : ∀ b o', s1.heap.get? b = some o' → (s1.heap.push o).get? b = some o' := fun b o' e => Heap.get?_push_of_some _ e
        have cfr := I1.fresh c0
        have cf : s1.heap.objs.size ∉ fa env := fun hm => by obtain ⟨o, e⟩ := F1.liveFa hm; rw [e] at c0; cases c0
        refine wpAny_newList ?_ (by decide)
        -- the list
        have I1' := I1.junk kp
        have gacc : (s1.heap.push o).get? (s1.heap.push o).objs.size = none := get_size _
        have kp1 : ∀ b o', (s1.heap.push o).get? b = some o' → ((s1.heap.push o).push (listO [] 0)).get? b = some o' := fun b o' e => Heap.get?_push_of_some _ e
        have I2 : Inv C ρ1 mh1 ((s1.heap.push o).push (listO [] 0)) := I1'.junk kp1
        have afr := I1'.fresh gacc
        have hlive : ∃ o', (s1.heap.push o).get? s1.heap.objs.size = some o' := hit.live
        have hne : s1.heap.objs.size ≠ (s1.heap.push o).objs.size := by rw [Heap.size_push]; lia
        have g1 : s1.heap.get? (s1.heap.push o).objs.size = none := by
          cases e : s1.heap.get? (s1.heap.push o).objs.size with
          | none => rfl
          | some o' => rw [kp _ _ e] at gacc; cases gacc
        have hal : ((s1.heap.push o).push (listO [] 0)).get? (s1.heap.push o).objs.size = some (listO [] 0) := Heap.get?_push_size _ rfl
        have kp2 : ∀ b o', s1.heap.get? b = some o' → ((s1.heap.push o).push (listO [] 0)).get? b = some o' := fun b o' e => kp1 _ _ (kp b o' e)
        have hc2 : ∀ o', (s1.heap.push o).get? s1.heap.objs.size = some o' → ((s1.heap.push o).push (listO [] 0)).get? s1.heap.objs.size = some o' := fun o' e => kp1 _ _ e
        generalize hacc : (s1.heap.push o).objs.size = acc at *
        generalize hH2 : (s1.heap.push o).push (listO [] 0) = H2 at I2 kp2 hal hc2
        have x2 : Ext C ρ1 [] s1.heap ρ1 H2 := Ext.all kp2
        refine wpAny_newFunctionEnv K.nocell (by simp) (fun h3 hns hsb => ?_) K.kind
        -- the frame
        dsimp only at hns hsb ⊢
        have g2 : H2.get? H2.objs.size = none := get_size _
        have kp3 : ∀ b o', H2.get? b = some o' → h3.get? b = some o' := fun b o' e => hsb.extBut b o' (fun z => by subst z; rw [g2] at e; cases e) (Heap.get?_push_of_some _ e)
        have F2 : FR C ρ1 env me H2 := F1.ext0 x2
        have F3 := FR_comp K F2 I2 g2 kp3 (by simpa using hns)
        have g3 : s1.heap.get? H2.objs.size = none := by
          cases e : s1.heap.get? H2.objs.size with
          | none => rfl
          | some o' => rw [kp2 _ _ e] at g2; cases g2
        have ho2 : ∃ o', H2.get? s1.heap.objs.size = some o' := let ⟨o', e⟩ := hlive; ⟨o', hc2 o' e⟩
        have hcC : s1.heap.objs.size ≠ H2.objs.size := fun z => by obtain ⟨o', e⟩ := ho2; rw [z, g2] at e; cases e
        have haC : acc ≠ H2.objs.size := fun z => by rw [z, g2] at hal; cases hal
        have nfa : ∀ a, s1.heap.get? a = none → a ≠ H2.objs.size → a ∉ fa (compEnvC scope (clOf env scope.names) H2.objs.size env) := fun a ha hne hm => by
          unfold fa at hm
          rcases List.mem_cons.mp hm with q | q
          · exact hne q
          · obtain ⟨⟨n, c⟩, hm', e⟩ := List.mem_map.mp q
            have := mem_of_lookup (mem_clOf hm' (K.cell F)).2
            obtain ⟨o', e'⟩ := F1.liveFa (a := a) (by unfold fa; exact List.mem_cons_of_mem _ (List.mem_map.mpr ⟨(n, c), this, e⟩))
            rw [ha] at e'; cases e'
        have xA : Ext C ρ1 [H2.objs.size, acc] s1.heap ρ1 h3 := x2.wide.trans ((Ext.all kp3).wide)
        have hit3 : ItAt ρ1 s1.heap.objs.size h3 k 0 := hit.keep (.refl _) fun o' e => kp3 _ _ (hc2 _ e)
        have aAt : AccAt C ρ1 (compEnvC scope (clOf env scope.names) H2.objs.size env) acc [] h3 := ⟨afr.1, afr.2, nfa acc g1 haC, [], 0, kp3 _ _ hal, .nil⟩
        refine compRun (env := compEnvC scope (clOf env scope.names) H2.objs.size env) (h0 := s1.heap) (ρ0 := ρ1) (heq _ _ _) rfl (ht _) hg (hc _) (ha _ acc) hf2 (s := { s1 with heap := h3, toks := s1.toks + ([] : List (Str × Value)).length }) ao xA c0 cfr.1 cfr.2 (nfa _ c0 hcC) hne
          (I2.junk kp3) (so1.heap _ _) F3 hit3 aAt fun ρ' s' x' I' so' F' hc' hp' a' => ?_
        have xx : Ext C ρ1 [] s1.heap ρ' s'.heap := x'.more fun a ha => .inr (by
          have : a = H2.objs.size ∨ a = acc := by simpa [compEnvC] using ha
          rcases this with rfl | rfl
          · exact g3
          · exact g1)
        obtain ⟨ws, n, hl, hr⟩ := a'.lst
        have If := I'.freeze a'.out a'.base hl
        have xf := xx.freeze (listO ws n) g1
        have accv : VR (ρ'.froze acc (listO ws n)) (.lst lr) (.ref acc) := .lst' mem_froze (hr.mono (ρ'.le_froze _ _))
        have hC' : ¬ ρ'.has H2.objs.size ∧ C.base.get? H2.objs.size = none := F'.out _ (by simp [fa, compEnvC])
        have hC : ¬ (ρ'.froze acc (listO ws n)).has H2.objs.size := fun hm => by
          rcases hm with q | ⟨o', q⟩
          · exact hC'.1 (.inl q)
          · rcases List.mem_cons.mp q with e | q
            · cases e; exact haC rfl
            · exact hC'.1 (.inr ⟨o', q⟩)
        have hCfa : H2.objs.size ∉ fa env := fun hm => by obtain ⟨o', e⟩ := F2.liveFa hm; rw [g2] at e; cases e
        obtain ⟨m, hm⟩ := F'.ns
        have hm' : s'.heap.Ns H2.objs.size m := hm
        have hs0 : s.heap.get? H2.objs.size = none := by
          cases e : s.heap.get? H2.objs.size with
          | none => rfl
          | some o' => obtain ⟨o2, e2⟩ := x1.live _ _ e; rw [e2] at g3; cases g3
        cases use with
        | none =>
          refine ⟨m, hm', fun h' hsb' => hQ rfl _ (ρ'.froze acc (listO ws n)) _ ((x1.trans xf).step hs0 hsb'.extBut) ?_ (so'.heap _ _) accv⟩
          exact If.ext hC hC'.2 hsb'.extBut
        | some u => exact hU u rfl _ _ s' (x1.trans xf) If so' accv _ m hm' hC hC'.2 hCfa hs0
      · cases hf
    · cases hf
  · cases hf

theorem RComp_one (ok : C.Ok) {c0 : Option Addr} (h0 : SubIter C c0) {elt target iter : PySem.Expr} {ifs : List PySem.Expr} {scope : Scope} {pos : Pos} {own : List Nat} {it : D} {tg : Tg} {cond : DB} {f : D} (N : Nat) (K : CompOk C env scope own) (hi : RE C d env iter it)
    (ht : ∀ Cc, RTg C d (compEnvC scope (clOf env scope.names) Cc env) [Cc] target tg) (hg : GoOk C target)
    (hc : ∀ Cc, RTests C d (compEnvC scope (clOf env scope.names) Cc env) ifs cond) (he : ∀ Cc, RE C d (compEnvC scope (clOf env scope.names) Cc env) elt f)
    (hs : ∀ x, foldedSetIterable iter env x = pure x) : RComp C d env elt [⟨target, iter, ifs, 0⟩] scope pos (dComp own c0 N it tg cond (aEmit f)) :=
  RComp_mk ok h0 N K hi ht hg hc (fun acc env => do let _ ← call (.builtin "list.append") [acc, ← eval elt env]) (fun Cc _ => RAct_emit (he Cc)) hs fun _ _ _ => compTurn_list _ _ _ _ _ _ _ _ _

noncomputable def aLoop (c0 : Option Addr) (N : Nat) (it : D) (tg : Tg) (cond : DB) (act : DA) : DA := fun l me mh => match it me mh with
  | some (v, mh1) => (match itOf c0 v mh1 with
    | some k => dCompLoop tg cond act k N 0 l me mh1
    | none => none)
  | none => none

set_option tactic.hygienic true in
theorem RAct_loop (ok : C.Ok) {c0 : Option Addr} (h0 : SubIter C c0) {elt target iter : PySem.Expr} {ifs : List PySem.Expr} {gens : List Comprehension} {scope : Scope} {pos : Pos} {it : D} {tg : Tg} {cond : DB} {f : DA} {dp : Nat} {acc : Addr} (N : Nat) (hi : RE C d env iter it)
    (ht : RTg C d env [env.locals] target tg) (hg : GoOk C target) (hc : RTests C d env ifs cond) (act : Value → Env → Sem Unit) (ha : RAct C d env acc (act (.ref acc) env) f)
    (hs : ∀ x, foldedSetIterable iter env x = pure x) (hgen : gens[dp]? = some ⟨target, iter, ifs, 0⟩)
    (heq : ∀ it acc env, compTurn (.ListComp elt gens scope pos) dp it acc env = (do
      standAt iter.pos
      match ← pyNext it with
      | none => pure (.done .next)
      | some v =>
        letOwnedTupleGo target it v
        assign target env v
        let mut ok := true
        for c in ifs do
          if ok then ok ← isTrue c env (eval c env)
        if ok then act acc env
        again (.compLoop (.ListComp elt gens scope pos) dp it acc env))) :
    RAct C d env acc (do
        let x ← eval iter env
        standAt iter.pos
        let x ← foldedSetIterable iter env x
        let _ ← runOwn (.compStart (.ListComp elt gens scope pos) dp (← holding [x] (pyIter x)) (.ref acc) env) env) (aLoop c0 N it tg cond f) := by
  intro l me mh l' me' mh' hf ρ A s Q E ao I so F hacc hQ
  unfold aLoop at hf
  split at hf
  · rename_i v mh1 hf1
    split at hf
    · rename_i k hk
      refine wpAny_bind (hi hf1 ao I so F fun rv ρ1 s1 x1 I1 so1 v1 => ?_)
      refine wpAny_bind (wpAny_standAt (wpAny_bind (wpAny_of_eq (hs rv) (wpAny_bind (wpAny_holding (iter_ok ok h0 hk I1 v1 fun o hit => ?_))))))
      have F1 := F.ext0 x1
      have c0 : s1.heap.get? s1.heap.objs.size = none := get_size _
      have kp : ∀ b o', s1.heap.get? b = some o' → (s1.heap.push o).get? b = some o' := fun b o' e => Heap.get?_push_of_some _ e
      have cfr := I1.fresh c0
      have cf : s1.heap.objs.size ∉ fa env := fun hm => by obtain ⟨o, e⟩ := F1.liveFa hm; rw [e] at c0; cases c0
      have a1 := hacc.ext I x1 (by simp)
      have ca : s1.heap.objs.size ≠ acc := fun z => by obtain ⟨ws, n, e, _⟩ := a1.lst; rw [← z, c0] at e; cases e
      refine wpAny_bind (wpAny_runOwn ?_)
      refine compRun (h0 := s1.heap) (ρ0 := ρ1) (heq _ _ _) hgen ht hg hc ha hf (s := { s1 with heap := s1.heap.push o }) ao (Ext.all kp).wide c0 cfr.1 cfr.2 cf ca (I1.junk kp) (so1.heap _ _)
        (F1.keep (.refl _) (fun a _ o' e => kp a o' e) fun a ha => (F1.out a ha).1) hit (a1.keep (.refl _) a1.out fun o' e => kp _ _ e) fun ρ' s' x' I' so' F' hc' hp' a' => ?_
      exact wpAny_pure (hQ _ _ (x1.wide.trans x') I' so' F' a')
    · cases hf
  · cases hf

theorem RComp_two (ok : C.Ok) {c0 c1 : Option Addr} (h0 : SubIter C c0) (h1 : SubIter C c1) {elt target iter target1 iter1 : PySem.Expr} {ifs ifs1 : List PySem.Expr} {scope : Scope} {pos : Pos} {own : List Nat} {it it1 : D} {tg tg1 : Tg} {cond cond1 : DB} {f : D} (N N1 : Nat) (K : CompOk C env scope own) (hi : RE C d env iter it)
    (ht : ∀ Cc, RTg C d (compEnvC scope (clOf env scope.names) Cc env) [Cc] target tg) (hg : GoOk C target)
    (hc : ∀ Cc, RTests C d (compEnvC scope (clOf env scope.names) Cc env) ifs cond)
    (hi1 : ∀ Cc, RE C d (compEnvC scope (clOf env scope.names) Cc env) iter1 it1)
    (ht1 : ∀ Cc, RTg C d (compEnvC scope (clOf env scope.names) Cc env) [Cc] target1 tg1) (hg1 : GoOk C target1)
    (hc1 : ∀ Cc, RTests C d (compEnvC scope (clOf env scope.names) Cc env) ifs1 cond1)
    (he : ∀ Cc, RE C d (compEnvC scope (clOf env scope.names) Cc env) elt f)
    (hs : ∀ x, foldedSetIterable iter env x = pure x) (hs1 : ∀ Cc x, foldedSetIterable iter1 (compEnvC scope (clOf env scope.names) Cc env) x = pure x) :
    RComp C d env elt [⟨target, iter, ifs, 0⟩, ⟨target1, iter1, ifs1, 0⟩] scope pos (dComp own c0 N it tg cond (aLoop c1 N1 it1 tg1 cond1 (aEmit f))) := by
  refine RComp_mk ok h0 N K hi ht hg hc (fun acc env => do
        let x ← eval iter1 env
        standAt iter1.pos
        let x ← foldedSetIterable iter1 env x
        let _ ← runOwn (.compStart (.ListComp elt [⟨target, iter, ifs, 0⟩, ⟨target1, iter1, ifs1, 0⟩] scope pos) 1 (← holding [x] (pyIter x)) acc env) env) (fun Cc acc => ?_) hs (fun it acc env => ?_)
  rotate_left
  · unfold compTurn
    simp only [List.getElem?_cons_zero, List.getElem?_cons_succ, bne_self_eq_false, Bool.false_eq_true, if_false, bind_assoc, pure_bind]
    rfl
  exact RAct_loop ok h1 N1 (hi1 Cc) (ht1 Cc) hg1 (hc1 Cc) (fun acc env => do let _ ← call (.builtin "list.append") [acc, ← eval elt env]) (RAct_emit (he Cc)) (hs1 Cc) rfl fun _ _ _ => by rfl

theorem RE_comp {elt : PySem.Expr} {gens : List Comprehension} {scope : Scope} {pos : Pos} {f : D} (h : RComp C d env elt gens scope pos f) (hf : firstAsync gens = false) : RE C d env (.ListComp elt gens scope pos) f := by
  intro me mh mv mh' hd ρ A s Q E ao I so F hQ
  rw [eval_ListComp, hf]
  exact h.run (use := none) hd ao I so F (fun _ => hQ) fun u e => by cases e

set_option tactic.hygienic true in
theorem RS_assignComp (ok : C.Ok) {x : Nat} {n : Str} {p spos : Pos} {elt : PySem.Expr} {gens : List Comprehension} {scope : Scope} {pos : Pos} {f : D} (hx : C.tbl[x]? = some n) (hk : env.kindOf n = some .local)
    (h : RComp C d env elt gens scope pos f) (hf : firstAsync gens = false) (hsw : swapsWith (.ListComp elt gens scope pos) (some (.Name n p)) spos.line env = pure true) :
    RS C d env (exec (.Assign [.Name n p] (.ListComp elt gens scope pos) spos) env) (dAsg x f) := by
  intro me mh fl me' mh' hd ρ A s Q E ao I so F hQ
  unfold dAsg at hd
  split at hd
  · rename_i v mh1 hd1
    cases hd
    rw [exec_Assign_Name_used _ _ _ _ hsw]
    refine wpAny_bind (wpAny_standAt (wpAny_bind ?_))
    show wpAny _ A (do let _ ← comprehension (.ListComp elt gens scope pos) scope env _ (newList []) (firstAsync gens) (firstIter gens env) (some (assign (.Name n p) env))) _ _ s
    rw [hf]
    have key : wpAny C.M A (comprehension (.ListComp elt gens scope pos) scope env (firstIterPos gens pos) (newList []) false (firstIter gens env) (some (assign (.Name n p) env))) (fun _ s' => Q .next s') E s := by
      refine h.run (use := some (assign (.Name n p) env)) (Q := fun _ s' => Q .next s') hd1 ao I so F (fun e => by cases e) ?_
      intro u hu v' ρ1 s1 x1 I1 so1 v1 Cc m hm hc1 hc2 hc3 hc4
      cases hu
      have F1 := F.ext0 x1
      refine wpAny_assign_Name (storeG ok (G := [env.locals]) hx (.inl ⟨hk, by simp⟩) I1 so1 F1 v1 fun s2 x2 I2 so2 F2 => ?_)
      have hne : Cc ∉ [env.locals] := fun hm => hc3 (by simp at hm; subst hm; simp [fa])
      have hm2 : s2.heap.Ns Cc m := Ns.keep1 hm fun o e => x2.keep Cc o e (not_has_ids hc1) (I1.not_x hc2) hne
      refine ⟨m, hm2, fun h' hsb => hQ _ ρ1 _ ?_ (I2.ext hc1 hc2 hsb.extBut) (so2.heap _ _) ?_ rfl⟩
      · exact (x1.wide.trans (x2.more (fun a ha => .inl (by simp at ha; subst ha; simp [fa])))).step hc4 hsb.extBut
      · exact F2.keep (.refl _) (fun a ha o e => hsb.extBut a o (fun z => hc3 (z ▸ ha)) e) fun a ha => (F2.out a ha).1
    exact wpAny_bind (wpAny_mono key (fun _ _ q => wpAny_pure (wpAny_pure q)) fun _ _ e => e)
  · cases hd

end Mine

namespace Mine
variable {C : Cx} {d : Nat} {env : Env}

set_option tactic.hygienic true in
theorem AttrsR.look {ρ : Wd} {l : List (Str × MV)} {es : List DictEntry} (h : AttrsR ρ l es) (name : Str) : match l.lookup name with
    | some mv => ∃ v, getL name es = some (some v) ∧ VR ρ mv v
    | none => getL name es = some none ∧ es.any (·.refKey) = false := by
  induction h with
  | nil => simp [getL]
  | @cons k mv e l es hk hv _ ih =>
    obtain ⟨t, hk⟩ := hk
    rw [List.lookup_cons]
    by_cases e1 : name = k
    · subst e1
      have : e.key.isStr name = true := by rw [hk]; simp [Value.isStr]
      simp only [beq_self_eq_true]
      exact ⟨e.val, by unfold getL; rw [List.find?_cons, this], hv⟩
    · have h1 : (name == k) = false := by simpa using e1
      have h2 : e.key.isStr name = false := by rw [hk]; simp only [Value.isStr]; simpa using fun z => e1 z.symm
      have h3 : e.refKey = false := by unfold DictEntry.refKey; rw [hk]
      have hg : getL name (e :: es) = getL name es := by unfold getL; rw [List.find?_cons, h2]; simp [h3]
      rw [h1]
      simp only
      split
      · rename_i mv' q
        rw [q] at ih
        rw [hg]; exact ih
      · rename_i q
        rw [q] at ih
        rw [hg]
        exact ⟨ih.1, by simp [h3]; simpa using ih.2⟩
set_option tactic.hygienic true in
theorem NsO.look {ρ : Wd} {l : List (Str × MV)} {o : Obj} (h : NsO ρ l o) (name : Str) : match l.lookup name with
    | some mv => ∃ v, lookIn name o = some (some v) ∧ VR ρ mv v
    | none => lookIn name o = some none := by
  obtain ⟨es, n, rfl, r⟩ := h
  have := r.look name
  rw [lookIn_dict]
  split
  · rename_i mv e
    rw [e] at this
    exact this
  · rename_i e
    rw [e] at this
    exact this.1
noncomputable def updA : List (Str × MV) → Str → MV → List (Str × MV)
  | [], x, v => [(x, v)]
  | (y, w) :: r, x, v => if y = x then (y, v) :: r else (y, w) :: updA r x v
theorem AttrsR.put {ρ : Wd} {l : List (Str × MV)} {es : List DictEntry} (h : AttrsR ρ l es) {name : Str} {hsh : Int} {t : Tok} {mv : MV} {v : Value} (hv : VR ρ mv v) : AttrsR ρ (updA l name mv) (putL name hsh (.str name t) v es) := by
  induction h with
  | nil => exact .cons ⟨t, rfl⟩ hv .nil
  | @cons k mw e l es hk hw hr ih =>
    obtain ⟨t', hk⟩ := hk
    unfold updA putL
    by_cases e1 : k = name
    · subst e1
      have : e.key.isStr k = true := by rw [hk]; simp [Value.isStr]
      rw [if_pos rfl, if_pos this]
      exact .cons ⟨t', hk⟩ hv hr
    · have h2 : e.key.isStr name = false := by rw [hk]; simp only [Value.isStr]; simpa using e1
      rw [if_neg e1, if_neg (by rw [h2]; decide)]
      exact .cons ⟨t', hk⟩ hw ih
theorem AttrsR.len {ρ : Wd} {l : List (Str × MV)} {es : List DictEntry} (h : AttrsR ρ l es) : es.length = l.length := by
  induction h with
  | nil => rfl
  | cons _ _ _ ih => simp [ih]

theorem inst_at {ρ : Wd} {mh : MH} {h : Heap} (I : Inv C ρ mh h) {i c dd : Nat} {it : Option (List MV)} {l : List (Str × MV)} (hi : mh[i]? = some (.inst c dd it)) (hdd : mh[dd]? = some (.attrs l)) {x : Addr} (hx : ρ.ids[i]? = some x) :
    ∃ ox od, InstAt h x ox c (some od) ∧ NsO ρ l od := by
  obtain ⟨o, ho, r⟩ := I.at hi hx
  cases it with
  | none =>
    obtain ⟨da, hda, rfl⟩ := r
    obtain ⟨od, hod, rd⟩ := I.at hdd hda
    exact ⟨_, od, ⟨ho, rfl, rfl, hod⟩, rd⟩
  | some ms =>
    obtain ⟨da, vs, n, hda, rfl, _⟩ := r
    obtain ⟨od, hod, rd⟩ := I.at hdd hda
    exact ⟨_, od, ⟨ho, rfl, rfl, hod⟩, rd⟩

inductive GaOk (K : Frag) (c : Addr) : String → Prop where
  | obj : GaOk K c "object.__getattribute__"
  | lst : mroIn K c (.type "list") = some true → GaOk K c "list.__getattribute__"
theorem GaOk.canon {K : Frag} {c : Addr} {g : String} (h : GaOk K c g) : (Manifest.canonical g != "object.__getattribute__") = false := by cases h <;> decide +kernel
structure PlainCls (K : Frag) (c : Addr) : Prop where
  ga : ∃ g, findIn K (.ref c) "__getattribute__" = some (some (.builtin g)) ∧ GaOk K c g
  gt : findIn K (.ref c) "__getattr__" = some none

theorem check_mosP {M : Model} {A : Around} {E : Value → Shared → Prop} {s : Shared} {i owner n : String} {self : Value} {rest : List Value} {kw : List (Str × Value)} {Q : Unit → Shared → Prop}
    (hk : builtinKind i = some .slot ∨ builtinKind i = some .method) (hs : splitId i = some (owner, n)) (hi : Looks M s.heap (isInstance self (.type owner)) true) (ha : argsOk i ⟨self :: rest, kw⟩) (q : Q () s) :
    wpAny M A (checkBuiltinCall i ⟨self :: rest, kw⟩) Q E s := by
  rcases hk with hk | hk <;>
  · simp only [checkBuiltinCall, hk, hs]
    refine wpAny_bind (hi.here ?_)
    simp only [Bool.not_true, Bool.false_eq_true, if_false]
    cases hsig : Manifest.signature? i with
    | none => exact wpAny_pure q
    | some sig =>
      simp only [argsOk, hsig] at ha
      have h2 : Bind.checkArgs i sig ⟨self :: rest, kw⟩ = pure () := ha
      show wpAny M A (Bind.checkArgs i sig ⟨self :: rest, kw⟩) Q E s
      rw [h2]; exact wpAny_pure q
theorem call_subP {id n : String} {B : Builtin} {x : Addr} {rest : List Value} {prog : Program} {w : World} {A : Around} {s : Shared} {Q : Value → Shared → Prop} {E : Value → Shared → Prop} (hi : Looks (model prog w) s.heap (isInstance (.ref x) (.type "list")) true)
    (hk : builtinKind id = some .slot ∨ builtinKind id = some .method) (hs : splitId id = some ("list", n)) (hp : plainId id = true) (he : entryFor table id = some B) (ha : argsOk id ⟨.ref x :: rest, []⟩)
    (hB : wpAny (model prog w) A.in1 (B ⟨.ref x :: rest, []⟩) (fun fin s' => ∃ v, fin = .done (.ret v) ∧ Q v s') E s) : wpAny (model prog w) A (call (.builtin id) (.ref x :: rest)) Q E s := by
  refine wpAny_call (codeAny_call_builtin hp he (check_mosP hk hs hi ha (wpAny_mono hB (fun fin s' h' => ?_) fun _ _ h' => h')))
  obtain ⟨v, rfl, hv⟩ := h'; exact hv
theorem get_valueP {K : Frag} {c x : Addr} {ox : Obj} {od : Option Obj} {name : Str} {ex : Bool} {v : Value} {prog : Program} {w : World} {A : Around} {s : Shared} {Q : Value → Shared → Prop} {E : Value → Shared → Prop} (X : K.In s.heap) (I : InstAt s.heap x ox c od) (hp : PlainCls K c)
    (hf : findObj K c od name = some (.value v)) (hh : handedIn v = true) (h : Q v { s with toks := s.toks + 1 }) : wpAny (model prog w) A (getAttr (.ref x) name ex) Q E s := by
  obtain ⟨g, hg, gok⟩ := hp.ga
  cases gok with
  | obj => exact get_value X I hg hf hh h
  | lst hl =>
    obtain ⟨hp', gg, d, t, os⟩ := s
    have L0 := I.type (M := model prog w)
    have L1 := looks_findIn (M := model prog w) X hg
    have Lk := looks_findIn (M := model prog w) X hp.gt
    have LF := looks_find (M := model prog w) X I hf
    unfold getAttr getAttrBy
    refine wpAny_bind (wpAny_mkText (wpAny_holding (wpAny_bind (L0.at (wpAny_bind (L1.at ?_))))))
    show wpAny _ _ (getAttrByItsOwn (.ref x) (.str name t) (.ref c) (.builtin "list.__getattribute__") true ex) _ _ _
    unfold getAttrByItsOwn hookBefore callGetattribute boundAndCalled
    refine wpAny_bind ?_
    show wpAny _ _ (typeLookup (.ref c) "__getattr__") _ _ _
    refine Lk.at ?_
    refine wpAny_bind (wpAny_attempt (wpAny_holding ?_))
    rw [show onTheHeap (.builtin "list.__getattribute__") = false from rfl, Bool.and_false, if_neg Bool.false_ne_true]
    refine wpAny_bind (wpAny_of_eq (PySem.F.slot_list_getattribute.bind _) ?_)
    refine wpAny_mono (Q := fun v' s' => v' = v ∧ s' = ⟨hp', gg, d, t + 1, os⟩) (E := fun _ _ => False) ?_ (fun v' s' hv => ?_) fun _ _ z => z.elim
    · have hi : Looks (model prog w) hp' (isInstance (.ref x) (.type "list")) true := L0.andThen (looks_mroIn X hl)
      have hk : builtinKind "list.__getattribute__" = some .slot ∨ builtinKind "list.__getattribute__" = some .method := .inl (by decide +kernel)
      have hsp : splitId "list.__getattribute__" = some ("list", "__getattribute__") := by decide +kernel
      refine call_subP hi hk hsp PySem.F.slot_list_getattribute.plain am_entry_list_getattribute (PySem.F.args_list_getattribute_2 _ _) ?_
      show wpAny _ _ (Builtin.«object.__getattribute__» ⟨[.ref x, .str name t], []⟩) _ _ _
      unfold Builtin.«object.__getattribute__»
      have hs : slotArgs "__getattribute__" 1 ⟨[.ref x, .str name t], []⟩ = pure (.ref x, [.str name t]) := rfl
      rw [hs]
      refine wpAny_bind (wpAny_pure ?_)
      dsimp only
      refine wpAny_bind (wpAny_pure (wpAny_bind (L0.at ?_)))
      refine wpAny_bind (LF.at ?_)
      exact wpAny_pure ⟨_, rfl, rfl, rfl⟩
    · obtain ⟨rfl, rfl⟩ := hv
      dsimp only
      rw [handedOut_of hh]; exact wpAny_pure h

theorem method_fnP {K : Frag} {c x f : Addr} {ox : Obj} {od : Option Obj} {name : Str} {pl : Sem Bool} {prog : Program} {w : World} {A : Around} {s : Shared} {Q : Value × List Value → Shared → Prop} {E : Value → Shared → Prop} (X : K.In s.heap) (I : InstAt s.heap x ox c od) (hp : PlainCls K c)
    (hf : findIn K (.ref c) name = some (some (.ref f))) (ht : typeIn K (.ref f) = some (.type "function")) (hs : shadowIn od name = some false) (h : Q (.ref f, [.ref x]) s) :
    wpAny (model prog w) A (getMethod (.ref x) name pl) Q E s := by
  obtain ⟨g, hg, gok⟩ := hp.ga
  have hcan := gok.canon
  unfold getMethod specialOf
  refine wpAny_bind (wpAny_bind (I.type.here ((looks_findIn X hg).here ?_)))
  dsimp only
  rw [hcan, if_neg (by decide)]
  refine wpAny_bind (wpAny_bind (I.type.here ((looks_findIn X hp.gt).here ?_)))
  refine wpAny_bind (wpAny_bind (I.type.here ((looks_findIn X hf).here (wpAny_bind ((looks_typeIn X ht).here ?_)))))
  rw [if_neg (by decide +kernel)]
  refine wpAny_bind (wpAny_loadPart I.at_ ?_)
  have hd := I.dict
  cases e : ox.dict with
  | none => exact wpAny_bind (wpAny_rule (wpAny_pure h))
  | some dx =>
    cases od with
    | none => rw [e] at hd; exact hd.elim
    | some o =>
      rw [e] at hd
      obtain ⟨r, a, b⟩ := Option.map_eq_some_iff.mp hs
      refine wpAny_bind (wpAny_bind (wpAny_loadPart hd ?_))
      rw [nsLook_of a]
      refine wpAny_pure ?_
      rw [b]
      exact wpAny_bind (wpAny_rule (wpAny_pure h))

noncomputable def oAttr (c : Addr) (name : Str) : Op1 := fun a mh => match a with
  | .ref i => (match mh[i]? with
    | some (.inst c' dd _) => if c' = c then (match mh[dd]? with
      | some (.attrs l) => (match l.lookup name with | some v => some (v, mh) | none => none)
      | _ => none) else none
    | _ => none)
  | _ => none

theorem handed_of {ρ : Wd} {m : MV} {v : Value} (h : VR ρ m v) : handedIn v = true := by
  cases m with
  | none => cases h.none_; rfl
  | bool b => cases h.bool_; rfl
  | int i => obtain ⟨t, rfl⟩ := h.int_; rfl
  | str x => obtain ⟨t, rfl⟩ := h.str_; rfl
  | ref i => obtain ⟨a, _, rfl⟩ := h.ref_; rfl
  | tup ms => obtain ⟨a, _, _, _, rfl, _⟩ := h.tup_; rfl
  | lst ms => obtain ⟨a, _, _, _, rfl, _⟩ := h.lst_; rfl
  | rng x y => obtain ⟨a, _, _, _, _, rfl⟩ := h.rng_; rfl
  | strm x t => obtain ⟨a, _, rfl, _⟩ := h.strm_; rfl

set_option tactic.hygienic true in
theorem rAttr (ok : C.Ok) {c : Addr} {name : Str} {expr : Bool} (hp : PlainCls C.K c) (hdd : hasDictIn C.K c = true) (hf : findIn C.K (.ref c) name = some none) :
    RO1 C d (fun v => getAttr v name expr) (oAttr c name) := by
  intro a mh mv mh' h ρ A s Q E va ao I so ha hQ
  unfold oAttr at h
  split at h
  · split at h
    · rename_i i c' dd it hi
      split at h
      · rename_i hc
        subst hc
        split at h
        · rename_i l hl
          split at h
          · rename_i v hv
            cases h
            obtain ⟨x, hx, rfl⟩ := ha.ref_
            obtain ⟨ox, od, IA, ns⟩ := inst_at I hi hl hx
            have q := ns.look name
            rw [hv] at q
            obtain ⟨rv, h1, h2⟩ := q
            exact get_valueP (I.k ok) IA hp (findObj_own hdd hf rfl h1) (handed_of h2) (hQ.same I so _ h2 _)
          · cases h
        · cases h
      · cases h
    · cases h
  · cases h

theorem RE_attr {value : PySem.Expr} {attr : Str} {pos : Pos} {f : D} {o : Op1} (h : RE C d env value f) (ho : RO1 C d (fun v => getAttr v attr true) o)
    (he : eval (.Attribute value attr pos) env = (do
      let o ← eval value env
      standAt pos.atName
      let r ← holding [o] (getAttr o attr true)
      letTemporaryGo value o r
      pure r) := by with_unfolding_all rfl) : RE C d env (.Attribute value attr pos) (dOp1 o f) := by
  intro me mh mv mh' hf ρ A s Q E ao I so F hQ
  obtain ⟨a, mh1, h1, h2⟩ := dOp1_some hf
  exact Attribute_any_ (h h1 ao I so F fun v ρ1 s1 x1 I1 so1 v1 => ho h2 ao I1 so1 v1 fun v ρ2 s2 x2 I2 so2 v2 => hQ _ _ _ (x1.trans x2) I2 so2 v2) he

noncomputable def dMeth (c : Addr) (name : Str) (den : DF) (f : D) (g : DL) : D := fun me mh => match f me mh with
  | some (.ref i, mh1) => (match mh1[i]? with
    | some (.inst c' dd _) => if c' = c then (match mh1[dd]? with
      | some (.attrs l) => (match l.lookup name with
        | some _ => none
        | none => (match g me mh1 with
          | some (vs, mh2) => den (.ref i :: vs) mh2
          | none => none))
      | _ => none) else none
    | _ => none)
  | _ => none

set_option tactic.hygienic true in
theorem dMeth_some {c : Addr} {name : Str} {den : DF} {f : D} {g : DL} {me : ME} {mh : MH} {r : MV × MH} (h : dMeth c name den f g me mh = some r) :
    ∃ i mh1 dd it l vs mh2, f me mh = some (.ref i, mh1) ∧ mh1[i]? = some (.inst c dd it) ∧ mh1[dd]? = some (.attrs l) ∧ l.lookup name = none ∧ g me mh1 = some (vs, mh2) ∧ den (.ref i :: vs) mh2 = some r := by
  unfold dMeth at h
  split at h
  · rename_i i mh1 h1
    split at h
    · rename_i c' dd it hi
      split at h
      · rename_i hc
        subst hc
        split at h
        · rename_i l hl
          split at h
          · cases h
          · rename_i hno
            split at h
            · rename_i vs mh2 h2
              exact ⟨i, mh1, dd, it, l, vs, mh2, h1, hi, hl, hno, h2, h⟩
            · cases h
        · cases h
      · cases h
    · cases h
  · cases h

theorem getMeth_ok (ok : C.Ok) {name : Str} {c fA : Addr} (hp : PlainCls C.K c) (hf : findIn C.K (.ref c) name = some (some (.ref fA))) (ht : typeIn C.K (.ref fA) = some (.type "function"))
    {ρ : Wd} {mh : MH} {s : Shared} {i dd : Nat} {it : Option (List MV)} {l : List (Str × MV)} {x : Addr} {A : Around} {pl : Sem Bool} {Q : Value × List Value → Shared → Prop} {E : Value → Shared → Prop}
    (I : Inv C ρ mh s.heap) (hi : mh[i]? = some (.inst c dd it)) (hl : mh[dd]? = some (.attrs l)) (hno : l.lookup name = none) (hx : ρ.ids[i]? = some x) (h : Q (.ref fA, [.ref x]) s) : wpAny C.M A (getMethod (.ref x) name pl) Q E s := by
  obtain ⟨ox, od, IA, ns⟩ := inst_at I hi hl hx
  have q := ns.look name
  rw [hno] at q
  simp only at q
  exact method_fnP (I.k ok) IA hp hf ht (by show (lookIn name od).map _ = _; rw [q]; rfl) h

theorem RE_meth (ok : C.Ok) {o : PySem.Expr} {name : Str} {apos pos : Pos} {e : PySem.Expr} {rest : List PySem.Expr} {pl : Sem Bool} {c fA : Addr} {den : DF} {f : D} {g : DL}
    (hp : PlainCls C.K c) (hf : findIn C.K (.ref c) name = some (some (.ref fA))) (ht : typeIn C.K (.ref fA) = some (.type "function")) (hd : IsDef C fA) (hr : RF C d fA den)
    (ho : RE C d env o f) (ha : RArgs C d env (e :: rest) g) (hbase : attributeBase o name env (eval o env) = eval o env)
    (he : eval (.Call (.Attribute o name apos) (e :: rest) [] pos) env = (do
      let ov ← attributeBase o name env (eval o env)
      standAt apos.atName
      let (f, first) ← holding [ov] (getMethod ov name pl)
      callWith pos f first (backTo pos (starEach (e :: rest) env)) []) := by rfl)
    (hs : starEach (e :: rest) env = (false, eval e env) :: starEach rest env := by rfl) : RE C d env (.Call (.Attribute o name apos) (e :: rest) [] pos) (dMeth c name den f g) := by
  intro me mh mv mh' h ρ A s Q E ao I so F hQ
  obtain ⟨i, mh1, dd, it, l, vs, mh2, h1, hi, hl, hno, h2, h3⟩ := dMeth_some h
  rw [he, hbase]
  refine wpAny_bind (ho h1 ao I so F fun rv ρ1 s1 x1 I1 so1 v1 => ?_)
  obtain ⟨x, hx, rfl⟩ := v1.ref_
  refine wpAny_bind (wpAny_standAt (wpAny_bind (wpAny_holding (getMeth_ok ok hp hf ht I1 hi hl hno hx ?_))))
  obtain ⟨ob, fd, hk, hdat⟩ := hd
  have hg := ha pos h2 (A := A) (E := E) (Q := fun ws s2 => (s2.heap.get? fA = some ob ∧ ob.data = .func fd) ∧ wpAny C.M A (call (.ref fA) ([.ref x] ++ ws)) Q E s2) ao I1 so1 (F.ext0 x1)
    fun ws ρ2 s2 x2 I2 so2 v2 => ⟨⟨(I2.k ok) _ _ hk, hdat⟩, wpAny_call (hr h3 ao I2 so2 (.cons (.ref' (pre_get x2.pre hx)) v2) fun v ρ3 s3 x3 I3 so3 v3 => hQ v ρ3 s3 (x1.trans (x2.trans x3)) I3 so3 v3)⟩
  dsimp only
  rw [hs] at hg ⊢
  exact Calls.callWith_function (o := ob) (fd := fd) (Calls.evalArgs_plain hg)

theorem RE_meth0 (ok : C.Ok) {o : PySem.Expr} {name : Str} {apos pos : Pos} {pl : Sem Bool} {c fA : Addr} {den : DF} {f : D}
    (hp : PlainCls C.K c) (hf : findIn C.K (.ref c) name = some (some (.ref fA))) (ht : typeIn C.K (.ref fA) = some (.type "function")) (hd : IsDef C fA) (hr : RF C d fA den)
    (ho : RE C d env o f) (hbase : attributeBase o name env (eval o env) = eval o env)
    (he : eval (.Call (.Attribute o name apos) [] [] pos) env = (do
      let ov ← attributeBase o name env (eval o env)
      standAt apos.atName
      let (f, first) ← holding [ov] (getMethod ov name pl)
      callWith pos f first (backTo pos (starEach [] env)) []) := by rfl) : RE C d env (.Call (.Attribute o name apos) [] [] pos) (dMeth c name den f dL0) := by
  intro me mh mv mh' h ρ A s Q E ao I so F hQ
  obtain ⟨i, mh1, dd, it, l, vs, mh2, h1, hi, hl, hno, h2, h3⟩ := dMeth_some h
  cases h2
  rw [he, hbase]
  refine wpAny_bind (ho h1 ao I so F fun rv ρ1 s1 x1 I1 so1 v1 => ?_)
  obtain ⟨x, hx, rfl⟩ := v1.ref_
  refine wpAny_bind (wpAny_standAt (wpAny_bind (wpAny_holding (getMeth_ok ok hp hf ht I1 hi hl hno hx ?_))))
  obtain ⟨ob, fd, hk, hdat⟩ := hd
  dsimp only
  refine Calls.callWith_function (o := ob) (fd := fd) (PyProof.Rows.evalArgs_none ⟨⟨(I1.k ok) _ _ hk, hdat⟩, ?_⟩)
  exact wpAny_call (hr h3 ao I1 so1 (.cons (.ref' hx) .nil) fun v ρ3 s3 x3 I3 so3 v3 => hQ v ρ3 s3 (x1.trans x3) I3 so3 v3)

end Mine

namespace Mine
variable {C : Cx} {d : Nat} {env : Env}

noncomputable def oIn : Op2 := fun a b mh => match b with
  | .lst _ => (match toD b, toD a with
    | some (.list xs), some y => if SeqAt.shaped (.list xs) && SeqAt.shaped y then some (.bool (xs.any fun z => PyData.eqv z y), mh) else none
    | _, _ => none)
  | .str x => (match a with | .str y => some (.bool !(Builtin.Str.occurrences x y 0 x.length 1).isEmpty, mh) | _ => none)
  | _ => none
theorem shaped_list {xs : List PyData} (h : SeqAt.shaped (.list xs) = true) : PyData.canLayAll0 xs = true ∧ PyData.depthAll xs ≤ 64 := by
  have h1 : PyData.canLayAll0 xs = true := SeqAt.canLay_of_shaped h
  have h2 := SeqAt.depth_of_shaped h
  refine ⟨h1, ?_⟩
  have : PyData.depth (.list xs) = PyData.depthAll xs + 1 := rfl
  lia
theorem inRoom {A : Around} (ao : Aok d A) {m n : Nat} (h : m ≤ 64) : A.units + 1 + min m n < cLine := by
  have := ao.units
  have h2 : min m n ≤ m := Nat.min_le_left _ _
  show A.units + 1 + min m n < 9900
  lia
set_option tactic.hygienic true in
theorem rIn : RO2 C d (compareOp .In) oIn := by
  intro a b mh mv mh' h ρ A s Q E va vb ao I so ha hb hQ
  unfold oIn at h
  split at h
  · split at h
    · rename_i xs y hx hy
      split at h
      · rename_i hs
        cases h
        obtain ⟨as, ra⟩ := toD_reads I _ _ _ hb hx
        obtain ⟨bs, rb⟩ := toD_reads I _ _ _ ha hy
        have q := Bool.and_eq_true_iff.mp hs
        exact PySem.SeqAt.in_list_reads ra rb (shaped_list q.1).1 (SeqAt.canLay_of_shaped q.2) (inRoom ao (shaped_list q.1).2) (hQ.here I so _ .bool')
      · cases h
    · cases h
  · split at h
    · cases h
      obtain ⟨t, rfl⟩ := ha
      obtain ⟨u, rfl⟩ := hb
      exact PyProof.Rows.in_str (hQ.here I so _ .bool')
    · cases h
  · cases h
noncomputable def RV (C : Cx) (d : Nat) (fv : Value) (den : DF) : Prop :=
  ∀ {mvs mh mv mh'}, den mvs mh = some (mv, mh') → ∀ {ρ A s vs Q E}, Aok d A → Inv C ρ mh s.heap → SOk C s → VRs ρ mvs vs →
    Post C ρ s.heap mh' mv Q → wpAny C.M A (call fv vs) Q E s

set_option tactic.hygienic true in
theorem RE_bcall (ok : C.Ok) {g : Str} {p pos : Pos} {e : PySem.Expr} {rest : List PySem.Expr} {id : String} {den : DF} {a : DL} (hg : C.mg g = none) (hb : C.mb g = some (.builtin id)) (hx : env.kindOf g = some .globalImplicit) (hd : (g == ("__debug__" : Str)) = false)
    (hr : RV C d (.builtin id) den) (ha : RArgs C d env (e :: rest) a) (he : starEach (e :: rest) env = (false, eval e env) :: starEach rest env := by rfl) (hplain : (backTo pos (starEach rest env)).any (·.1) = false := by rfl) :
    RE C d env (.Call (.Name g p) (e :: rest) [] pos) (dCall den a) := by
  intro me mh mv mh' h ρ A s Q E ao I so F hQ
  unfold dCall at h
  split at h
  · rename_i vs mh1 h1
    refine wpAny_Call_NameR (eval_bui ok hg hb hx hd I F ?_)
    exact PyProof.Rows.callWith_builtin1 (ha pos h1 ao I so F fun ws ρ1 s1 x1 I1 so1 v1 => hr h ao I1 so1 v1 fun v ρ2 s2 x2 I2 so2 v2 => hQ v ρ2 s2 (x1.trans x2) I2 so2 v2) he hplain
  · cases h
set_option tactic.hygienic true in
theorem RE_tcall (ok : C.Ok) {g : Str} {p pos : Pos} {e : PySem.Expr} {rest : List PySem.Expr} {T : String} {den : DF} {a : DL} (hg : C.mg g = none) (hb : C.mb g = some (.type T)) (hx : env.kindOf g = some .globalImplicit) (hd : (g == ("__debug__" : Str)) = false)
    (hr : RV C d (.type T) den) (ha : RArgs C d env (e :: rest) a) (he : starEach (e :: rest) env = (false, eval e env) :: starEach rest env := by rfl) (hplain : (backTo pos (starEach rest env)).any (·.1) = false := by rfl) :
    RE C d env (.Call (.Name g p) (e :: rest) [] pos) (dCall den a) := by
  intro me mh mv mh' h ρ A s Q E ao I so F hQ
  unfold dCall at h
  split at h
  · rename_i vs mh1 h1
    refine wpAny_Call_NameR (eval_bui ok hg hb hx hd I F ?_)
    have hg' := ha pos h1 (A := A) (E := E) (Q := fun ws s2 => wpAny C.M A (call (.type T) ([] ++ ws)) Q E s2) ao I so F fun ws ρ1 s1 x1 I1 so1 v1 => hr h ao I1 so1 v1 fun v ρ2 s2 x2 I2 so2 v2 => hQ v ρ2 s2 (x1.trans x2) I2 so2 v2
    rw [he] at hg' ⊢
    exact PySem.callWith_type (by show (false || (backTo pos (starEach rest env)).any (·.1)) = false; rw [hplain]; rfl) (Calls.evalArgs_plain hg')
  · cases h

noncomputable def fRange : DF := fun mvs mh => match mvs with
  | [.int n] => some (.rng 0 n, mh)
  | [.int a, .int b] => some (.rng a b, mh)
  | _ => none
set_option tactic.hygienic true in
theorem vRange : RV C d (.type "range") fRange := by
  intro mvs mh mv mh' h ρ A s vs Q E ao I so hv hQ
  unfold fRange at h
  split at h
  · rename_i n
    cases h
    cases hv with
    | cons h1 h2 =>
      cases h2
      obtain ⟨t, rfl⟩ := h1.int_
      exact call_range_1 (hQ.newF I so (o := rngO 0 n s.toks t (s.toks + 1)) rfl (.rng' mem_froze) _)
  · rename_i a b
    cases h
    cases hv with
    | cons h1 h2 =>
      cases h2 with
      | cons h2 h3 =>
        cases h3
        obtain ⟨t, rfl⟩ := h1.int_
        obtain ⟨u, rfl⟩ := h2.int_
        exact call_range_2 (hQ.newF I so (o := rngO a b t u s.toks) rfl (.rng' mem_froze) _)
  · cases h

noncomputable def fLen : DF := fun mvs mh => match mvs with
  | [.ref i] => (match mh[i]? with
    | some (.list vs) => if vs.length < 1000000 then some (.int vs.length, mh) else none
    | _ => none)
  | [.lst vs] => if vs.length < 1000000 then some (.int vs.length, mh) else none
  | [.str x] => if x.length ≤ sizeLine then some (.int x.length, mh) else none
  | _ => none
set_option tactic.hygienic true in
theorem vLen : RV C d (.builtin "len") fLen := by
  intro mvs mh mv mh' h ρ A s vs Q E ao I so hv hQ
  unfold fLen at h
  split at h
  · cases hv with
    | cons h1 h2 =>
      cases h2
      obtain ⟨a, ea, rfl⟩ := h1.ref_
      split at h
      · rename_i i ms hi
        split at h
        · rename_i hl
          cases h
          obtain ⟨o, ho, ws, n, rfl, r⟩ := I.at hi ea
          refine PySem.Calls.call_len_list (isList_of ho) (by simp [r.length]; lia) ?_
          simp only [List.size_toArray, r.length]
          exact hQ.same I so _ .int' _
        · cases h
      · cases h
  · split at h
    · rename_i vs hl
      cases h
      cases hv with
      | cons h1 h2 =>
        cases h2
        obtain ⟨a, ws, n, ea, rfl, r⟩ := h1.lst_
        refine PySem.Calls.call_len_list (isList_of (I.fz _ ea)) (by simp [r.length]; lia) ?_
        simp only [List.size_toArray, r.length]
        exact hQ.same I so _ .int' _
    · cases h
  · split at h
    · rename_i x hl
      cases h
      cases hv with
      | cons h1 h2 =>
        cases h2
        obtain ⟨t, rfl⟩ := h1.str_
        refine PySem.P.len_str ?_ (hQ.same I so _ .int' _)
        have : sizeLine = 16777216 := rfl
        lia
    · cases h
  · cases h

noncomputable def RGet (C : Cx) (name : Str) (id : String) (sel : MV → MH → Bool) : Prop :=
  ∀ {a mh}, sel a mh = true → ∀ {ρ s rv A Q E pl}, Inv C ρ mh s.heap → VR ρ a rv → Q (.builtin id, [rv]) s → wpAny C.M A (getMethod rv name pl) Q E s
noncomputable def dBMeth (sel : MV → MH → Bool) (den : DF) (f : D) (g : DL) : D := fun me mh => match f me mh with
  | some (a, mh1) => if sel a mh1 then (match g me mh1 with
    | some (vs, mh2) => den (a :: vs) mh2
    | none => none) else none
  | none => none
set_option tactic.hygienic true in
theorem RE_bmeth {o : PySem.Expr} {name : Str} {apos pos : Pos} {e : PySem.Expr} {rest : List PySem.Expr} {pl : Sem Bool} {id : String} {sel : MV → MH → Bool} {den : DF} {f : D} {g : DL}
    (hm : RGet C name id sel) (hr : RV C d (.builtin id) den) (ho : RE C d env o f) (ha : RArgs C d env (e :: rest) g) (hbase : attributeBase o name env (eval o env) = eval o env)
    (he : eval (.Call (.Attribute o name apos) (e :: rest) [] pos) env = (do
      let ov ← attributeBase o name env (eval o env)
      standAt apos.atName
      let (f, first) ← holding [ov] (getMethod ov name pl)
      callWith pos f first (backTo pos (starEach (e :: rest) env)) []) := by rfl)
    (hs : starEach (e :: rest) env = (false, eval e env) :: starEach rest env := by rfl) (hplain : (backTo pos (starEach rest env)).any (·.1) = false := by rfl) :
    RE C d env (.Call (.Attribute o name apos) (e :: rest) [] pos) (dBMeth sel den f g) := by
  intro me mh mv mh' h ρ A s Q E ao I so F hQ
  unfold dBMeth at h
  split at h
  · rename_i a mh1 h1
    split at h
    · rename_i hsel
      split at h
      · rename_i vs mh2 h2
        rw [he, hbase]
        refine wpAny_bind (ho h1 ao I so F fun rv ρ1 s1 x1 I1 so1 v1 => ?_)
        refine wpAny_bind (wpAny_standAt (wpAny_bind (wpAny_holding (hm hsel I1 v1 ?_))))
        dsimp only
        have hg := ha pos h2 (A := A) (E := E) (Q := fun ws s2 => wpAny C.M A (call (.builtin id) ([rv] ++ ws)) Q E s2) ao I1 so1 (F.ext0 x1)
          fun ws ρ2 s2 x2 I2 so2 v2 => hr h ao I2 so2 (.cons (v1.mono x2.pre) v2) fun v ρ3 s3 x3 I3 so3 v3 => hQ v ρ3 s3 (x1.trans (x2.trans x3)) I3 so3 v3
        rw [hs] at hg ⊢
        exact Calls.callWith_builtin (by show (false || (backTo pos (starEach rest env)).any (·.1)) = false; rw [hplain]; rfl) (Calls.evalArgs_plain hg)
      · cases h
    · cases h
  · cases h

noncomputable def selStr : MV → MH → Bool := fun a _ => match a with | .str _ => true | _ => false
noncomputable def selList : MV → MH → Bool := fun a mh => match a with | .ref i => (match mh[i]? with | some (.list _) => true | _ => false) | .lst _ => true | _ => false
set_option tactic.hygienic true in
theorem gList {name : Str} {id : String} (slot : Slot "list" name id) (hty : typeOf (.builtin id) = pure (.type "method_descriptor")) : RGet C name id selList := by
  intro a mh hs ρ s rv A Q E pl I hv h
  have key : ∀ {x : Addr} {ws : List Value} {n : Nat}, s.heap.get? x = some (listO ws n) → rv = .ref x → wpAny C.M A (getMethod rv name pl) Q E s := fun ho e => by
    subst e
    exact getMethod_builtin ⟨_, ho, rfl⟩ PySem.F.plainAttrs_list slot hty (fun a e => by cases e; exact ⟨_, ho, rfl⟩) h
  unfold selList at hs
  split at hs
  · split at hs
    · rename_i i vs hi
      obtain ⟨x, hx, rfl⟩ := hv.ref_
      obtain ⟨o, ho, ws, n, rfl, r⟩ := I.at hi hx
      exact key ho rfl
    · cases hs
  · obtain ⟨x, ws, n, hx, rfl, r⟩ := hv.lst_
    exact key (I.fz _ hx) rfl
  · cases hs
theorem gStr {name : Str} {id : String} (slot : Slot "str" name id) (hty : typeOf (.builtin id) = pure (.type "method_descriptor")) : RGet C name id selStr := by
  intro a mh hs ρ s rv A Q E pl I hv h
  unfold selStr at hs
  split at hs
  · obtain ⟨t, rfl⟩ := hv.str_
    exact getMethod_builtin (typeIs_str _ _ _) PySem.F.plainAttrs_str slot hty (fun a e => by cases e) h
  · cases hs

noncomputable def fAppend : DF := fun mvs mh => match mvs with
  | [.ref i, x] => (match mh[i]? with
    | some (.list vs) => if vs.length ≤ 100000 then some (.none, mh.set i (.list (vs ++ [x]))) else none
    | _ => none)
  | _ => none
set_option tactic.hygienic true in
theorem vAppend : RV C d (.builtin "list.append") fAppend := by
  intro mvs mh mv mh' h ρ A s vs Q E ao I so hv hQ
  unfold fAppend at h
  split at h
  · rename_i i x
    split at h
    · rename_i ms hi
      split at h
      · rename_i hl
        cases h
        cases hv with
        | cons h1 h2 =>
          cases h2 with
          | cons h2 h3 =>
            cases h3
            obtain ⟨a, ea, rfl⟩ := h1.ref_
            obtain ⟨o, ho, ws, n, rfl, r⟩ := I.at hi ea
            refine wpAny_list_append_plain (plain_of ho) (fun h' hp hs => ?_) (by simp [r.length]; exact Nat.le_trans hl (by decide))
            obtain ⟨n', hp⟩ := hp
            have hm := List.mem_of_getElem? ea
            exact hQ _ ρ { s with heap := h' } (Ext.set hm hs ⟨_, hp⟩) (I.set (mh_lt hi) ea hs.extBut hp ⟨ws ++ [_], n', by simp, r.append (.one h2)⟩) (so.heap _ _) .none'
      · cases h
    · cases h
  · cases h

noncomputable def fCount : DF := fun mvs mh => match mvs with
  | [.str x, .str y] => some (.int (Txt.count x y), mh)
  | _ => none
theorem vCount : RV C d (.builtin "str.count") fCount := by
  intro mvs mh mv mh' h ρ A s vs Q E ao I so hv hQ
  unfold fCount at h
  split at h
  · cases h
    cases hv with
    | cons h1 h2 =>
      cases h2 with
      | cons h2 h3 =>
        cases h3
        obtain ⟨t, rfl⟩ := h1.str_
        obtain ⟨u, rfl⟩ := h2.str_
        exact SC.count (hQ.same I so _ .int' _)
  · cases h

noncomputable def strsOf : List MV → Option (List Str)
  | [] => some []
  | .str x :: r => (strsOf r).map (x :: ·)
  | _ :: _ => none
theorem strsOf_vals {ρ : Wd} : ∀ {ms : List MV} {vs : List Value} {xs : List Str}, VRs ρ ms vs → strsOf ms = some xs → ∃ l : List (Str × Tok), vs = strValues l ∧ l.map (·.1) = xs
  | [], _, _, hv, h => by cases hv; simp [strsOf] at h; subst h; exact ⟨[], rfl, rfl⟩
  | m :: ms, _, xs, hv, h => by
    cases hv with
    | cons h1 h2 =>
      cases m with
      | str x =>
        obtain ⟨t, rfl⟩ := h1.str_
        simp only [strsOf] at h
        obtain ⟨ys, hy, rfl⟩ := Option.map_eq_some_iff.mp h
        obtain ⟨l, e1, e2⟩ := strsOf_vals h2 hy
        exact ⟨(x, t) :: l, by rw [e1]; rfl, by simp [e2]⟩
      | _ => simp [strsOf] at h
noncomputable def fJoin : DF := fun mvs mh => match mvs with
  | [.str x, .lst ms] => (match strsOf ms with
      | some xs => if JoinOk x xs then some (.str (Txt.join x xs), mh) else none
      | none => none)
  | _ => none
set_option tactic.hygienic true in
theorem vJoin : RV C d (.builtin "str.join") fJoin := by
  intro mvs mh mv mh' h ρ A s vs Q E ao I so hv hQ
  unfold fJoin at h
  split at h
  · split at h
    · rename_i x ms xs hx
      split at h
      · rename_i hj
        cases h
        cases hv with
        | cons h1 h2 =>
          cases h2 with
          | cons h2 h3 =>
            cases h3
            obtain ⟨t, rfl⟩ := h1.str_
            obtain ⟨a, ws, n, ea, rfl, r⟩ := h2.lst_
            obtain ⟨l, rfl, hl⟩ := strsOf_vals r hx
            exact SC.join (isList_of (I.fz _ ea)) hl hj fun t' k => hQ.same I so _ .str' _
      · cases h
    · cases h
  · cases h

end Mine

namespace Mine
variable {C : Cx} {d : Nat} {env : Env}

theorem mapSeq_listO (f : Array Value → Array Value) (ws : List Value) (n : Nat) : ∃ n', Obj.mapSeq f (listO ws n) = listO (f ws.toArray).toList n' := by
  simp only [Obj.mapSeq, Array.toArray_toList]
  exact ⟨_, rfl⟩

noncomputable def setI (a b v : MV) (mh : MH) : Option MH := match a, b with
  | .ref i, .int k => (match mh[i]? with
    | some (.list vs) => if 0 ≤ k ∧ k < vs.length ∧ k < 1000000000 then some (mh.set i (.list (vs.set k.toNat v))) else none
    | _ => none)
  | _, _ => none
set_option tactic.hygienic true in
theorem setI_ok {a b v : MV} {mh mh' : MH} (h : setI a b v mh = some mh') {ρ : Wd} {A : Around} {s : Shared} {Q : Unit → Shared → Prop} {E : Value → Shared → Prop} {va vb vv : Value}
    (I : Inv C ρ mh s.heap) (so : SOk C s) (ha : VR ρ a va) (hb : VR ρ b vb) (hv : VR ρ v vv) (hQ : ∀ s', Ext C ρ [] s.heap ρ s'.heap → Inv C ρ mh' s'.heap → SOk C s' → Q () s') :
    wpAny C.M A (setItem va vb vv) Q E s := by
  unfold setI at h
  split at h
  · split at h
    · rename_i i kk hab vs hi
      split at h
      · rename_i hk
        cases h
        obtain ⟨x, ex, rfl⟩ := ha.ref_
        obtain ⟨t, rfl⟩ := hb.int_
        obtain ⟨o, ho, ws, n, rfl, r⟩ := I.at hi ex
        have hlen := r.length
        refine ki_setAt (n := n) (items := ws.toArray) ho hk.1 (by lia) (by simp [hlen]; lia) ?_
        have hm := List.mem_of_getElem? ex
        have hg : (s.heap.update x (Obj.mapSeq (·.setIfInBounds kk.toNat vv))).get? x = some (Obj.mapSeq (·.setIfInBounds kk.toNat vv) (listO ws n)) := Heap.get?_update_self _ ho rfl
        obtain ⟨n', he⟩ := mapSeq_listO (·.setIfInBounds kk.toNat vv) ws n
        rw [he] at hg
        have hg' : (s.heap.update x (Obj.mapSeq (·.setIfInBounds kk.toNat vv))).get? x = some (listO (ws.set kk.toNat vv) n') := by
          rw [hg]; simp
        exact hQ _ (Ext.set hm (Heap.SameBut.update ..) ⟨_, hg'⟩) (I.set (mh_lt hi) ex (Heap.SameBut.update ..).extBut hg' ⟨_, n', rfl, r.set hv⟩) (so.heap _ _)
      · cases h
    · cases h
  · cases h

noncomputable def dAugI (fo fi : D) (o : Op2) (fv : D) : DS := fun me mh => match fo me mh with
  | some (a, mh1) => (match fi me mh1 with
    | some (b, mh2) => (match oItem a b mh2 with
      | some (old, mh3) => (match fv me mh3 with
        | some (v, mh4) => (match o old v mh4 with
          | some (nw, mh5) => (match setI a b nw mh5 with
            | some mh6 => some (.next, me, mh6)
            | none => none)
          | none => none)
        | none => none)
      | none => none)
    | none => none)
  | none => none

set_option tactic.hygienic true in
theorem RS_augItem {o i value : PySem.Expr} {tpos pos : Pos} {op : Operator} {fo fi fv : D} {oo : Op2} (h1 : RE C d env o fo) (h2 : RE C d env i fi) (h3 : RE C d env value fv) (ho : RO2 C d (inplaceOp op) oo)
    (hi : ∀ ov iv new, augStore i ov iv new = (do holding [new, ov, iv] (setItem ov iv new); release [new, ov, iv] []; pure .next) := by intros; rfl) :
    RS C d env (exec (.AugAssign (.Subscript o i tpos) op value pos) env) (dAugI fo fi oo fv) := by
  intro me mh fl me' mh' hf ρ A s Q E ao I so F hQ
  unfold dAugI at hf
  split at hf
  · rename_i a mh1 e1
    split at hf
    · rename_i b mh2 e2
      split at hf
      · rename_i old mh3 e3
        split at hf
        · rename_i v mh4 e4
          split at hf
          · rename_i nw mh5 e5
            split at hf
            · rename_i mh6 e6
              cases hf
              refine wpAny_AugAssign_SubscriptAny (h1 e1 ao I so F fun va ρ1 s1 x1 I1 so1 v1 => h2 e2 ao I1 so1 (F.ext0 x1) fun vb ρ2 s2 x2 I2 so2 v2 => ?_) hi
              have x12 := x1.trans x2
              refine (item_ok (A := A) e3 I2 so2 (v1.mono x2.pre) v2 fun vo ρ3 s3 x3 I3 so3 v3 => ?_).1
              have x13 := x12.trans x3
              refine h3 e4 ao I3 so3 (F.ext0 x13) fun vv ρ4 s4 x4 I4 so4 v4 => ?_
              refine ho e5 ao I4 so4 (v3.mono x4.pre) v4 fun vn ρ5 s5 x5 I5 so5 v5 => ?_
              have x25 := x3.trans (x4.trans x5)
              refine setI_ok e6 I5 so5 ((v1.mono x2.pre).mono x25.pre) (v2.mono x25.pre) v5 fun s6 x6 I6 so6 => ?_
              have xx := x12.trans (x25.trans x6)
              exact hQ _ _ _ xx.wide I6 so6 (F.ext0 xx) rfl
            · cases hf
          · cases hf
        · cases hf
      · cases hf
    · cases hf
  · cases hf

end Mine

namespace Mine
variable {C : Cx} {d : Nat} {env : Env}

structure SubList (K : Frag) (c : Addr) : Prop where
  plain : PlainCls K c
  lst : mroIn K c (.type "list") = some true
  nmod : mroIn K c (.type "module") = some false
  ty : typeIn K (.ref c) = some (.type "type")
  append : findIn K (.ref c) "append" = some (some (.builtin "list.append"))
  iter : findIn K (.ref c) "__iter__" = some (some (.builtin "list.__iter__"))

theorem check_mos {M : Model} {A : Around} {E : Value → Shared → Prop} {s : Shared} {i owner n : String} {self : Value} {rest : List Value} {kw : List (Str × Value)} {Q : Unit → Shared → Prop}
    (hk : builtinKind i = some .slot ∨ builtinKind i = some .method) (hs : splitId i = some (owner, n)) (hi : Looks M s.heap (isInstance self (.type owner)) true) (ha : argsOk i ⟨self :: rest, kw⟩) (q : Q () s) :
    wpAny M A (checkBuiltinCall i ⟨self :: rest, kw⟩) Q E s := by
  rcases hk with hk | hk <;>
  · simp only [checkBuiltinCall, hk, hs]
    refine wpAny_bind (hi.here ?_)
    simp only [Bool.not_true, Bool.false_eq_true, if_false]
    cases hsig : Manifest.signature? i with
    | none => exact wpAny_pure q
    | some sig =>
      simp only [argsOk, hsig] at ha
      have h2 : Bind.checkArgs i sig ⟨self :: rest, kw⟩ = pure () := ha
      show wpAny M A (Bind.checkArgs i sig ⟨self :: rest, kw⟩) Q E s
      rw [h2]; exact wpAny_pure q

theorem call_sub {c : Addr} {id n : String} {B : Builtin} {x : Addr} {ox : Obj} {rest : List Value} {A : Around} {s : Shared} {Q : Value → Shared → Prop} {E : Value → Shared → Prop} (X : C.K.In s.heap) (S : SubList C.K c) (hox : s.heap.get? x = some ox) (hcx : ox.cls = .ref c)
    (hk : builtinKind id = some .slot ∨ builtinKind id = some .method) (hs : splitId id = some ("list", n)) (hp : plainId id = true) (he : entryFor table id = some B) (ha : argsOk id ⟨.ref x :: rest, []⟩)
    (hB : wpAny C.M A.in1 (B ⟨.ref x :: rest, []⟩) (fun fin s' => ∃ v, fin = .done (.ret v) ∧ Q v s') E s) : wpAny C.M A (call (.builtin id) (.ref x :: rest)) Q E s := by
  have hi : Looks C.M s.heap (isInstance (.ref x) (.type "list")) true := by
    have hT : Looks C.M s.heap (typeOf (.ref x)) (.ref c) := by rw [← hcx]; exact (Looks.ld (part := none) hox).andThen .now
    exact hT.andThen (looks_mroIn X S.lst)
  refine wpAny_call (codeAny_call_builtin hp he (check_mos hk hs hi ha (wpAny_mono hB (fun fin s' h' => ?_) fun _ _ h' => h')))
  obtain ⟨v, rfl, hv⟩ := h'; exact hv

theorem method_bi {c : Addr} {name : Str} {id : String} {x : Addr} {ox : Obj} {od : Option Obj} {pl : Sem Bool} {A : Around} {s : Shared} {Q : Value × List Value → Shared → Prop} {E : Value → Shared → Prop} (X : C.K.In s.heap) (I : InstAt s.heap x ox c od) (hp : PlainCls C.K c)
    (hf : findIn C.K (.ref c) name = some (some (.builtin id))) (ht : typeOf (.builtin id) = pure (.type "method_descriptor")) (hs : shadowIn od name = some false) (h : Q (.builtin id, [.ref x]) s) :
    wpAny C.M A (getMethod (.ref x) name pl) Q E s := by
  obtain ⟨g, hg, gok⟩ := hp.ga
  have hcan := gok.canon
  unfold getMethod specialOf
  refine wpAny_bind (wpAny_bind (I.type.here ((looks_findIn X hg).here ?_)))
  dsimp only
  rw [hcan, if_neg (by decide)]
  refine wpAny_bind (wpAny_bind (I.type.here ((looks_findIn X hp.gt).here ?_)))
  refine wpAny_bind (wpAny_bind (I.type.here ((looks_findIn X hf).here (wpAny_bind ((Looks.of_pure ht).here ?_)))))
  rw [if_neg (by decide +kernel)]
  refine wpAny_bind (wpAny_loadPart I.at_ ?_)
  have hd := I.dict
  cases e : ox.dict with
  | none => exact wpAny_bind (wpAny_rule (wpAny_pure h))
  | some dx =>
    cases od with
    | none => rw [e] at hd; exact hd.elim
    | some o =>
      rw [e] at hd
      obtain ⟨r, a, b⟩ := Option.map_eq_some_iff.mp hs
      refine wpAny_bind (wpAny_bind (wpAny_loadPart hd ?_))
      rw [nsLook_of a]
      refine wpAny_pure ?_
      rw [b]
      exact wpAny_bind (wpAny_rule (wpAny_pure h))

noncomputable def selInst (c : Addr) (name : Str) : MV → MH → Bool := fun a mh => match a with
  | .ref i => (match mh[i]? with
    | some (.inst c' dd (some _)) => c' == c && (match mh[dd]? with | some (.attrs l) => (l.lookup name).isNone | _ => false)
    | _ => false)
  | _ => false
set_option tactic.hygienic true in
theorem gInst (ok : C.Ok) {c : Addr} {name : Str} {id : String} (hp : PlainCls C.K c) (hf : findIn C.K (.ref c) name = some (some (.builtin id))) (ht : typeOf (.builtin id) = pure (.type "method_descriptor")) : RGet C name id (selInst c name) := by
  intro a mh hs ρ s rv A Q E pl I hv h
  unfold selInst at hs
  split at hs
  · split at hs
    · rename_i i c' dd vs hi
      have hq := Bool.and_eq_true_iff.mp hs
      have hc : c' = c := by simpa using hq.1
      subst hc
      have h2 := hq.2
      split at h2
      · rename_i l hl
        obtain ⟨x, hx, rfl⟩ := hv.ref_
        obtain ⟨ox, od, IA, ns⟩ := inst_at I hi hl hx
        have q := ns.look name
        have hno : l.lookup name = none := by simpa using h2
        rw [hno] at q
        simp only at q
        exact method_bi (I.k ok) IA hp hf ht (by show (lookIn name od).map _ = _; rw [q]; rfl) h
      · cases h2
    · cases hs
  · cases hs

theorem mapSeq_push (x : Value) (c : Value) (dd : Option Addr) (ws : List Value) (n : Nat) : ∃ n', Obj.mapSeq (·.push x) { cls := c, dict := dd, data := .seq ws.toArray n } = { cls := c, dict := dd, data := .seq (ws ++ [x]).toArray n' } := by
  simp only [Obj.mapSeq]
  exact ⟨_, by simp; rfl⟩

noncomputable def isAttrs (mh : MH) (dd : Nat) : Bool := match mh[dd]? with | some (.attrs _) => true | _ => false
theorem isAttrs_ {mh : MH} {dd : Nat} (h : isAttrs mh dd = true) : ∃ l, mh[dd]? = some (.attrs l) := by
  unfold isAttrs at h
  split at h
  · exact ⟨_, by assumption⟩
  · cases h

noncomputable def fAppendI (c : Addr) : DF := fun mvs mh => match mvs with
  | [.ref i, x] => (match mh[i]? with
    | some (.inst c' dd (some vs)) => if c' = c ∧ vs.length ≤ 100000 ∧ isAttrs mh dd = true then some (.none, mh.set i (.inst c dd (some (vs ++ [x])))) else none
    | _ => none)
  | _ => none
set_option tactic.hygienic true in
theorem vAppendI (ok : C.Ok) {c : Addr} (S : SubList C.K c) : RV C d (.builtin "list.append") (fAppendI c) := by
  intro mvs mh mv mh' h ρ A s vs Q E ao I so hv hQ
  unfold fAppendI at h
  split at h
  · rename_i i x
    split at h
    · rename_i c' dd ms hi
      split at h
      · rename_i hl
        obtain ⟨rfl, hl, hat⟩ := hl
        obtain ⟨l, hdd⟩ := isAttrs_ hat
        cases h
        cases hv with
        | cons h1 h2 =>
          cases h2 with
          | @cons _ v _ _ h2 h3 =>
            cases h3
            obtain ⟨a, ea, rfl⟩ := h1.ref_
            obtain ⟨ox, od, IA, ns⟩ := inst_at I hi hdd ea
            obtain ⟨o, ho, da, ws, n, hda, rfl, r⟩ := I.at hi ea
            refine call_sub (n := "append") (I.k ok) S ho rfl (.inr (by decide +kernel)) (by decide +kernel) (by decide +kernel) PySem.entry_list_append (PySem.args_list_append _ _) ?_
            show wpAny _ _ (updateSeq a (·.push v) >>= fun _ => ret .none) _ _ s
            refine wpAny_bind ?_
            refine wpAny_updateSeq ho rfl (wpAny_pure ⟨.none, rfl, ?_⟩) (by simp [r.length]; exact Nat.le_trans hl (by decide)) (by simp [r.length]; exact Nat.le_trans hl (by decide))
            have hm := List.mem_of_getElem? ea
            obtain ⟨n', he⟩ := mapSeq_push v (.ref c') (some da) ws n
            have hg : (s.heap.update a (Obj.mapSeq (·.push v))).get? a = some (Obj.mapSeq (·.push v) { cls := .ref c', dict := some da, data := .seq ws.toArray n }) := Heap.get?_update_self _ ho rfl
            rw [he] at hg
            exact hQ _ ρ { s with heap := s.heap.update a (Obj.mapSeq (·.push v)) } (Ext.set hm (Heap.SameBut.update ..) ⟨_, hg⟩) (I.set (mh_lt hi) ea (Heap.SameBut.update ..).extBut hg ⟨da, ws ++ [v], n', hda, rfl, r.append (.one h2)⟩) (so.heap _ _) .none'
      · cases h
    · cases h
  · cases h

theorem subIter (ok : C.Ok) {c : Addr} (S : SubList C.K c) : SubIter C (some c) := by
  intro s x o vs n X ho hc hd A Q E h
  have hT : Looks C.M s.heap (typeOf (.ref x)) (.ref c) := by rw [← hc]; exact (Looks.ld (part := none) ho).andThen .now
  have hS : Looks C.M s.heap (specialOf (.ref x) "__iter__") (some (.builtin "list.__iter__")) := hT.andThen (looks_findIn X S.iter)
  have call : wpAny C.M A (call (.builtin "list.__iter__") [.ref x]) (fun it s' => ∃ T' r, s'.TypeIs it T' ∧ typeLookup (.type T') "__next__" = pure (some r) ∧ Q it s') E s := by
    refine call_sub (n := "__iter__") X S ho hc (.inl (by decide +kernel)) (by decide +kernel) (by decide +kernel) entry_list_iter (args_list_iter _) ?_
    show wpAny _ _ (do ret (← newFields "list_iterator" [.ref x, rawInt 0])) _ _ s
    exact wpAny_bind (wpAny_newObj_type (wpAny_pure ⟨_, rfl, "list_iterator", _, ⟨_, Heap.get?_push_size _ rfl, rfl⟩, slot_listiter_next.lookup, h⟩))
  unfold pyIter
  refine wpAny_bind (hS.here ?_)
  show wpAny _ A (callSpecialIfBoundUnlessNone? (.ref x) "__iter__" _ >>= _) Q E s
  refine wpAny_bind ?_
  simp only [callSpecialIfBoundUnlessNone?, bindSpecialIfBound?]
  refine wpAny_holding (wpAny_bind (wpAny_bind (hS.here ?_)))
  simp only [slot_list_iter.bind]
  refine wpAny_bind (wpAny_askSetting (wpAny_ite ?_))
  have fin : ∀ (refuse : Sem Value), wpAny C.M A (if (Value.builtin "list.__iter__" == Value.none) = true then (refuse >>= fun v => pure (some v)) else (PySem.call (.builtin "list.__iter__") [.ref x] >>= fun v => pure (some v))) (fun r s' => ∃ it T' r', r = some it ∧ s'.TypeIs it T' ∧ typeLookup (.type T') "__next__" = pure (some r') ∧ Q it s') E s := by
    intro refuse
    rw [if_neg (show ¬ ((Value.builtin "list.__iter__" == Value.none) = true) by decide)]
    refine wpAny_bind (wpAny_mono call (fun it s' h' => wpAny_pure ?_) fun _ _ e => e)
    obtain ⟨T', r, hT', hl, hQ⟩ := h'
    exact ⟨it, T', r, rfl, hT', hl, hQ⟩
  split
  · refine wpAny_bind (wpAny_pure (wpAny_pure (wpAny_mono (fin _) (fun r s' hr => ?_) fun _ _ e => e)))
    obtain ⟨it, T', r', rfl, hT', hl, hQ⟩ := hr
    exact wpAny_bind (wpAny_specialOf hT' hl (wpAny_pure hQ))
  · refine wpAny_tryCatch (wpAny_bind (wpAny_pure (wpAny_pure (wpAny_mono (fin _) (fun r s' hr => ?_) fun _ _ e => e))))
    obtain ⟨it, T', r', rfl, hT', hl, hQ⟩ := hr
    exact wpAny_bind (wpAny_specialOf hT' hl (wpAny_pure hQ))
end Mine

namespace Mine
variable {C : Cx} {d : Nat} {env : Env}

theorem slot_wd_get : Slot "wrapper_descriptor" "__get__" "wrapper_descriptor.__get__" := .of (owner := "wrapper_descriptor") (n := "__get__") (by rw [typeLookup_type, builtinLookup_eq_fast]; kernel_rfl) (by decide +kernel) (by decide +kernel) (by decide +kernel)
  (by first | exact .inl (by decide +kernel) | exact .inr (by decide +kernel)) (by rw [isSubtype_type]; kernel_rfl)
theorem entry_wd_get : entryFor table "wrapper_descriptor.__get__" = some Builtin.«wrapper_descriptor.__get__» := entryFor_of_tree (by kernel_rfl)
theorem args_wd_get (a b c : Value) : argsOk "wrapper_descriptor.__get__" ⟨[a, b, c], []⟩ := by unfold argsOk; kernel_rfl
noncomputable abbrev boundO (T : String) (id : String) (x : Addr) : Obj := { cls := .type T, data := .fields #[.builtin id, .ref x] }

structure Binds (id : String) (DT BT : String) : Prop where
  ty : ∀ s : Shared, s.TypeIs (.builtin id) DT
  slot : ∃ gid B, Slot DT "__get__" gid ∧ entryFor table gid = some B ∧ (∀ a b c, argsOk gid ⟨[a, b, c], []⟩) ∧
    ∀ {M : Model} {A : Around} {E : Value → Shared → Prop} {h : Heap} {g : Array GenState} {d : Drawn} {t : Nat} {os : OsState} {x Cc : Addr} {Q : Fin → Shared → Prop}, Looks M h (isInstance (.ref x) (.type "list")) true →
      Q (.done (.ret (.ref h.objs.size))) ⟨h.push (boundO BT id x), g, d, t, os⟩ → wpAny M A (B ⟨[.builtin id, .ref x, .ref Cc], []⟩) Q E ⟨h, g, d, t, os⟩

theorem binds_len : Binds "list.__len__" "wrapper_descriptor" "method-wrapper" := by
  refine ⟨fun s => ?_, _, _, slot_wd_get, entry_wd_get, args_wd_get, ?_⟩
  · show typeOf _ = _
    show builtinType _ = _; rw [builtinType_eq_fast]; kernel_rfl
  · intro M A E h g d t os x Cc Q hi hq
    have e : (".".intercalate ("list.__len__".cutAt '.').dropLast) = "list" := by decide +kernel
    have hi' : Looks M h (isInstance (.ref x) (.type (".".intercalate ("list.__len__".cutAt '.').dropLast))) true := by rw [e]; exact hi
    unfold Builtin.«wrapper_descriptor.__get__»
    repeat (first | (refine wpAny_newObj_type ?_ (by size_fits)) | lk)
    exact hq
theorem binds_init : Binds "list.__init__" "wrapper_descriptor" "method-wrapper" := by
  refine ⟨fun s => ?_, _, _, slot_wd_get, entry_wd_get, args_wd_get, ?_⟩
  · show typeOf _ = _
    show builtinType _ = _; rw [builtinType_eq_fast]; kernel_rfl
  · intro M A E h g d t os x Cc Q hi hq
    have e : (".".intercalate ("list.__init__".cutAt '.').dropLast) = "list" := by decide +kernel
    have hi' : Looks M h (isInstance (.ref x) (.type (".".intercalate ("list.__init__".cutAt '.').dropLast))) true := by rw [e]; exact hi
    unfold Builtin.«wrapper_descriptor.__get__»
    repeat (first | (refine wpAny_newObj_type ?_ (by size_fits)) | lk)
    exact hq
theorem super_ga_bi {so D x Cc : Addr} {l₀ l : List Value} {K : Frag} {name : Str} {tk : Tok} {id DT BT : String} {prog : Program} {w : World} {A : Around} {E : Value → Shared → Prop} {h : Heap} {g : Array GenState} {d : Drawn} {t : Nat} {os : OsState} {Q : PySem.Fin → Shared → Prop}
    (hso : h.get? so = some { cls := .type "super", dict := none, data := .fields #[.ref D, .ref x, .ref Cc], slots := #[] }) (hno : Looks (model prog w) h (opaqueClassAbove (.ref Cc)) none)
    (hC : Looks (model prog w) h (mroOf (.ref Cc)) l₀) (hl : (l₀.dropWhile (· != .ref D)).drop 1 = l) (X : K.In h) (hi : Looks (model prog w) h (isInstance (.ref x) (.type "list")) true)
    (hf : alongIn K name l = some (some (.builtin id))) (hb : Binds id DT BT) (hxC : x ≠ Cc) (hn : (name == ("__class__" : Str)) = false)
    (hq : Q (.done (.ret (.ref h.objs.size))) ⟨h.push (boundO BT id x), g, d, t, os⟩) :
    wpAny (model prog w) A (Builtin.«super.__getattribute__» ⟨[.ref so, .str name tk], []⟩) Q E ⟨h, g, d, t, os⟩ := by
  obtain ⟨hty, gid, B, hslot, hent, hargs, hB⟩ := hb
  have hlk := hslot.lookup
  have hne : (Value.ref x == Value.ref Cc) = false := by simp [hxC]
  have hTf := hty ⟨h, g, d, t, os⟩
  have hdt : ({ cls := .type "super", dict := none, data := .fields #[.ref D, .ref x, .ref Cc], slots := #[] } : Obj).data = .fields #[.ref D, .ref x, .ref Cc] := rfl
  have f0 : (#[.ref D, .ref x, .ref Cc] : Array Value)[0]? = some (.ref D) := rfl
  have f1 : (#[.ref D, .ref x, .ref Cc] : Array Value)[1]? = some (.ref x) := rfl
  have f2 : (#[.ref D, .ref x, .ref Cc] : Array Value)[2]? = some (.ref Cc) := rfl
  have fin : ∀ A', wpAny (model prog w) A' (B ⟨[.builtin id, .ref x, .ref Cc], []⟩) (fun fin s' => ∃ v, fin = .done (.ret v) ∧ v = .ref h.objs.size ∧ s' = ⟨h.push (boundO BT id x), g, d, t, os⟩) E ⟨h, g, d, t, os⟩ := fun A' => hB hi ⟨_, rfl, rfl, rfl⟩
  unfold Builtin.«super.__getattribute__»
  repeat (first
    | (with_reducible refine wpAny_field hso hdt f0 ?_) | (with_reducible refine wpAny_field hso hdt f1 ?_) | (with_reducible refine wpAny_field hso hdt f2 ?_)
    | (with_reducible refine ks_wpAny_notOpaque hno ?_)
    | (with_reducible refine Looks.at hC ?_; rw [hl])
    | (refine ks_forIn_along X (fun _ _ => rfl) rfl ?_ hf)
    | (with_reducible refine wpAny_typeOf hTf ?_)
    | (with_reducible refine wpAny_of_eq hlk ?_)
    | (with_reducible refine wpAny_mono (wpAny_call_entry hslot hTf hent (fin _) (hargs _ _ _)) ?_ ?_)
    | (simp only [hn, hne, Bool.or_false, Bool.false_eq_true, if_false])
    | wp_step
    | dsimp only)
  · rintro a s ⟨rfl, rfl⟩
    exact wpAny_bind (wpAny_pure (wpAny_pure (wpAny_pure hq)))
  · exact fun _ _ e => e

theorem getMethod_super_bi {so D x Cc : Addr} {l₀ l : List Value} {K : Frag} {name : Str} {pl : Sem Bool} {id DT BT : String} {prog : Program} {w : World} {A : Around} {E : Value → Shared → Prop} {h : Heap} {g : Array GenState} {d : Drawn} {t : Nat} {os : OsState} {Q : Value × List Value → Shared → Prop}
    (hso : h.get? so = some { cls := .type "super", dict := none, data := .fields #[.ref D, .ref x, .ref Cc], slots := #[] }) (hno : Looks (model prog w) h (opaqueClassAbove (.ref Cc)) none)
    (hC : Looks (model prog w) h (mroOf (.ref Cc)) l₀) (hl : (l₀.dropWhile (· != .ref D)).drop 1 = l) (X : K.In h) (hi : Looks (model prog w) h (isInstance (.ref x) (.type "list")) true)
    (hf : alongIn K name l = some (some (.builtin id))) (hb : Binds id DT BT) (hxC : x ≠ Cc) (hn : (name == ("__class__" : Str)) = false)
    (hq : Q (.ref h.objs.size, []) ⟨h.push (boundO BT id x), g, d, t + 1, os⟩) :
    wpAny (model prog w) A (getMethod (.ref so) name pl) Q E ⟨h, g, d, t, os⟩ := by
  have hlk := PySem.F.ks_slot_super_ga.lookup
  have hcan := PySem.F.ks_canon_super_ga
  have hT : ∀ t', (⟨h, g, d, t', os⟩ : Shared).TypeIs (.ref so) "super" := fun _ => ⟨_, hso, rfl⟩
  unfold getMethod
  refine wpAny_bind (wpAny_specialOf (hT _) hlk ?_)
  show wpAny _ _ (if (Manifest.canonical "super.__getattribute__" != "object.__getattribute__") = true then _ else _) _ _ _
  rw [if_pos hcan]
  unfold getAttr getAttrBy
  refine wpAny_bind (wpAny_bind (wpAny_mkText (wpAny_holding (wpAny_bind (wpAny_typeOf (hT _) (wpAny_bind (wpAny_of_eq hlk ?_)))))))
  show wpAny _ _ (getAttrByItsOwn (.ref so) (.str name t) (.type "super") (.builtin "super.__getattribute__") true false) _ _ _
  unfold getAttrByItsOwn hookBefore callGetattribute boundAndCalled
  refine wpAny_bind (wpAny_of_eq (show (if onTheHeap (.type "super") then typeLookup (.type "super") "__getattr__" else pure none) = pure none from rfl) ?_)
  refine wpAny_bind (wpAny_attempt (wpAny_holding ?_))
  show wpAny _ _ (bindSpecial (.builtin "super.__getattribute__") (.ref so) >>= _) _ _ _
  refine wpAny_bind (wpAny_of_eq (PySem.F.ks_slot_super_ga.bind _) ?_)
  refine wpAny_mono (Q := fun v s' => v = .ref h.objs.size ∧ s' = ⟨h.push (boundO BT id x), g, d, t + 1, os⟩) (E := fun _ _ => False)
    (wpAny_call_entry PySem.F.ks_slot_super_ga (hT _) PySem.F.ks_entry_super_ga (super_ga_bi hso hno hC hl X hi hf hb hxC hn ⟨_, rfl, rfl, rfl⟩) (PySem.F.ks_gaArgs_super _ _)) (fun v s' hv => ?_) fun _ _ z => z.elim
  obtain ⟨rfl, rfl⟩ := hv
  exact wpAny_pure (wpAny_pure hq)
end Mine

namespace Mine
variable {C : Cx} {d : Nat} {env : Env}

theorem call_bound {b x : Addr} {BT id : String} {B : Builtin} {rest : List Value} {A : Around} {s : Shared} {Q : Value → Shared → Prop} {E : Value → Shared → Prop} (hb : s.heap.get? b = some (boundO BT id x)) (hBT : BT = "builtin_function_or_method" ∨ BT = "method-wrapper")
    (hp : plainId id = true) (he : entryFor table id = some B) (hchk : ∀ {Q' : Unit → Shared → Prop} {E' : Value → Shared → Prop}, Q' () s → wpAny C.M A.in1 (checkBoundCall id ⟨.ref x :: rest, []⟩) Q' E' s)
    (hB : wpAny C.M A.in1 (B ⟨.ref x :: rest, []⟩) (fun fin s' => ∃ v, fin = .done (.ret v) ∧ Q v s') E s) : wpAny C.M A (call (.ref b) rest) Q E s := by
  refine wpAny_call (codeAny_of_tree ?_)
  show wpAny _ A.in1 (callAny (.ref b) ⟨rest, []⟩) _ _ s
  unfold callAny
  refine wpAny_bind (wpAny_load hb ?_)
  have e1 : (Value.type BT == Value.type "method" || Value.type BT == Value.type "builtin_function_or_method" || Value.type BT == Value.type "method-wrapper") = true := by rcases hBT with rfl | rfl <;> decide
  have e2 : (Value.type BT != Value.type "method") = true := by rcases hBT with rfl | rfl <;> decide
  show wpAny _ _ (if (Value.type BT == Value.type "method" || Value.type BT == Value.type "builtin_function_or_method" || Value.type BT == Value.type "method-wrapper") = true then _ else _) _ _ s
  rw [if_pos e1]
  show wpAny _ _ (if (Value.type BT != Value.type "method") = true then _ else _) _ _ s
  rw [if_pos e2]
  refine wpAny_bind (hchk ?_)
  refine wpAny_pure ⟨plainId_quiet hp _, codeAny_builtin he ?_⟩
  rw [Around.under_plainId hp _]
  refine wpAny_mono hB (fun fin s' h' => ?_) fun _ _ e => e
  obtain ⟨v, rfl, hv⟩ := h'
  exact hv

structure SuperOk (C : Cx) (c cc : Addr) (name : Str) (id DT BT : String) : Prop where
  cell : ∃ a b l, C.K.lookup cc = some ⟨a, b, .cell (some (.ref c)), l⟩
  cls : ∃ cd, clsIn C.K c = some cd ∧ cd.mro.isEmpty = false ∧ cd.mro.contains (.ref c) = true ∧ alongIn C.K name ((cd.mro.dropWhile (· != .ref c)).drop 1) = some (some (.builtin id))
  opq : nsIn C.K cStatics "thirdparty.any" = some none
  mg : C.mg "super" = none
  mb : C.mb "super" = some (.type "super")
  top : (C.prog.main.scope.names.lookup ("super" : Str)).isSome = false
  binds : Binds id DT BT
  bt : BT = "builtin_function_or_method" ∨ BT = "method-wrapper"
  nm : (name == ("__class__" : Str)) = false

set_option tactic.hygienic true in
theorem super_call0 {c cc f x L : Addr} {name : Str} {id DT BT : String} (K : SuperOk C c cc name id DT BT) (S : SubList C.K c) {nm qual : Str} {params : Arguments} {body body' : List Stmt} {scope : Scope} {dV kV doc pm ct : Value} {an : Option Addr} {oc : Value} {od : Option Addr} {osl : Array (Option Value)} {p0 p1 apos pos : Pos} {pl : Sem Bool} {ar : Arg}
    {vs : Array Value} {file : Str} {tf : Tok} {ccl : Value} {cdd : Option Addr} {ccs : Array (Option Value)} {cda : Addr} {m : Str → Option Value} {ox : Obj} {A : Around} {E : Value → Shared → Prop} {Q : Value → Shared → Prop} {h : Heap} {g : Array GenState} {d : Drawn} {t : Nat} {os : OsState}
    (X : C.K.In h) (hg : h.Ns mainGlobals C.mg) (hb : h.Ns builtinsNs C.mb) (hK : C.K.lookup f = some ⟨oc, od, .func (fnX nm qual params body scope [("__class__", cc)] dV kV doc pm an (.ref cda) ct), osl⟩)
    (hcode : C.K.lookup cda = some ⟨ccl, cdd, .fields vs, ccs⟩) (hvs : vs[2]? = some (.str file tf)) (hfile : ((C.prog.main.file : Str) == file) = true)
    (hp : (params.posonlyargs ++ params.args).head? = some ar) (hks : scope.names.lookup ("super" : Str) = some .globalImplicit) (hkc : scope.names.lookup ("__class__" : Str) = some .free) (hka : scope.names.lookup ar.arg = some .local) (hk : scope.kind = .function)
    (hn : h.Ns L m) (hm : m ar.arg = some (.ref x)) (hox : h.get? x = some ox) (hcx : ox.cls = .ref c) (hnc : ∀ cd, ox.data ≠ .cls cd)
    (hq : ∀ b h' t', h'.get? b = some (boundO BT id x) → (∀ y o, h.get? y = some o → h'.get? y = some o) → wpAny C.M A (call (.ref b) []) Q E ⟨h', g, d, t', os⟩)
    (he : eval (.Call (.Attribute (.Call (.Name "super" p0) [] [] p1) name apos) [] [] pos) (ksEnv qual scope L f (.ref cda) cc) = (do
      let ov ← attributeBase (.Call (.Name "super" p0) [] [] p1) name (ksEnv qual scope L f (.ref cda) cc) (eval (.Call (.Name "super" p0) [] [] p1) (ksEnv qual scope L f (.ref cda) cc))
      standAt apos.atName
      let (g, first) ← holding [ov] (getMethod ov name pl)
      callWith pos g first (backTo pos (starEach [] (ksEnv qual scope L f (.ref cda) cc))) []) := by rfl) :
    _root_.PySem.wpAt C.M A (.func body' (ksEnv qual scope L f (.ref cda) cc)) (eval (.Call (.Attribute (.Call (.Name "super" p0) [] [] p1) name apos) [] [] pos) (ksEnv qual scope L f (.ref cda) cc)) Q E ⟨h, g, d, t, os⟩ := by
  obtain ⟨ca, cb, cl, hcell⟩ := K.cell
  obtain ⟨cd, hcls, hme, hmc, halong⟩ := K.cls
  have hD : ∃ oD, h.get? c = some oD ∧ oD.data = .cls cd := by
    unfold clsIn at hcls
    split at hcls
    · rename_i e
      cases hcls
      exact ⟨_, X _ _ e, rfl⟩
    · cases hcls
  obtain ⟨oD, hD1, hD2⟩ := hD
  have hxc : x ≠ c := fun e => by subst e; rw [hox] at hD1; cases hD1; exact hnc _ hD2
  refine ks_wpAt_MethodCall ?_ he
  refine ks_wpAt_super_base (env := ksEnv qual scope L f (.ref cda) cc) hks hkc K.nm rfl (X _ _ hK) rfl hp rfl (X _ _ hcode) rfl hvs hfile K.top ?_
  refine ks_loadName_global hk hks (Calls.loadGlobal_builtin (env := ksEnv qual scope L f (.ref cda) cc) hg K.mg hb K.mb ⟨rfl, ?_⟩)
  refine wpAny_loadName_free hk hkc rfl ⟨_, X _ _ hcell, rfl⟩ ?_
  refine wpAny_loadName_local hk hka hn hm ?_
  refine ks_wpAny_isType_cls hD1 hD2 ⟨rfl, ?_⟩
  have hsub : Looks C.M h (isSubtype (.ref c) (.ref c)) true := looks_mroIn X (by unfold mroIn; rw [hcls, Option.bind_some, if_neg (by rw [hme]; decide), hmc])
  refine ks_wpAny_call_super hD1 hD2 hox hcx hnc hsub (fun h1 e1 k1 => ?_)
  have X1 := X.keeps k1
  have hT1 : Looks C.M h1 (typeOf (.ref x)) (.ref c) := by rw [← hcx]; exact (Looks.ld (part := none) (k1 _ _ hox)).andThen .now
  have hi1 : Looks C.M h1 (isInstance (.ref x) (.type "list")) true := hT1.andThen (looks_mroIn X1 S.lst)
  refine getMethod_super_bi e1 (looks_opaque X1 K.opq) (l₀ := cd.mro) ((looks_clsIn X1 hcls).andThen .now) rfl X1 hi1 halong K.binds hxc K.nm ?_
  have hb' : (h1.push (boundO BT id x)).get? h1.objs.size = some (boundO BT id x) := Heap.get?_push_size _ rfl
  refine callWith_of (P := fun h' => h'.get? h1.objs.size = some (boundO BT id x)) rfl (fun h' e => ⟨.machine, .inr (.inl rfl), ?_⟩) (PyProof.Rows.evalArgs_none ⟨hb', ?_⟩)
  · refine (Looks.ld (part := none) e).andThen ?_
    have e2 : (Value.type BT != Value.type "method") = true := by rcases K.bt with rfl | rfl <;> decide
    have e3 : (Value.type BT == Value.type "builtin_function_or_method" || Value.type BT == Value.type "method-wrapper") = true := by rcases K.bt with rfl | rfl <;> decide
    show Looks _ _ (if (Value.type BT != Value.type "method") = true then _ else _) _
    rw [if_pos e2, if_pos e3]
    exact .now
  · exact hq _ _ _ hb' fun y o e => Heap.get?_push_of_some _ (k1 _ _ e)

end Mine

namespace Mine
variable {C : Cx} {d : Nat} {env : Env}

structure MethAt (C : Cx) (c cc f : Addr) (nm qual : Str) (params : Arguments) (body : List Stmt) (scope : Scope) (dV kV doc pm ct : Value) (an : Option Addr) (cda : Addr) : Prop where
  fn : ∃ oc od osl, C.K.lookup f = some ⟨oc, od, .func (fnX nm qual params body scope [("__class__", cc)] dV kV doc pm an (.ref cda) ct), osl⟩
  code : codeIn C.K (.ref cda) qual = true
  codeO : ∃ ccl cdd vs ccs file tf, C.K.lookup cda = some ⟨ccl, cdd, .fields vs, ccs⟩ ∧ vs[2]? = some (.str file tf) ∧ ((C.prog.main.file : Str) == file) = true
  ks : scope.names.lookup ("super" : Str) = some .globalImplicit
  kc : scope.names.lookup ("__class__" : Str) = some .free
  nc : ∀ x ∈ scope.names, x.2 ≠ .cell
  co : scope.isCoroutine = false
  gen : scope.isGenerator = false
  k : scope.kind = .function

theorem boundChk_slot {id : String} {self : Value} {rest : List Value} {M : Model} {A : Around} {s : Shared} {Q : Unit → Shared → Prop} {E : Value → Shared → Prop} (hk : builtinKind id = some .slot) (ha : argsOk id ⟨self :: rest, []⟩) (q : Q () s) :
    wpAny M A (checkBoundCall id ⟨self :: rest, []⟩) Q E s := by
  unfold checkBoundCall
  cases hsig : Manifest.signature? id with
  | none => exact wpAny_pure q
  | some sig =>
    simp only [hk]
    simp only [argsOk, hsig] at ha
    have h2 : Bind.checkArgs id sig ⟨self :: rest, []⟩ = pure () := ha
    show wpAny M A (if (Manifest.AttrKind.slot != .method && Manifest.AttrKind.slot != .classMethod) = true then Bind.checkArgs id sig ⟨self :: rest, []⟩ else _) Q E s
    rw [if_pos (by decide), h2]
    exact wpAny_pure q

noncomputable def fPartCount (c : Addr) : DF := fun mvs mh => match mvs with
  | [.ref i] => (match mh[i]? with
    | some (.inst c' _ (some vs)) => if c' = c ∧ vs.length ≤ 100000 then some (.int vs.length, mh) else none
    | _ => none)
  | _ => none

set_option tactic.hygienic true in
theorem RF_partcount (ok : C.Ok) {c cc f : Addr} {nm qual : Str} {params : Arguments} {scope : Scope} {dV kV doc pm ct : Value} {an : Option Addr} {cda : Addr} {ar : Arg} {p0 p1 p2 p3 p4 : Pos} {pl : Sem Bool}
    (S : SubList C.K c) (K : SuperOk C c cc "__len__" "list.__len__" "wrapper_descriptor" "method-wrapper")
    (H : MethAt C c cc f nm qual params [.Return (some (.Call (.Attribute (.Call (.Name "super" p0) [] [] p1) "__len__" p2) [] [] p3)) p4] scope dV kV doc pm ct an cda)
    (hp : (params.posonlyargs ++ params.args).head? = some ar) (hka : scope.names.lookup ar.arg = some .local)
    (hbind : ∀ v : Value, bindArgs (fnX nm qual params [.Return (some (.Call (.Attribute (.Call (.Name "super" p0) [] [] p1) "__len__" p2) [] [] p3)) p4] scope [("__class__", cc)] dV kV doc pm an (.ref cda) ct) ⟨[v], []⟩ = pure [(ar.arg, v)])
    (he : ∀ L, eval (.Call (.Attribute (.Call (.Name "super" p0) [] [] p1) "__len__" p2) [] [] p3) (ksEnv qual scope L f (.ref cda) cc) = (do
      let ov ← attributeBase (.Call (.Name "super" p0) [] [] p1) "__len__" (ksEnv qual scope L f (.ref cda) cc) (eval (.Call (.Name "super" p0) [] [] p1) (ksEnv qual scope L f (.ref cda) cc))
      standAt p2.atName
      let (g, first) ← holding [ov] (getMethod ov "__len__" pl)
      callWith p3 g first (backTo p3 (starEach [] (ksEnv qual scope L f (.ref cda) cc))) []) := by intros; rfl) :
    RF C (d + 1) f (fPartCount c) := by
  intro mvs mh mv mh' hf ρ A s vs R ao I so hv hR
  unfold fPartCount at hf
  split at hf
  · rename_i i
    split at hf
    · rename_i c' dd ms hi
      split at hf
      · rename_i hc
        obtain ⟨rfl, hlen⟩ := hc
        cases hf
        cases hv with
        | cons h1 h2 =>
          cases h2
          obtain ⟨x, hx, rfl⟩ := h1.ref_
          obtain ⟨ox, hox, da, ws, n, hda, rfl, r⟩ := I.at hi hx
          obtain ⟨oc, od, osl, hfn⟩ := H.fn
          obtain ⟨ccl, cdd, cvs, ccs, file, tf, hco, hvs, hfile⟩ := H.codeO
          obtain ⟨hh, g, dr, t, os⟩ := s
          refine ks_codeAny_call_defAt (fd := fnX nm qual params [.Return (some (.Call (.Attribute (.Call (.Name "super" p0) [] [] p1) "__len__" p2) [] [] p3)) p4] scope [("__class__", cc)] dV kV doc pm an (.ref cda) ct) (binds := [(ar.arg, .ref x)])
            ao.room ((I.k ok) _ _ hfn) rfl (I.nolimit ok) (codeRec_of (I.k ok) H.code) rfl (BindsTo.of_eq (hbind _)) H.nc (fun y hy => by simp at hy; subst hy; exact hka) (fun h0 hns k0 => ?_) H.co H.gen H.k
          have I0 : Inv C ρ mh h0 := I.junk k0
          refine ks_wpAt_execs_cons (ks_wpAt_Return_some ?_)
          refine super_call0 K S (m := fun y => [(ar.arg, Value.ref x)].reverse.lookup y) (I0.k ok) (I0.g ok) (I0.b ok) hfn hco hvs hfile hp H.ks H.kc hka H.k hns (by simp) (k0 _ _ hox) rfl (fun cd e => by cases e) (fun b h1 t1 hb k1 => ?_) (he _)
          have I1 : Inv C ρ mh h1 := I0.junk k1
          have hx1 := k1 _ _ (k0 _ _ hox)
          refine call_bound hb (.inr rfl) (by decide +kernel) entry_list_len (fun hq' => ?_) ?_
          · exact boundChk_slot (by decide +kernel) (args_list_len _) hq'
          · show wpAny _ _ (seqSize x >>= fun n => mkInt n >>= ret) _ _ _
            refine wpAny_bind (wpAny_bind (wpAny_loadPart hx1 (wpAny_pure ?_)))
            refine wpAny_bind (wpAny_mkInt (wpAny_pure ⟨_, rfl, ?_⟩))
            have e : (ws.toArray.size : Int) = (ms.length : Int) := by simp [r.length]
            rw [e]
            exact hR _ ρ _ (Ext.all fun y o e => k1 _ _ (k0 _ _ e)) I1 (so.heap _ _) .int'
      · cases hf
    · cases hf
  · cases hf
end Mine

namespace Mine
variable {C : Cx} {d : Nat} {env : Env}

end Mine

namespace Mine
variable {C : Cx} {d : Nat} {env : Env}

noncomputable def makesLIn (K : Frag) (C : Addr) : Bool := match K.lookup C with
  | some ⟨_, _, .cls cd, sl⟩ => !cd.abstract && !cd.hasDel && cd.hasDict && (sl.toList[4]?).join == some (.builtin "list.__new__") && !cd.mro.isEmpty && cd.mro.contains (.ref C) && cd.mro.contains (.type "list") &&
      specialIn K (.ref C) "__call__" == some (some (.builtin "type.__call__")) && instIn K (.ref C) (.type "type") == some true
  | _ => false
structure MakesL (M : Model) (h : Heap) (C : Addr) : Prop where
  obj : ∃ oc od cd sl, h.get? C = some ⟨oc, od, .cls cd, sl⟩ ∧ cd.abstract = false ∧ cd.hasDel = false ∧ cd.mro.isEmpty = false
  made : Looks M h (Bind.madeBy (.ref C)) (some "list.__new__")
  base : Looks M h (Bind.staticBase (.ref C)) (.ref C)
  self : Looks M h (isSubtype (.ref C) (.ref C)) true
  top : Looks M h (isSubtype (.ref C) (.type "list")) true
  call : Looks M h (specialOf (.ref C) "__call__") (some (.builtin "type.__call__"))
  typ : Looks M h (isInstance (.ref C) (.type "type")) true
set_option tactic.hygienic true in
theorem makesL_of {K : Frag} {M : Model} {h : Heap} (X : K.In h) {C : Addr} (e : makesLIn K C = true) : MakesL M h C := by
  unfold makesLIn at e
  split at e
  · rename_i oc od cd sl ho
    simp only [Bool.and_eq_true, Bool.not_eq_true', beq_iff_eq] at e
    obtain ⟨⟨⟨⟨⟨⟨⟨⟨e1, e2⟩, _⟩, e3⟩, e4⟩, e5⟩, e6⟩, e7⟩, e8⟩ := e
    have hc : clsIn K C = some cd := by unfold clsIn; rw [ho]
    have hm : Looks M h (mroOf (.ref C)) cd.mro := (looks_clsIn X hc).andThen .now
    obtain ⟨c, l, hl⟩ : ∃ c l, cd.mro = c :: l := by cases q : cd.mro with | nil => rw [q] at e4; cases e4 | cons c l => exact ⟨c, l, rfl⟩
    have made : Looks M h (Bind.madeBy (.ref C)) (some "list.__new__") := by
      intro A Q E s k q
      unfold Bind.madeBy
      refine wpAny_bind (hm A _ E s k ?_)
      rw [hl, List.forIn_cons]
      refine wpAny_bind (wpAny_bind (wpAny_bind (wpAny_bind (wpAny_loadPart (k _ _ (X _ _ ho)) (wpAny_pure ?_)))))
      dsimp only
      rw [← Array.getElem?_toList, e3]
      exact wpAny_pure (wpAny_pure (wpAny_pure q))
    refine ⟨⟨oc, od, cd, sl, X _ _ ho, e1, e2, e4⟩, made, ?_, looks_mroIn X ?_, looks_mroIn X ?_, looks_specialIn X e7, looks_instIn X e8⟩
    · intro A Q E s k q
      unfold Bind.staticBase
      refine wpAny_bind (hm A _ E s k ?_)
      rw [hl, List.forIn_cons]
      exact wpAny_bind (wpAny_bind (wpAny_bind (made A _ E s k (wpAny_pure (wpAny_pure (wpAny_pure q))))))
    · unfold mroIn; rw [hc, Option.bind_some, if_neg (by rw [e4]; decide), e5]
    · unfold mroIn; rw [hc, Option.bind_some, if_neg (by rw [e4]; decide), e6]
  · cases e

noncomputable abbrev listInst (C dx : Addr) : Obj := { cls := .ref C, dict := some dx, data := .seq #[] }

section
variable {prog : Program} {w : World} {A : Around} {K : Frag} {Cc : Addr} {R : Result → Shared → Prop} {h : Heap} {g : Array GenState} {dr : Drawn} {t : Nat} {os : OsState}
theorem newL {rest : List Value} (Y : MakesL (model prog w) h Cc)
    (hq : R (.ok (.ret (.ref (h.objs.size + 1)))) ⟨(h.push emptyDict).push (listInst Cc h.objs.size), g, dr, t, os⟩) :
    codeAny (model prog w) A (.call (.builtin "list.__new__") ⟨.ref Cc :: rest, []⟩) R ⟨h, g, dr, t, os⟩ := by
  obtain ⟨⟨oc, od, cd, sl, hC, e1, e2, e4⟩, made, base, self, top, call, typ⟩ := Y
  have hk : builtinKind "list.__new__" = some .builtinFn := by decide +kernel
  have hs : splitId "list.__new__" = some ("list", "__new__") := by decide +kernel
  have hty : Looks (model prog w) h (isType (.ref Cc)) true := by
    unfold isType loadHead
    exact (Looks.ld hC).andThen .now
  refine codeAny_call_builtin_code (plainId_quiet PySem.F.plain_list_new _) ?_
  simp only [checkBuiltinCall, hk, hs]
  repeat lk
  refine codeAny_builtin_stack PySem.F.entry_list_new rfl fun p st => ?_
  rw [Around.under_plainId PySem.F.plain_list_new _]
  have hown := owner_list_new
  have hC2 : ((h.push emptyDict).push (listInst Cc h.objs.size)).get? Cc = some { cls := oc, dict := od, data := Data.cls cd, slots := sl } := Heap.get?_push_of_some _ (Heap.get?_push_of_some _ hC)
  simp only [hown]
  repeat (first | simp only [e2, Bool.false_eq_true, if_false] | lk)
  rw [Heap.size_push]
  exact hq

theorem makeL_core {rest : List Value} {init : Addr} (Y : MakesL (model prog w) h Cc) (hi : Looks (model prog w) h (typeLookup (.ref Cc) "__init__") (some (.ref init)))
    (hb : ∀ self, Looks (model prog w) h (bindSpecial (.ref init) self) (.ref init, [self]))
    (hq : codeAny (model prog w) (A.under (.builtin "type.__call__" ⟨.ref Cc :: rest, []⟩)) (.call (.ref init) ⟨.ref (h.objs.size + 1) :: rest, []⟩) (InitBack (h.objs.size + 1) R) ⟨(h.push emptyDict).push (listInst Cc h.objs.size), g, dr, t, os⟩) :
    codeAny (model prog w) A (.call (.ref Cc) ⟨rest, []⟩) R ⟨h, g, dr, t, os⟩ := by
  have Y' := Y
  obtain ⟨⟨oc, od, cd, sl, hC, e1, e2, e4⟩, made, base, self, top, call, typ⟩ := Y
  refine codeAny_of_tree ?_
  show wpAny _ _ (callAny (.ref Cc) _) _ _ _
  refine nd_load hC ?_
  show wpAny _ _ (callAny.viaDunder (.ref Cc) _) _ _ _
  unfold callAny.viaDunder
  refine wpAny_bind (call.at ?_)
  dsimp only
  rw [tc_bind]
  refine wpAny_bind (wpAny_pure (wpAny_bind (wpAny_pure ?_)))
  refine wpAny_pure (a := Fin.again (.call (.builtin "type.__call__") ⟨.ref Cc :: rest, []⟩)) (And.intro rfl ?_)
  refine codeAny_call_builtin_at (Code.quiet_builtin _ (by decide +kernel)) entry_typeCall (check_slot tc_kind tc_split typ (tc_args _ _ _) ?_)
  unfold Builtin.«type.__call__»
  have hm : Looks (model prog w) h (mroOf (.ref Cc)) cd.mro := ((Looks.ld (part := none) hC).andThen .now).andThen .now
  repeat (first | simp only [e4, Bool.false_eq_true, if_false] | with_reducible refine wpAny_call ?_ | lk)
  refine newL Y' ?_
  have k : ∀ b o, h.get? b = some o → ((h.push emptyDict).push (listInst Cc h.objs.size)).get? b = some o := fun b o e => Heap.get?_push_of_some _ (Heap.get?_push_of_some _ e)
  have hx : ((h.push emptyDict).push (listInst Cc h.objs.size)).get? (h.objs.size + 1) = some (listInst Cc h.objs.size) := by heap_get
  have t1 : Looks (model prog w) ((h.push emptyDict).push (listInst Cc h.objs.size)) (typeOf (.ref (h.objs.size + 1))) (.ref Cc) := (Looks.ld hx).andThen .now
  have s1 := self.keeps k
  have i1 := hi.keeps k
  have b1 := (hb (.ref (h.objs.size + 1))).keeps k
  unfold isInstance callSpecial? specialOf
  repeat (first | with_reducible refine wpAny_call ?_ | lk)
  refine codeAny_mono hq fun r s' z => ?_
  rcases r with e | (v | _ | _ | _) <;> first | exact z | exact z.elim | skip
  obtain ⟨rfl, z⟩ := z
  exact wpAny_pure (wpAny_pure z)
end
end Mine

namespace Mine
open Builtin Builtin.ObjectAttr Builtin.Getset_descriptor
variable {C : Cx} {d : Nat} {env : Env}

structure StoreCls (K : Frag) (c : Addr) : Prop where
  sa : findIn K (.ref c) "__setattr__" = some (some (.builtin "object.__setattr__"))
  rl : ∀ self cd, clsIn K c = some cd → refuseLoop self "__setattr__" cd.mro = pure ()
  ex : ∃ cd, clsIn K c = some cd ∧ cd.hasDict = true ∧ cd.mro.isEmpty = false
  ob : mroIn K c (.type "object") = some true

set_option tactic.hygienic true in
theorem setAttrI {K : Frag} {c x dx : Addr} {prog : Program} {w : World} {A : Around} {E : Value → Shared → Prop} {s : Shared} {ox : Obj} {name : Str} {v : Value} {es : List DictEntry} {n : Nat} {Q : Unit → Shared → Prop} (X : K.In s.heap) (I : InstAt s.heap x ox c (some (dictOf es n))) (hd : ox.dict = some dx)
    (S : StoreCls K c) (ht : takerIn K c name = some none) (hl : (getL name es).isSome = true) (hz : es.length ≤ 1000)
    (h : ∀ h' hsh tk n', h'.get? dx = some (dictOf (putL name hsh (.str name tk) v es) n') → Heap.SameBut dx s.heap h' → ∀ t', Q () { s with heap := h', toks := t' }) :
    wpAny (model prog w) A (setAttr (.ref x) name v) Q E s := by
  have SF := PySem.F.store_object
  obtain ⟨cd, hc, hdict, ne⟩ := S.ex
  have sub : Looks (model prog w) s.heap (isInstance (.ref x) (.type "object")) true := I.type.andThen (looks_mroIn X S.ob)
  refine set_plain X I S.sa ?_
  refine codeAny_call_builtin SF.slot.plain SF.entry (@check_slot (model prog w) _ _ { s with toks := s.toks + 1 } "object.__setattr__" "object" "__setattr__" (.ref x) [.str name s.toks, v] [] _ SF.kind SF.split sub (SF.args (.ref x) (.str name s.toks) v) ?_)
  obtain ⟨attr, ha, hr⟩ := Option.bind_eq_some_iff.mp ht
  have hm : Looks (model prog w) s.heap (mroOf (.ref c)) cd.mro := (looks_clsIn X hc).andThen .now
  have L3 : Looks (model prog w) s.heap (storeTaker? attr) none := by
    cases attr with
    | none => cases hr; exact .now
    | some a =>
      obtain ⟨b, hb, hb2⟩ := Option.map_eq_some_iff.mp hr
      cases b with
      | true => cases hb2
      | false => exact (looks_takesIn X hb).andThen .now
  rw [osa_eq, refuse_eq]
  obtain ⟨hh, gg, dr, tt, os⟩ := s
  dsimp only at I hm L3 X h
  refine wpAny_bind (wpAny_bind (I.type.at (wpAny_bind (hm.at ?_))))
  rw [S.rl _ _ hc]
  refine wpAny_pure (wpAny_bind (I.type.at (wpAny_bind ((looks_findIn X ha).at (wpAny_bind (L3.at ?_))))))
  obtain ⟨hx, hcl, hno, hdd⟩ := I
  obtain ⟨oc, odi, oda, osl⟩ := ox
  dsimp only at hcl hd hdd
  subst hcl hd
  dsimp only at hdd
  refine wpAny_bind (wpAny_pure (wpAny_bind (wpAny_bind (wpAny_loadPart hx (wpAny_bind ((looks_clsIn X hc).at ?_))))))
  rw [hdict]
  refine wpAny_pure (a := some dx) (wpAny_bind (wpAny_pure ?_))
  have D : hh.get? dx = some (dictOf es n) := hdd
  refine wpAny_bind ?_
  unfold nsSet
  refine wpAny_bind (wpAny_bind (wpAny_askSetting (wpAny_pure (wpAny_bind (wpAny_mkText (wpAny_bind (wpAny_loadPart D ?_)))))))
  have c : (!es.toArray.any (·.key.isStr name) && es.toArray.any (·.refKey)) = false := by
    rw [← Array.any_toList, ← Array.any_toList]
    unfold getL at hl
    split at hl
    · rename_i en he
      rw [List.any_eq_true.mpr ⟨en, List.mem_of_find?_eq_some he, List.find?_some he⟩]; rfl
    · split at hl
      · cases hl
      · rename_i z; rw [Bool.not_eq_true] at z; rw [z, Bool.and_false]
  show wpAny _ _ (if aRefKeyMayBeTheName _ _ = true then _ else _) _ _ _
  rw [aRefKeyMayBeTheName_at, c]
  refine wpAny_updatePart D ?_
  have D' : ∀ f, (hh.update dx f).get? dx = some (f (dictOf es n)) → (hh.update dx f).get? dx = some (f (dictOf es n)) := fun _ e => e
  have U : ∀ (hsh : Int) (tk : Tok), (hh.update dx (Obj.putName name hsh (.str name tk) v)).get? dx = some (dictOf (putL name hsh (.str name tk) v es) (putN name es n)) := fun hsh tk => by
    rw [Heap.get?_update_self _ D (by rw [putName_dict]; rfl), putName_dict]
  have hlen : ∀ (hsh : Int) (tk : Tok) (es : List DictEntry), (putL name hsh (.str name tk) v es).length ≤ es.length + 1 := by
    intro hsh tk es
    induction es with
    | nil => simp [putL]
    | cons e r ih => unfold putL; split <;> simp <;> omega
  refine wpAny_bind (wpAny_lookBehind (U _ _) (pastItsLine_dict (by rw [List.size_toArray, sizeLine_eq]; have := hlen (PyData.keyHash w.params name) tt.succ es; have h2 := hlen (PyData.keyHash w.params name) (tt + 1) es; first | omega | (refine Nat.le_trans (hlen _ _ _) ?_; omega))) ?_)
  exact wpAny_pure (h _ _ _ _ (U _ _) (Heap.SameBut.update ..) _)

theorem upd_len {l : List (Str × MV)} {x : Str} {v : MV} : (updA l x v).length ≤ l.length + 1 := by
  induction l with
  | nil => simp [updA]
  | cons p r ih => obtain ⟨y, w⟩ := p; unfold updA; split <;> simp <;> omega

noncomputable def setAttrD (c : Addr) (name : Str) (a v : MV) (mh : MH) : Option MH := match a with
  | .ref i => (match mh[i]? with
    | some (.inst c' dd _) => if c' = c then (match mh[dd]? with
      | some (.attrs l) => if l.length ≤ 100 then some (mh.set dd (.attrs (updA l name v))) else none
      | _ => none) else none
    | _ => none)
  | _ => none
set_option tactic.hygienic true in
theorem setAttr_ok (ok : C.Ok) {c : Addr} {name : Str} (S : StoreCls C.K c) (ht : takerIn C.K c name = some none) {a v : MV} {mh mh' : MH} (h : setAttrD c name a v mh = some mh') {ρ : Wd} {A : Around} {s : Shared} {Q : Unit → Shared → Prop} {E : Value → Shared → Prop} {va vv : Value}
    (I : Inv C ρ mh s.heap) (so : SOk C s) (ha : VR ρ a va) (hv : VR ρ v vv) (hQ : ∀ s', Ext C ρ [] s.heap ρ s'.heap → Inv C ρ mh' s'.heap → SOk C s' → Q () s') :
    wpAny C.M A (setAttr va name vv) Q E s := by
  unfold setAttrD at h
  split at h
  · rename_i i
    split at h
    · rename_i c' dd it hi
      split at h
      · rename_i hc
        subst hc
        split at h
        · rename_i l hl
          split at h
          · rename_i hlen
            cases h
            obtain ⟨x, hx, rfl⟩ := ha.ref_
            have key : ∃ ox da es n, InstAt s.heap x ox c' (some (dictOf es n)) ∧ ox.dict = some da ∧ ρ.ids[dd]? = some da ∧ AttrsR ρ l es := by
              obtain ⟨o, ho, r⟩ := I.at hi hx
              cases it with
              | none =>
                obtain ⟨da, hda, rfl⟩ := r
                obtain ⟨od, hod, es, n, rfl, rd⟩ := I.at hl hda
                exact ⟨_, da, es, n, ⟨ho, rfl, rfl, hod⟩, rfl, hda, rd⟩
              | some ms =>
                obtain ⟨da, vs, n, hda, rfl, _⟩ := r
                obtain ⟨od, hod, es, n', rfl, rd⟩ := I.at hl hda
                exact ⟨_, da, es, n', ⟨ho, rfl, rfl, hod⟩, rfl, hda, rd⟩
            obtain ⟨ox, da, es, n, IA, hdx, hda, rd⟩ := key
            refine setAttrI (I.k ok) IA hdx S ht ?_ (by rw [rd.len]; lia) fun h' hsh tk n' hg hs t' => ?_
            · have := rd.look name
              split at this
              · obtain ⟨_, e, _⟩ := this; rw [e]; rfl
              · rw [this.1]; rfl
            · have hm := List.mem_of_getElem? hda
              exact hQ _ (Ext.set hm hs ⟨_, hg⟩) (I.set (mh_lt hl) hda hs.extBut hg ⟨_, _, rfl, rd.put hv⟩) (so.heap _ _)
          · cases h
        · cases h
      · cases h
    · cases h
  · cases h
end Mine

namespace Mine
variable {C : Cx} {d : Nat} {env : Env}

noncomputable abbrev initBody (q0 q1 q2 q3 q4 p0 p1 p2 p3 p4 : Pos) : List Stmt :=
  [.Assign [.Attribute (.Name "self" q0) "_initial_size" q1] (.Name "initial_size" q2) q3,
    .Expr (.Call (.Attribute (.Call (.Name "super" p0) [] [] p1) "__init__" p2) [] [] p3) p4]

noncomputable def fInitAcc (c : Addr) : DF := fun mvs mh => match mvs with
  | [.ref i] => (match mh[i]? with
    | some (.inst c' dd (some [])) => if c' = c then (match setAttrD c "_initial_size" (.ref i) (.int 0) mh with
      | some mh' => if dd ≠ i then some (.none, mh') else none
      | none => none) else none
    | _ => none)
  | _ => none

theorem setAttrD_get {c : Addr} {name : Str} {i : Nat} {v : MV} {mh mh' : MH} {dd : Nat} {it : Option (List MV)} (h : setAttrD c name (.ref i) v mh = some mh') (hi : mh[i]? = some (.inst c dd it)) (hne : dd ≠ i) : mh'[i]? = some (.inst c dd it) := by
  unfold setAttrD at h
  simp only [hi, if_true] at h
  split at h
  · split at h
    · cases h
      rw [List.getElem?_set_ne hne]; exact hi
    · cases h
  · cases h

theorem set_same {α : Type} : ∀ {l : List α} {i : Nat} {a : α}, l[i]? = some a → l.set i a = l
  | [], _, _, h => by simp at h
  | x :: l, 0, a, h => by simp at h; simp [h]
  | x :: l, i + 1, a, h => by
    show x :: l.set i a = x :: l
    rw [set_same (by simpa using h)]

theorem chk_list_init {x : Addr} {M : Model} {A : Around} {s : Shared} {Q : Unit → Shared → Prop} {E : Value → Shared → Prop} (q : Q () s) : wpAny M A (checkBoundCall "list.__init__" ⟨[.ref x], []⟩) Q E s :=
  boundChk_slot (id := "list.__init__") (by decide +kernel) (PySem.F.args_list_init_1 _) q

theorem run_list_init {x : Addr} {cl : Value} {dd : Option Addr} {n : Nat} {M : Model} {A : Around} {h : Heap} {g : Array GenState} {dr : Drawn} {t : Nat} {os : OsState} {Q : PySem.Fin → Shared → Prop} {E : Value → Shared → Prop} (hx : h.get? x = some { cls := cl, dict := dd, data := .seq #[] n })
    (q : ∀ h', h'.get? x = some { cls := cl, dict := dd, data := .seq #[] n } → Heap.SameBut x h h' → Q (.done (.ret .none)) ⟨h', g, dr, t, os⟩) : wpAny M A (Builtin.«list.__init__» ⟨[.ref x], []⟩) Q E ⟨h, g, dr, t, os⟩ := by
  unfold Builtin.«list.__init__»
  repeat lk
  have hg : (h.update x (Obj.mapSeq fun _ => #[])).get? x = some { cls := cl, dict := dd, data := .seq #[] n } := by
    rw [Heap.get?_update_self _ hx rfl]
    rfl
  refine wpAny_updatePart (part := none) hx ?_
  refine wpAny_lookBehind hg rfl ?_
  refine wpAny_bind (wpAny_letGo ?_)
  exact wpAny_pure (q _ hg (Heap.SameBut.update ..))

set_option tactic.hygienic true in
set_option maxHeartbeats 1000000 in
theorem RF_initAcc (ok : C.Ok) {c cc f : Addr} {nm qual : Str} {params : Arguments} {scope : Scope} {dV kV doc pm ct : Value} {an : Option Addr} {cda : Addr} {ar : Arg} {q0 q1 q2 q3 q4 p0 p1 p2 p3 p4 : Pos} {pl : Sem Bool}
    (S : SubList C.K c) (St : StoreCls C.K c) (htk : takerIn C.K c "_initial_size" = some none) (K : SuperOk C c cc "__init__" "list.__init__" "wrapper_descriptor" "method-wrapper")
    (H : MethAt C c cc f nm qual params (initBody q0 q1 q2 q3 q4 p0 p1 p2 p3 p4) scope dV kV doc pm ct an cda)
    (hp : (params.posonlyargs ++ params.args).head? = some ar) (har : ar.arg = "self") (hka : scope.names.lookup ("self" : Str) = some .local) (hkb : scope.names.lookup ("initial_size" : Str) = some .local)
    (hbind : ∃ tk, ∀ (s : Shared) (v : Value), C.K.In s.heap → BindsTo s (fnX nm qual params (initBody q0 q1 q2 q3 q4 p0 p1 p2 p3 p4) scope [("__class__", cc)] dV kV doc pm an (.ref cda) ct) ⟨[v], []⟩ [("self", v), ("initial_size", .int 0 tk)])
    (he : ∀ L, eval (.Call (.Attribute (.Call (.Name "super" p0) [] [] p1) "__init__" p2) [] [] p3) (ksEnv qual scope L f (.ref cda) cc) = (do
      let ov ← attributeBase (.Call (.Name "super" p0) [] [] p1) "__init__" (ksEnv qual scope L f (.ref cda) cc) (eval (.Call (.Name "super" p0) [] [] p1) (ksEnv qual scope L f (.ref cda) cc))
      standAt p2.atName
      let (g, first) ← holding [ov] (getMethod ov "__init__" pl)
      callWith p3 g first (backTo p3 (starEach [] (ksEnv qual scope L f (.ref cda) cc))) []) := by intros; rfl) :
    RF C (d + 1) f (fInitAcc c) := by
  intro mvs mh mv mh' hf ρ A s vs R ao I so hv hR
  unfold fInitAcc at hf
  split at hf
  · rename_i i
    split at hf
    · rename_i c' dd hi
      split at hf
      · rename_i hc
        subst hc
        split at hf
        · rename_i mh1 hset
          split at hf
          · rename_i hne
            cases hf
            cases hv with
            | cons h1 h2 =>
              cases h2
              obtain ⟨x, hx, rfl⟩ := h1.ref_
              obtain ⟨oc, od, osl, hfn⟩ := H.fn
              obtain ⟨ccl, cdd, cvs, ccs, file, tf, hco, hvs, hfile⟩ := H.codeO
              obtain ⟨tk, hbind⟩ := hbind
              refine ks_codeAny_call_defAt (fd := fnX nm qual params (initBody q0 q1 q2 q3 q4 p0 p1 p2 p3 p4) scope [("__class__", cc)] dV kV doc pm an (.ref cda) ct) (binds := [("self", .ref x), ("initial_size", .int 0 tk)])
                ao.room ((I.k ok) _ _ hfn) rfl (I.nolimit ok) (codeRec_of (I.k ok) H.code) rfl (hbind _ _ (I.k ok)) H.nc (fun y hy => by
                  simp at hy
                  rcases hy with rfl | rfl
                  · exact hka
                  · exact hkb) (fun h0 hns k0 => ?_) H.co H.gen H.k
              have I0 : Inv C ρ mh h0 := I.junk k0
              have hms : (fun y => [(("self" : Str), Value.ref x), ("initial_size", .int 0 tk)].reverse.lookup y) ("self" : Str) = some (.ref x) := by rfl
              have hmi : (fun y => [(("self" : Str), Value.ref x), ("initial_size", .int 0 tk)].reverse.lookup y) ("initial_size" : Str) = some (.int 0 tk) := by rfl
              refine ks_wpAt_execs_cons (wpAt_of_wpAny (plainObj_wpAny_Assign_Attribute ?_ rfl))
              refine wpAny_Name (wpAny_loadName_local (env := ksEnv qual scope s.heap.objs.size f (.ref cda) cc) H.k hkb hns hmi ?_) (by decide)
              refine wpAny_Name (wpAny_loadName_local (env := ksEnv qual scope s.heap.objs.size f (.ref cda) cc) H.k hka hns hms ?_) (by decide)
              refine setAttr_ok ok St htk hset I0 (so.heap _ _) (.ref' hx) .int' fun s1 x1 I1 so1 => ?_
              have hns1 : s1.heap.Ns s.heap.objs.size (fun y => [(("self" : Str), Value.ref x), ("initial_size", .int 0 tk)].reverse.lookup y) := Ns.keep1 hns fun o e => x1.keep _ o e (fun hm => by
                obtain ⟨o', e'⟩ := I.liveId hm; exact absurd (Heap.lt_size e') (Nat.lt_irrefl _)) (I0.not_x (I.fresh (get_size s.heap)).2) (by simp)
              have hi1 := setAttrD_get hset hi hne
              obtain ⟨o2, ho2, da2, ws2, n2, hda2, rfl, r2⟩ := I1.at hi1 hx
              cases r2
              have xx : Ext C ρ [] s.heap ρ s1.heap := (Ext.all k0).trans x1
              obtain ⟨hh1, g1, dr1, t1, os1⟩ := s1
              refine ks_wpAt_execs_cons (ks_wpAt_Expr_any ?_ (by show interactive (ksEnv qual scope s.heap.objs.size f (.ref cda) cc) = false; unfold interactive; simp [Env.blockKind, H.k]) rfl)
              refine super_call0 K S (m := fun y => [(("self" : Str), Value.ref x), ("initial_size", .int 0 tk)].reverse.lookup y) (I1.k ok) (I1.g ok) (I1.b ok) hfn hco hvs hfile hp H.ks H.kc (by rw [har]; exact hka) H.k hns1 (by rw [har]; exact hms) ho2 rfl (fun cd e => by cases e) (fun b h2 t2 hb k2 => ?_) (he _)
              have I2 : Inv C ρ _ h2 := I1.junk k2
              have hx2 := k2 _ _ ho2
              refine call_bound hb (.inr rfl) (by decide +kernel) PySem.F.entry_list_init (fun hq' => chk_list_init hq') ?_
              refine run_list_init hx2 fun h3 hx3 hs3 => ⟨.none, rfl, ?_⟩
              have I3 : Inv C ρ mh' h3 := by
                have := I2.set (mh_lt hi1) hx hs3.extBut hx3 (mo := .inst c' dd (some [])) ⟨da2, [], n2, hda2, rfl, .nil⟩
                rwa [set_same (by exact hi1)] at this
              refine wpAt_of_wpAny (wpAny_execs_nil ?_)
              exact hR _ ρ ⟨h3, g1, dr1, t2, os1⟩ ((xx.trans (Ext.all k2)).trans (Ext.set (List.mem_of_getElem? hx) hs3 ⟨_, hx3⟩)) I3 (so1.heap _ _) .none'
          · cases hf
        · cases hf
      · cases hf
    · cases hf
  · cases hf
end Mine

namespace Mine
variable {C : Cx} {d : Nat} {env : Env}

noncomputable def fMakeL (c : Addr) (init : DF) : DF := fun mvs mh => match init (.ref (mh.length + 1) :: mvs) (mh ++ [.attrs [], .inst c mh.length (some [])]) with
  | some (.none, mh') => some (.ref (mh.length + 1), mh')
  | _ => none

theorem under_call_ok {d : Nat} {A : Around} {c : Addr} {rest : List Value} (h : Aok (d + 1) A) : Aok d (A.under (.builtin "type.__call__" ⟨.ref c :: rest, []⟩)) := by
  have h1 : (Code.builtin "type.__call__" ⟨.ref c :: rest, []⟩).weight = 1 := by
    unfold Code.weight
    rfl
  have h2 : (Code.builtin "type.__call__" ⟨.ref c :: rest, []⟩).cUnits = 1 := rfl
  refine ⟨?_, ?_, h.handled⟩
  · have := h.depth; show A.depth + (Code.builtin "type.__call__" ⟨.ref c :: rest, []⟩).weight + 2 * d ≤ 900; lia
  · have := h.units; show A.units + (Code.builtin "type.__call__" ⟨.ref c :: rest, []⟩).cUnits + 16 * d ≤ 9000; lia

set_option tactic.hygienic true in
theorem RF_makeL (ok : C.Ok) {c fI : Addr} {init : DF} (hm : makesLIn C.K c = true) (hi : findIn C.K (.ref c) "__init__" = some (some (.ref fI))) (hf : typeIn C.K (.ref fI) = some (.type "function")) (hr : RF C d fI init) : RF C (d + 1) c (fMakeL c init) := by
  intro mvs mh mv mh' hfm ρ A s vs R ao I so hv hR
  unfold fMakeL at hfm
  split at hfm
  · rename_i mh1 hin
    cases hfm
    obtain ⟨hh, g, dr, t, os⟩ := s
    refine makeL_core (makesL_of (I.k ok) hm) (looks_findIn (I.k ok) hi) (fun self => bind_fn (I.k ok) self hf) ?_
    have I1 : Inv C (ρ.push hh.objs.size) (mh ++ [.attrs []]) (hh.push emptyDict) := I.push ⟨[], 0, rfl, .nil⟩
    have hid : (ρ.push hh.objs.size).ids[mh.length]? = some hh.objs.size := by rw [← I.len]; simp
    have I2 : Inv C ((ρ.push hh.objs.size).push (hh.push emptyDict).objs.size) ((mh ++ [.attrs []]) ++ [.inst c mh.length (some [])]) ((hh.push emptyDict).push (listInst c hh.objs.size)) := I1.push ⟨hh.objs.size, [], 0, hid, rfl, .nil⟩
    have x2 : Ext C ρ [] hh ((ρ.push hh.objs.size).push (hh.push emptyDict).objs.size) ((hh.push emptyDict).push (listInst c hh.objs.size)) := (Ext.push _ _ _).trans (Ext.push _ _ _)
    have hix : ((ρ.push hh.objs.size).push (hh.push emptyDict).objs.size).ids[mh.length + 1]? = some (hh.objs.size + 1) := by
      rw [← I.len, Heap.size_push]
      show ((ρ.ids ++ [hh.objs.size]) ++ [hh.objs.size + 1])[ρ.ids.length + 1]? = _
      rw [List.getElem?_append_right (by simp)]
      simp
    refine hr (by rw [List.append_assoc]; exact hin) (under_call_ok ao) I2 (so.heap _ _) (.cons (.ref' hix) (hv.mono x2.pre)) fun v ρ3 s3 x3 I3 so3 v3 => ?_
    exact ⟨v3.none_, hR _ ρ3 s3 (x2.trans x3) I3 so3 (.ref' (pre_get x3.pre hix))⟩
  · cases hfm

theorem RE_ccall0 (ok : C.Ok) {g : Str} {p pos : Pos} {c : Addr} {den : DF} (hg : C.mg g = some (.ref c)) (hx : env.kindOf g = some .globalImplicit) (hd : (g == ("__debug__" : Str)) = false)
    (hk : keepIn C.K (.ref c) = true) (hr : RF C d c den) : RE C d env (.Call (.Name g p) [] [] pos) (dCall den dL0) := by
  intro me mh mv mh' h ρ A s Q E ao I so F hQ
  unfold dCall dL0 at h
  simp only at h
  refine wpAny_Call_NameR (eval_glob ok hg hx hd I F ?_)
  refine callWith_K0 (I.k ok) hk ?_
  exact wpAny_call (hr h ao I so .nil fun v ρ2 s2 x2 I2 so2 v2 => hQ v ρ2 s2 x2 I2 so2 v2)
noncomputable def dAsgAttr (st : MV → MV → MH → Option MH) (fv fo : D) : DS := fun me mh => match fv me mh with
  | some (v, mh1) => (match fo me mh1 with
    | some (a, mh2) => (match st a v mh2 with
      | some mh3 => some (.next, me, mh3)
      | none => none)
    | none => none)
  | none => none
set_option tactic.hygienic true in
theorem RS_asgAttr (ok : C.Ok) {c : Addr} {o value : PySem.Expr} {attr : Str} {p pos : Pos} {fv fo : D} (S : StoreCls C.K c) (ht : takerIn C.K c attr = some none) (hv : RE C d env value fv) (ho : RE C d env o fo)
    (hs : swapsWith value (some (.Attribute o attr p)) pos.line env = pure false := by rfl) : RS C d env (exec (.Assign [.Attribute o attr p] value pos) env) (dAsgAttr (setAttrD c attr) fv fo) := by
  intro me mh fl me' mh' hf ρ A s Q E ao I so F hQ
  unfold dAsgAttr at hf
  split at hf
  · rename_i v mh1 h1
    split at hf
    · rename_i a mh2 h2
      split at hf
      · rename_i mh3 h3
        cases hf
        refine plainObj_wpAny_Assign_Attribute (hv h1 ao I so F fun vv ρ1 s1 x1 I1 so1 v1 => ho h2 ao I1 so1 (F.ext0 x1) fun va ρ2 s2 x2 I2 so2 v2 => ?_) hs
        exact setAttr_ok ok S ht h3 I2 so2 v2 (v1.mono x2.pre) fun s3 x3 I3 so3 => hQ _ _ _ ((x1.trans x2).trans x3).wide I3 so3 (F.ext0 ((x1.trans x2).trans x3)) rfl
      · cases hf
    · cases hf
  · cases hf
noncomputable def dAugAttr (gt : Op1) (st : MV → MV → MH → Option MH) (oo : Op2) (fo fv : D) : DS := fun me mh => match fo me mh with
  | some (a, mh1) => (match gt a mh1 with
    | some (old, mh2) => (match fv me mh2 with
      | some (v, mh3) => (match oo old v mh3 with
        | some (nw, mh4) => (match st a nw mh4 with
          | some mh5 => some (.next, me, mh5)
          | none => none)
        | none => none)
      | none => none)
    | none => none)
  | none => none
set_option tactic.hygienic true in
theorem RS_augAttr (ok : C.Ok) {c : Addr} {o value : PySem.Expr} {attr : Str} {tpos pos : Pos} {op : Operator} {gt : Op1} {oo : Op2} {fo fv : D} (S : StoreCls C.K c) (ht : takerIn C.K c attr = some none) (ho : RE C d env o fo) (hg : RO1 C d (fun v => getAttr v attr true) gt)
    (hv : RE C d env value fv) (hop : RO2 C d (inplaceOp op) oo) : RS C d env (exec (.AugAssign (.Attribute o attr tpos) op value pos) env) (dAugAttr gt (setAttrD c attr) oo fo fv) := by
  intro me mh fl me' mh' hf ρ A s Q E ao I so F hQ
  unfold dAugAttr at hf
  split at hf
  · rename_i a mh1 h1
    split at hf
    · rename_i old mh2 h2
      split at hf
      · rename_i v mh3 h3
        split at hf
        · rename_i nw mh4 h4
          split at hf
          · rename_i mh5 h5
            cases hf
            refine wpAny_AugAssign_AttributeAny (ho h1 ao I so F fun va ρ1 s1 x1 I1 so1 v1 => hg h2 ao I1 so1 v1 fun vo ρ2 s2 x2 I2 so2 v2 => ?_)
            have x12 := x1.trans x2
            refine hv h3 ao I2 so2 (F.ext0 x12) fun vv ρ3 s3 x3 I3 so3 v3 => hop h4 ao I3 so3 (v2.mono x3.pre) v3 fun vn ρ4 s4 x4 I4 so4 v4 => ?_
            have x24 := x2.trans (x3.trans x4)
            refine setAttr_ok ok S ht h5 I4 so4 (v1.mono x24.pre) v4 fun s5 x5 I5 so5 => ?_
            have xx := x1.trans (x24.trans x5)
            exact hQ _ _ _ xx.wide I5 so5 (F.ext0 xx) rfl
          · cases hf
        · cases hf
      · cases hf
    · cases hf
  · cases hf
end Mine

namespace Mine
variable {C : Cx} {d : Nat} {env : Env}

noncomputable def rowsOf : List MV → Option (List (Str × Str))
  | [] => some []
  | .tup [.str a, .str b] :: r => (rowsOf r).map ((a, b) :: ·)
  | _ :: _ => none

noncomputable def RowAt (h : Heap) (v : Value) (ab : Str × Str) : Prop := ∃ T n ta tb, v = .ref T ∧ h.get? T = some (tupO [.str ab.1 ta, .str ab.2 tb] n)
set_option tactic.hygienic true in
theorem rows_at {ρ : Wd} {mh : MH} {h : Heap} (I : Inv C ρ mh h) : ∀ {ms : List MV} {ws : List Value} {rows : List (Str × Str)}, VRs ρ ms ws → rowsOf ms = some rows →
    ws.length = rows.length ∧ ∀ (j : Nat) (v : Value) (ab : Str × Str), ws[j]? = some v → rows[j]? = some ab → RowAt h v ab
  | [], _, rows, hv, e => by cases hv; simp [rowsOf] at e; subst e; exact ⟨rfl, fun j v ab h => by simp at h⟩
  | m :: ms, _, rows, hv, e => by
    cases hv with
    | @cons _ v _ vs h1 h2 =>
      unfold rowsOf at e
      split at e
      · rename_i e0; cases e0
      · rename_i a b r e0
        cases e0
        obtain ⟨rs, hr, rfl⟩ := Option.map_eq_some_iff.mp e
        obtain ⟨hl, hrest⟩ := rows_at I h2 hr
        refine ⟨by simp [hl], fun j w ab hw hab => ?_⟩
        cases j with
        | zero =>
          simp at hw hab
          subst hw hab
          obtain ⟨T, ts, n, hT, rfl, hts⟩ := h1.tup_
          cases hts with
          | cons q1 q2 =>
            cases q2 with
            | cons q2 q3 =>
              cases q3
              obtain ⟨ta, rfl⟩ := q1.str_
              obtain ⟨tb, rfl⟩ := q2.str_
              exact ⟨T, n, ta, tb, rfl, I.fz _ hT⟩
        | succ j => exact hrest j w ab (by simpa using hw) (by simpa using hab)
      · cases e

noncomputable def addrsOf (ws : List Value) : List Addr := ws.filterMap fun v => match v with | .ref a => some a | _ => none

noncomputable def StAcc (it x : Addr) (ox : Obj) (ws : List Value) (rows : List (Str × Str)) (i : Nat) (h : Heap) : Prop :=
  h.IsListIter it x i ∧ h.get? x = some ox ∧ ∀ (j : Nat) (v : Value) (ab : Str × Str), ws[j]? = some v → rows[j]? = some ab → RowAt h v ab
noncomputable def PtAcc (rows : List (Str × Str)) (i : Nat) (vals : Array Value) : Prop := ∃ (ab : Str × Str) (ta tb : Tok), rows[i]? = some ab ∧ vals = #[.str ab.1 ta, .str ab.2 tb]
theorem walksAcc {it x : Addr} {ox : Obj} {ws : List Value} {n : Nat} {rows : List (Str × Str)} {A : Around} (hh : A.handled = none) (hd : ox.data = .seq ws.toArray n) (hlen : ws.length = rows.length) (hix : it ≠ x) (hiw : ∀ a ∈ addrsOf ws, it ≠ a) :
    WalksU C.prog C.w A it (it :: x :: addrsOf ws) [it] rows.length (PtAcc rows) (StAcc it x ox ws rows) (fun i T h => StAcc it x ox ws rows (i + 1) h ∧ T ∈ addrsOf ws) := by
  have mem : ∀ {j : Nat} {T : Addr}, ws[j]? = some (.ref T) → T ∈ addrsOf ws := fun {j T} e => List.mem_filterMap.mpr ⟨.ref T, List.mem_of_getElem? e, rfl⟩
  have rowKeep : ∀ {h h' : Heap} {j : Nat} {v : Value} {ab : Str × Str}, ws[j]? = some v → RowAt h v ab → (∀ b ∈ addrsOf ws, ∀ o, h.get? b = some o → h'.get? b = some o) → RowAt h' v ab := by
    rintro h h' j v ab hj ⟨T, k, ta, tb, rfl, ho⟩ hk
    exact ⟨T, k, ta, tb, rfl, hk T (mem hj) _ ho⟩
  have bump : ∀ {h h' : Heap} {i : Nat}, Heap.ExtBut it h h' → h'.IsListIter it x i → h.get? x = some ox → (∀ (j : Nat) (v : Value) (ab : Str × Str), ws[j]? = some v → rows[j]? = some ab → RowAt h v ab) →
      StAcc it x ox ws rows i h' := fun hs hit hx hr =>
    ⟨hit, hs _ _ (Ne.symm hix) hx, fun j v ab hj hab => rowKeep hj (hr j v ab hj hab) fun b hb o e => hs b o (fun z => hiw b hb z.symm) e⟩
  refine ⟨by simp, fun i h h' st hk => ?_, fun i s Q E hi st hQ => ?_, fun elts k pos i T s Q E hm hQ => ?_, fun i T h hm => ?_, fun s Q E st hQ => ?_, fun i s Q E st hQ => wpAny_pyIter_listiter st.1 hQ⟩
  · obtain ⟨⟨o, ho, r⟩, hx, hr⟩ := st
    exact ⟨⟨o, hk it (by simp) o ho, r⟩, hk x (by simp) _ hx, fun j v ab hj hab => rowKeep hj (hr j v ab hj hab) fun b hb => hk b (by simp [hb])⟩
  · obtain ⟨hit, hx, hr⟩ := st
    have hiw' : i < ws.length := by lia
    obtain ⟨T, k, ta, tb, hv, ho⟩ := hr i ws[i] rows[i] (List.getElem?_eq_getElem hiw') (List.getElem?_eq_getElem hi)
    have hTm : T ∈ addrsOf ws := mem (by rw [List.getElem?_eq_getElem hiw', hv])
    refine nextObj_item (C := C) hit hx hd (x := .ref T) (by simp [List.getElem?_eq_getElem hiw', hv]) fun h' hit' hs => ?_
    exact hQ T _ h' s.toks ⟨rows[i], ta, tb, List.getElem?_eq_getElem hi, rfl⟩ ⟨_, hs.extBut T _ (fun z => hiw T hTm z.symm) ho, rfl, k, rfl⟩ ⟨bump hs.extBut hit' hx hr, hTm⟩ fun b o hb e => hs.extBut b o (by simpa using hb) e
  · exact wpAny_letOwnedTupleGo_listiter hm.1.1 (hQ s.heap hm.1 fun b o _ e => e)
  · simp only [List.mem_singleton]
    exact fun z => hiw T hm.2 z.symm
  · obtain ⟨hit, hx, hr⟩ := st
    exact nextObj_end (C := C) hh hit hx hd (by simp [hlen]) fun h' hs => hQ h' s.toks fun b o hb e => hs b o (by simpa using hb) e
theorem passing_all (n : Nat) : passing (fun _ => true) n 0 = List.range n := by
  unfold passing
  simp

noncomputable def EltOk (C : Cx) (scope : Scope) (elt : PySem.Expr) (xa xb : Str) (okR : Str × Str → Prop) (G : Str × Str → Value → Prop) : Prop :=
  ∀ (A' : Around) (E' : Value → Shared → Prop) (cenv : Env) (s₂ : Shared) (m₂ : Str → Option Value) (ab : Str × Str) (ta tb : Tok), A'.handled = none → okR ab → cenv.scope = scope → cenv.globals = mainGlobals → cenv.builtins = builtinsNs →
    s₂.heap.Ns cenv.locals m₂ → m₂ xa = some (.str ab.1 ta) → m₂ xb = some (.str ab.2 tb) → s₂.heap.Ns mainGlobals C.mg → s₂.heap.Ns builtinsNs C.mb →
    wpAny C.M A' (eval elt cenv) (fun y s₃ => G ab y ∧ Keeps s₂ s₃) E' s₂

theorem gen_acc (ok : C.Ok) {elt : PySem.Expr} {xa xb : Str} {pa pb pt ip pos : Pos} {kt : Nat} {scope : Scope} {p : Addr × Addr} {c : Addr} (S : SubList C.K c) {okR : Str × Str → Prop} {G : Str × Str → Value → Prop}
    (hT : p ∈ C.T) (hgv : C.gv p.2 = none) (hcode : env.code = .ref p.1) (hco : scope.isCoroutine = false) (hclos : closureFor scope env = pure []) (hcell : ∀ y ∈ scope.names, y.2 ≠ .cell) (h0 : scope.names.lookup (".0" : Str) = some NameKind.local)
    (hxa : scope.names.lookup xa = some .local) (hxb : scope.names.lookup xb = some .local) (hab : xa ≠ xb) (hk : scope.kind = .function) (hself : env.kindOf "self" = some .local) (helt : EltOk C scope elt xa xb okR G)
    {me : ME} {mh : MH} {ρ : Wd} {A : Around} {s : Shared} {Q : Value → Shared → Prop} {E : Value → Shared → Prop} {x : Addr} {i dd : Nat} {ms : List MV} {rows : List (Str × Str)} (ao : Aok d A) (I : Inv C ρ mh s.heap) (so : SOk C s) (F : FR C ρ env me s.heap)
    (hx : ρ.ids[i]? = some x) (hm : ∃ m, s.heap.Ns env.locals m ∧ m "self" = some (.ref x)) (hi : mh[i]? = some (.inst c dd (some ms))) (hr : rowsOf ms = some rows) (hokR : ∀ ab ∈ rows, okR ab)
    (hQ : ∀ a fp wr gn St s₅, WalksS C.prog C.w A.in4 a fp wr (GenOnlyQ gn) rows.length (fun j y => ∃ ab, rows[j]? = some ab ∧ G ab y) St → St 0 s₅ → (∀ i s', St i s' → s'.TypeIs (.ref a) "generator") → a ∈ fp → (∀ b ∈ fp, b < s₅.heap.objs.size) →
      (∀ b ∈ wr, s.heap.get? b = none) → Ext C ρ [] s.heap ρ s₅.heap → Inv C ρ mh s₅.heap → SOk C s₅ → Q (.ref a) s₅) :
    wpAny C.M A (eval (.GeneratorExp elt [⟨.Tuple [.Name xa pa, .Name xb pb] kt pt, .Name "self" ip, [], 0⟩] scope pos) env) Q E s := by
  obtain ⟨m, hns, hms⟩ := hm
  obtain ⟨ox, hox, da, ws, n, hda, rfl, r⟩ := I.at hi hx
  obtain ⟨hlen, hrow⟩ := rows_at I r hr
  have e0 : s.heap.get? s.heap.objs.size = none := get_size _
  refine wpAny_GeneratorExp_walksQT ao.handled hco hclos hcell h0 hxa hxb hab hk ao.room (wpAny_Name (wpAny_loadName_local F.kind hself hns hms ?_) (by decide)) (fun _ => rfl)
  refine subIter ok S (I.k ok) hox rfl rfl ?_
  have kp : ∀ b o', s.heap.get? b = some o' → (s.heap.push { cls := .type "list_iterator", data := .fields #[.ref x, .int 0 0] }).get? b = some o' := fun b o' e => Heap.get?_push_of_some _ e
  have I1 : Inv C ρ mh (s.heap.push { cls := .type "list_iterator", data := .fields #[.ref x, .int 0 0] }) := I.junk kp
  have hit : (s.heap.push { cls := .type "list_iterator", data := .fields #[.ref x, .int 0 0] }).IsListIter s.heap.objs.size x 0 := ⟨_, Heap.get?_push_size _ rfl, rfl, rfl⟩
  generalize hH1 : s.heap.push { cls := .type "list_iterator", data := .fields #[.ref x, .int 0 0] } = H1 at kp I1 hit ⊢
  refine ⟨I1.nolimit ok, ?_⟩
  obtain ⟨ps, hok, _⟩ := I1.tab p hT
  have hgc : ∀ {Q' : Value → Shared → Prop} {q : Str} {tk : Tok} {A' : Around} {E' : Value → Shared → Prop}, (∀ code h' tk' ps', Heap.ExtBut p.2 H1 h' → CodeTab h' p.1 p.2 ps' → Q' code { s with heap := h', toks := tk' }) → wpAny C.M A' (genexprCode env pos q scope) Q' E' { s with heap := H1, toks := tk } := by
    intro Q' q tk A' E' hh
    cases hf : codeAmong pos ps.toList with
    | some cv => exact wpAny_genexprCode_hit hcode hok.1 hf (hh _ _ _ ps (fun b o _ e => e) hok)
    | none => exact wpAny_genexprCodeX hcode hok.1 hok.2 hf fun c' h' tk' e1 _ _ e2 _ e3 _ => hh _ _ _ _ e1 ⟨e2, e3⟩
  refine hgc fun code h2 tk2 ps2 hx2 hc2 => ?_
  have I2 : Inv C ρ mh h2 := I1.grow hT hx2 hc2 (fun pos q e => by rw [hgv] at e; cases e) (ok.tu p hT)
  have x12 : Ext C ρ [] s.heap ρ h2 := (Ext.all kp).trans (Ext.grow (mem_X hT) hx2 ⟨_, hc2.2.2⟩)
  obtain ⟨bm, ob, hbm, hbn, hbo, hbc, hbd, hbp, hbx⟩ := ok.mod
  refine wpAny_builtinsFor (m := C.mg) (by rw [F.glob]; exact I2.g ok) hbm hbn (I2.keep _ _ hbo hbx) hbc hbd hbp ?_
  have itn : C.base.get? s.heap.objs.size = none := (I.fresh e0).2
  have itP : s.heap.objs.size ≠ p.2 := fun z => I.not_x itn (z ▸ mem_X hT)
  have hit2 : h2.IsListIter s.heap.objs.size x 0 := let ⟨o, ho, r⟩ := hit; ⟨o, hx2 _ o itP ho, r⟩
  have xP : x ≠ p.2 := fun z => I.id_x (List.mem_of_getElem? hx) (z ▸ mem_X hT)
  have xkeep : h2.get? x = some { cls := .ref c, dict := some da, data := .seq ws.toArray n } := hx2 _ _ xP (kp _ _ hox)
  obtain ⟨hlen2, hrow2⟩ : ws.length = rows.length ∧ ∀ (j : Nat) (v : Value) (ab : Str × Str), ws[j]? = some v → rows[j]? = some ab → RowAt h2 v ab := rows_at I2 r hr
  have hadr : ∀ a ∈ addrsOf ws, ∃ (j : Nat) (v : Value) (ab : Str × Str), ws[j]? = some v ∧ rows[j]? = some ab ∧ v = Value.ref a := by
    intro a ha
    obtain ⟨v, hv, e⟩ := List.mem_filterMap.mp ha
    obtain ⟨j, hj, rfl⟩ := List.mem_iff_getElem.mp hv
    refine ⟨j, ws[j], rows[j], List.getElem?_eq_getElem hj, List.getElem?_eq_getElem (hlen2 ▸ hj), ?_⟩
    split at e
    · cases e; assumption
    · cases e
  have hadrLive : ∀ a ∈ addrsOf ws, ∃ o, s.heap.get? a = some o := by
    intro a ha
    obtain ⟨j, v, ab, hj, hab', rfl⟩ := hadr a ha
    obtain ⟨T, k, ta, tb, e, ho⟩ := hrow j _ ab hj hab'
    cases e; exact ⟨_, ho⟩
  have hix : s.heap.objs.size ≠ x := fun z => by rw [← z, e0] at hox; cases hox
  have hiw : ∀ a ∈ addrsOf ws, s.heap.objs.size ≠ a := fun a ha z => by obtain ⟨o, e⟩ := hadrLive a ha; rw [← z, e0] at e; cases e
  have sub2 : ∀ b o, s.heap.get? b = some o → ∃ o', h2.get? b = some o' := x12.live
  refine ⟨s.heap.objs.size, s.heap.objs.size :: x :: addrsOf ws, [s.heap.objs.size], rows.length, PtAcc rows, StAcc s.heap.objs.size x _ ws rows, _, fun _ => true, fun i y => ∃ ab, rows[i]? = some ab ∧ G ab y, rfl,
    fun A' hA' => walksAcc hA' rfl hlen hix hiw, fun i vals ⟨ab, ta, tb, _, e⟩ => ⟨_, _, e⟩, ⟨hit2, xkeep, hrow2⟩, ?_, I2.nolimit ok, ?_, ?_, ?_⟩
  · intro b hb
    rcases List.mem_cons.mp hb with rfl | hb
    · exact Heap.lt_size hit2.choose_spec.1
    · rcases List.mem_cons.mp hb with rfl | hb
      · exact Heap.lt_size xkeep
      · obtain ⟨o, e⟩ := hadrLive b hb
        obtain ⟨o', e'⟩ := sub2 b o e
        exact Heap.lt_size e'
  · intro hm
    rw [List.mem_singleton] at hm
    obtain ⟨mc, hn, _⟩ := I.nolimit ok
    obtain ⟨o, e⟩ := Ns.live hn
    rw [hm, e0] at e; cases e
  · intro href hhref
    have up : ∀ {s₂ : Shared}, (∀ b ∈ List.range h2.objs.size, b ∉ [s.heap.objs.size] → ∀ o, href.get? b = some o → s₂.heap.get? b = some o) → ∀ b o, b ≠ s.heap.objs.size → h2.get? b = some o → s₂.heap.get? b = some o :=
      fun hk b o hb e => hk b (List.mem_range.mpr (Heap.lt_size e)) (by simpa using hb) o (hhref b o e)
    refine ⟨fun A' E' i va vb s₂ m₂ _ _ _ _ _ _ => wpAny_tests_nil ⟨rfl, s₂.heap, s₂.toks, rfl, fun b o e => e⟩, fun A' E' i va vb s₂ m₂ hA hP _ hns2 hma hmb hk => ?_⟩
    obtain ⟨ab, ta, tb, hab', e⟩ := hP
    have e' : va = .str ab.1 ta ∧ vb = .str ab.2 tb := by
      have := congrArg Array.toList e
      simpa using this
    obtain ⟨rfl, rfl⟩ := e'
    have gne : mainGlobals ≠ s.heap.objs.size := fun z => by obtain ⟨o, e⟩ := Ns.live (I.g ok); rw [z, e0] at e; cases e
    have bne' : builtinsNs ≠ s.heap.objs.size := fun z => by obtain ⟨o, e⟩ := Ns.live (I.b ok); rw [z, e0] at e; cases e
    refine wpAny_mono (helt A' E' _ s₂ m₂ ab ta tb hA (hokR _ (List.mem_of_getElem? hab')) rfl (by show env.globals = _; exact F.glob) rfl hns2 hma hmb (Ns.keep1 (I2.g ok) fun o e => up hk _ o gne e) (Ns.keep1 (I2.b ok) fun o e => up hk _ o bne' e)) (fun y s₃ h3 => ⟨⟨ab, hab', h3.1⟩, h3.2⟩) fun _ _ e => e
  · intro a h5 tk gs hgb hag hsz5 hk5 W hat
    have x5 : Ext C ρ [] s.heap ρ h5 := x12.trans (Ext.all hk5)
    have I5 : Inv C ρ mh h5 := I2.junk hk5
    rw [passing_all] at W
    simp only [List.length_range] at W
    refine hQ a _ _ _ _ { heap := h5, gens := s.gens.push gs, drawn := s.drawn, toks := tk, os := s.os } ⟨W.sub, W.grefl, W.gtrans, W.frame, fun i s Q E hi st hQ' => W.item i s Q E hi st fun v s' hv => hQ' v s' (by
      obtain ⟨i', hi', ab, hab', hg⟩ := hv
      have : i' = i := by
        rw [List.getElem?_range hi] at hi'
        exact (Option.some.inj hi').symm
      subst this
      exact ⟨ab, hab', hg⟩), W.done, W.self⟩ hat (fun i s' st => st.1.typeIs) List.mem_cons_self ?_ ?_ x5 I5 ?_
    · intro b hb
      show b < h5.objs.size
      rw [hsz5]
      rcases List.mem_cons.mp hb with rfl | hb
      · exact Nat.lt_succ_self _
      · rcases List.mem_cons.mp hb with rfl | hb
        · exact Nat.lt_succ_of_lt hag
        · exact Nat.lt_succ_of_lt (Nat.lt_trans (List.mem_range.mp hb) hag)
    · intro b hb
      rcases List.mem_cons.mp hb with rfl | hb
      · cases e : s.heap.get? h2.objs.size with
        | none => rfl
        | some o => obtain ⟨o', e'⟩ := sub2 _ o e; exact absurd (Heap.lt_size e') (Nat.lt_irrefl _)
      · rw [List.mem_singleton] at hb; subst hb; exact e0
    · exact ⟨so.os, so.gens.push hgb⟩
end Mine

namespace Mine
variable {C : Cx} {d : Nat} {env : Env}

theorem args_sum2 (a b : Value) : argsOk "sum" ⟨[a, b], []⟩ := by unfold argsOk; kernel_rfl

theorem call_sum2 {prog : Program} {w : World} {A : Around} {E : Value → Shared → Prop} {s₂ : Shared} {tk : Tok} {Q : Value → Shared → Prop} {I : Addr} {fp wr : List Addr} {G : Array GenState → Array GenState → Prop} {n : Nat} {P : Nat → Value → Prop} {St : Nat → Shared → Prop}
    (W : WalksS prog w A.in1 I fp wr G n P St) (hst : St 0 s₂) (hfp : ∀ b ∈ fp, b < s₂.heap.objs.size) (val : Nat → Int) (hval : ∀ i v, P i v → ∃ t, v = .int (val i) t) (hQ : ∀ s' t', Moved wr G s₂ s' → Q (.int (preSum val n) t') s') :
    wpAny (model prog w) A (call (.builtin "sum") [.ref I, .int 0 tk]) Q E s₂ := by
  refine call_function_tree PySem.F.kind_sum PySem.F.plain_sum PySem.F.entry_sum (args_sum2 _ _) ?_
  unfold Builtin.«sum»
  simp only [List.length_cons, List.length_nil]
  rw [if_neg (by decide)]
  refine wpAny_bind (wpAny_of_eq (show Builtin.Builtins.bindParams "sum" ["start"] 0 ⟨[.int 0 tk], []⟩ = pure [some (.int 0 tk)] from rfl) ?_)
  refine wpAny_bind (W.self 0 s₂ _ _ hst ?_)
  have tail : ∀ (t0 : Tok) (s₃ : Shared), s₃.heap = s₂.heap → s₃.gens = s₂.gens → s₃.drawn = s₂.drawn → s₃.os = s₂.os → s₂.toks ≤ s₃.toks → wpAny (model prog w) A.in1 (do
      for (ty, what, hint) in [("str", "strings", "''"), ("bytes", "bytes", "b''"), ("bytearray", "bytearray", "b''")] do
        if ← isInstance (.int 0 t0) (.type ty) then
          rule "sum.start-refused"; raiseError "TypeError" s!"sum() can't sum {what} [use {hint}.join(seq) instead]"
      again (.builtin "sum.loop" ⟨[.ref I, ← newList [.int 0 t0], rawInt 0, rawInt 0], []⟩)) (fun fin s' => match fin with
      | .done f => (match (Except.ok f : Result) with | .ok (.ret v) => Q v s' | .ok _ => False | .error e => E e s')
      | .again c' => c'.quiet = true ∧ codeAny (model prog w) A c' (fun r s' => match r with | .ok (.ret v) => Q v s' | .ok _ => False | .error e => E e s') s') E s₃ := by
    rintro t0 ⟨h3, g3, d3, tk3, os3⟩ e1 e2 e3 e4 e5
    dsimp only at e1 e2 e3 e4 e5
    subst e1 e2 e3 e4
    simp only [List.forIn_cons, List.forIn_nil]
    refine wpAny_bind (wpAny_bind (wpAny_bind (wpAny_isInstance (T := "int") (b := false) (typeIs_int _ _ _) PySem.sub_int_str ?_)))
    simp only [Bool.false_eq_true, if_false]
    refine wpAny_pure (wpAny_bind (wpAny_bind (wpAny_isInstance (T := "int") (b := false) (typeIs_int _ _ _) PySem.sub_int_bytes ?_)))
    simp only [Bool.false_eq_true, if_false]
    refine wpAny_pure (wpAny_bind (wpAny_bind (wpAny_isInstance (T := "int") (b := false) (typeIs_int _ _ _) PySem.sub_int_bytearray ?_)))
    simp only [Bool.false_eq_true, if_false]
    refine wpAny_pure (wpAny_pure ?_)
    refine wpAny_bind (wpAny_newObj_type ?_)
    have hSf : s₂.heap.objs.size ∉ fp := fun hm => Nat.lt_irrefl _ (hfp _ hm)
    refine wpAny_pure ⟨plainId_quiet PySem.F.plain_sum_loop _, codeAny_sum_loopAnyS W val hval s₂.heap.objs.size hSf n 0 _ t0 0 0 (.inl rfl) rfl (Nat.zero_le _)
      (W.frame 0 s₂ _ _ hst e5 fun b _ o e => Heap.get?_push_of_some _ e) (Heap.get?_push_size _ rfl) fun s' t' hm => ?_⟩
    refine hQ s' t' ?_
    exact Moved.drop_new hm e5
  dsimp only
  rw [if_pos (by rfl)]
  refine wpAny_bind (wpAny_rule (wpAny_bind (wpAny_mkInt (wpAny_bind (wpAny_pure ?_)))))
  exact tail _ _ rfl rfl rfl rfl (Nat.le_succ _)

noncomputable def lenRows (rows : List (Str × Str)) : Int := (rows.map fun ab => ((ab.1.length : Int) + (ab.2.length : Int))).sum
theorem preSum_rows (rows : List (Str × Str)) : ∀ n, n ≤ rows.length → preSum (fun j => match rows[j]? with | some ab => (ab.1.length : Int) + (ab.2.length : Int) | none => 0) n = lenRows (rows.take n)
  | 0, _ => by simp [preSum, lenRows]
  | n + 1, h => by
    have hn : n < rows.length := h
    unfold preSum
    rw [preSum_rows rows n (by lia), List.getElem?_eq_getElem hn, List.take_succ, List.getElem?_eq_getElem hn]
    show _ = lenRows (rows.take n ++ [rows[n]])
    unfold lenRows
    rw [List.map_append, List.sum_append]
    simp only [List.map_cons, List.map_nil, List.sum_cons, List.sum_nil, Int.add_zero]

theorem Inv.extMany {ρ : Wd} {mh : MH} {h h' : Heap} (I : Inv C ρ mh h) {wr : List Addr} (hw : ∀ b ∈ wr, ¬ ρ.has b ∧ C.base.get? b = none) (hk : ∀ b o, b ∉ wr → h.get? b = some o → h'.get? b = some o) : Inv C ρ mh h' := by
  have bl : ∀ b o, C.base.get? b = some o → b ∉ wr := fun b o e hm => by rw [(hw b hm).2] at e; cases e
  refine ⟨I.len, I.nd, fun i mo hi => ?_, fun p hm => ?_, I.sep, I.st, I.new, I.newf, fun b o e hx => hk b o (bl b o e) (I.keep b o e hx), I.tabKeep fun p hp b o hb' e => hk b o ?_ e, I.xb, I.pw⟩
  · obtain ⟨a, o, h1, h2, h3⟩ := I.obj i mo hi
    exact ⟨a, o, h1, hk a o (fun hm => (hw a hm).1 (.inl (List.mem_of_getElem? h1))) h2, h3⟩
  · exact hk _ _ (fun hm' => (hw _ hm').1 (.inr ⟨p.2, hm⟩)) (I.fz p hm)
  · obtain ⟨⟨o1, e1⟩, ⟨o2, e2⟩, _⟩ := I.xb p hp
    rcases hb' with rfl | rfl
    · exact bl _ _ e1
    · exact bl _ _ e2

noncomputable def dLenAcc (c : Addr) (xs : Nat) : D := fun me mh => match me.lookup xs with
  | some (.ref i) => (match mh[i]? with
    | some (.inst c' dd (some ms)) => if c' = c then (match mh[dd]?, rowsOf ms with
      | some (.attrs l), some rows => (match l.lookup ("_initial_size" : Str) with
        | some (.int k) => if k = 0 ∧ rows.length ≤ 100000 ∧ (rows.all fun ab => decide (ab.1.length ≤ sizeLine) && decide (ab.2.length ≤ sizeLine)) = true then some (.int (lenRows rows), mh) else none
        | _ => none)
      | _, _ => none) else none
    | _ => none)
  | _ => none

set_option tactic.hygienic true in
theorem RE_sumAcc (ok : C.Ok) {elt : PySem.Expr} {xs : Nat} {xa xb : Str} {pf pa pb pt ip ap at_ gpos pos : Pos} {kt : Nat} {scope : Scope} {p : Addr × Addr} {c : Addr} (S : SubList C.K c)
    (hg : C.mg "sum" = none) (hb : C.mb "sum" = some (.builtin "sum")) (hsum : env.kindOf "sum" = some .globalImplicit) (hxs : C.tbl[xs]? = some "self")
    (hT : p ∈ C.T) (hgv : C.gv p.2 = none) (hcode : env.code = .ref p.1) (hco : scope.isCoroutine = false) (hclos : closureFor scope env = pure []) (hcell : ∀ y ∈ scope.names, y.2 ≠ .cell) (h0 : scope.names.lookup (".0" : Str) = some NameKind.local)
    (hxa : scope.names.lookup xa = some .local) (hxb : scope.names.lookup xb = some .local) (hab : xa ≠ xb) (hk : scope.kind = .function) (hself : env.kindOf "self" = some .local)
    (helt : EltOk C scope elt xa xb (fun ab => ab.1.length ≤ sizeLine ∧ ab.2.length ≤ sizeLine) (fun ab y => ∃ t, y = .int ((ab.1.length : Int) + (ab.2.length : Int)) t))
    (hdd : hasDictIn C.K c = true) (hf : findIn C.K (.ref c) "_initial_size" = some none)
    (he : eval (.Attribute (.Name "self" ap) "_initial_size" at_) env = (do
      let o ← eval (.Name "self" ap) env
      standAt at_.atName
      let r ← holding [o] (getAttr o "_initial_size" true)
      letTemporaryGo (.Name "self" ap) o r
      pure r) := by with_unfolding_all rfl) :
    RE C d env (.Call (.Name "sum" pf) [.GeneratorExp elt [⟨.Tuple [.Name xa pa, .Name xb pb] kt pt, .Name "self" ip, [], 0⟩] scope gpos, .Attribute (.Name "self" ap) "_initial_size" at_] [] pos) (dLenAcc c xs) := by
  intro me mh mv mh' h ρ A s Q E ao I so F hQ
  unfold dLenAcc at h
  split at h
  · rename_i i hme
    split at h
    · rename_i c' dd ms hi
      split at h
      · rename_i hc
        subst hc
        split at h
        · rename_i l rows hl hr
          split at h
          · rename_i k hk0
            split at h
            · rename_i hcond
              obtain ⟨rfl, hlen, hall⟩ := hcond
              cases h
              obtain ⟨rv, hv1, hv2⟩ := F.var xs _ "self" hme hxs
              obtain ⟨x, hx, rfl⟩ := hv1.ref_
              unfold VarAt at hv2
              rw [hself] at hv2
              refine wpAny_Call_NameR (eval_bui ok hg hb hsum (by decide) I F ?_)
              refine PyProof.Rows.callWith_builtin1 (PyProof.Rows.args_cons ?_ rfl) rfl rfl
              refine gen_acc ok S hT hgv hcode hco hclos hcell h0 hxa hxb hab hk hself helt ao I so F hx hv2 hi hr (fun ab hm => by
                have := List.all_eq_true.mp hall ab hm
                simpa using this) fun a fp wr gn St s5 W hst hTg haf hfp hwr x5 I5 so5 => ?_
              have F5 := F.ext0 x5
              obtain ⟨rv5, hv5, hv6⟩ := F5.var xs _ "self" hme hxs
              obtain ⟨x', hx', rfl⟩ := hv5.ref_
              rw [hx] at hx'; cases hx'
              unfold VarAt at hv6
              rw [hself] at hv6
              obtain ⟨m5, hns5, hm5⟩ := hv6
              refine PyProof.Rows.args_cons (Attribute_any_ (wpAny_Name (wpAny_loadName_local F.kind hself hns5 hm5 ?_) (by decide)) he) rfl
              obtain ⟨ox, od, IA, ns⟩ := inst_at I5 hi hl hx
              have q := ns.look "_initial_size"
              rw [hk0] at q
              obtain ⟨rv0, q1, q2⟩ := q
              obtain ⟨tk0, rfl⟩ := q2.int_
              refine get_valueP (I5.k ok) IA S.plain (findObj_own hdd hf rfl q1) rfl ?_
              refine PyProof.Rows.args_nil ?_
              refine call_sum2 W.of_in1.of_in1.of_in1 (W.frame 0 s5 s5.heap _ hst (Nat.le_succ _) fun _ _ _ e => e) hfp (fun j => match rows[j]? with | some ab => (ab.1.length : Int) + (ab.2.length : Int) | none => 0)
                (fun j v hv => by obtain ⟨ab, hab', t, rfl⟩ := hv; exact ⟨t, by rw [hab']⟩) fun s6 t6 hm6 => ?_
              rw [preSum_rows rows _ (Nat.le_refl _), List.take_length]
              have k6 : ∀ b o o', s.heap.get? b = some o → s5.heap.get? b = some o' → s6.heap.get? b = some o' := fun b o o' e e' => hm6.heap b o' (fun hw => by rw [hwr b hw] at e; cases e) e'
              have hwr2 : ∀ b ∈ wr, ¬ ρ.has b ∧ C.base.get? b = none := fun b hb => I.fresh (hwr b hb)
              have I6 : Inv C ρ mh s6.heap := I5.extMany hwr2 hm6.heap
              have x6 : Ext C ρ [] s.heap ρ s6.heap := by
                refine ⟨.refl ρ, fun b o e hb hx hF => k6 b o o e (x5.keep b o e hb hx hF), fun a ha => .inl ha, fun a ha => .inl ha, fun b o e => ?_⟩
                obtain ⟨o', e'⟩ := x5.live b o e
                exact ⟨o', hm6.heap b o' (fun hw => by rw [hwr b hw] at e; cases e) e'⟩
              exact hQ _ ρ s6 x6 I6 ⟨hm6.os.trans so5.os, hm6.gens.bare so5.gens⟩ .int'
            · cases h
          · cases h
        · cases h
      · cases h
    · cases h
  · cases h
end Mine

namespace Mine
variable {C : Cx} {d : Nat} {env : Env}

theorem eltLen {scope : Scope} {xa xb : Str} {pb p1 p2 p3 p4 p5 p6 : Pos} (hk : scope.kind = .function) (hxa : scope.names.lookup xa = some .local) (hxb : scope.names.lookup xb = some .local) (hl : scope.names.lookup ("len" : Str) = some .globalImplicit)
    (hda : (xa == ("__debug__" : Str)) = false) (hdb : (xb == ("__debug__" : Str)) = false) (hg : C.mg "len" = none) (hb : C.mb "len" = some (.builtin "len")) :
    EltOk C scope (.BinOp (.Call (.Name "len" p1) [.Name xa p2] [] p3) .Add (.Call (.Name "len" p4) [.Name xb p5] [] p6) pb) xa xb (fun ab => ab.1.length ≤ sizeLine ∧ ab.2.length ≤ sizeLine) (fun ab y => ∃ t, y = .int ((ab.1.length : Int) + (ab.2.length : Int)) t) := by
  intro A' E' cenv s₂ m₂ ab ta tb hA hok hsc hgl hbu hns hma hmb hG hB
  have kf : cenv.scope.kind = .function := by rw [hsc]; exact hk
  have ka : cenv.kindOf xa = some .local := by show cenv.scope.names.lookup xa = _; rw [hsc]; exact hxa
  have kb : cenv.kindOf xb = some .local := by show cenv.scope.names.lookup xb = _; rw [hsc]; exact hxb
  have kl : cenv.kindOf "len" = some .globalImplicit := by show cenv.scope.names.lookup ("len" : Str) = _; rw [hsc]; exact hl
  have fit : ∀ n : Nat, n ≤ sizeLine → (n : Int) < 2 ^ 63 := fun n h => by
    have : sizeLine = 16777216 := rfl
    lia
  have gl : ∀ {s₃ : Shared} {p : Pos} {Q : Value → Shared → Prop}, s₃.heap = s₂.heap → Q (.builtin "len") s₃ → wpAny C.M A' (eval (.Name "len" p) cenv) Q E' s₃ := fun e hq =>
    Calls.Name_function_global kf kl (Calls.loadGlobal_builtin (by rw [hgl, e]; exact hG) hg (by rw [hbu, e]; exact hB) hb hq) (by decide)
  refine wpAny_BinOp (wpAny_Call_NameR (gl rfl ?_))
  refine PyProof.Rows.callWith_builtin1 (PyProof.Rows.args_cons (wpAny_Name (wpAny_loadName_local kf ka hns hma ?_) hda) rfl) rfl rfl
  refine PyProof.Rows.args_nil (PySem.P.len_str (Int.not_le.mpr (fit _ hok.1)) ?_)
  refine wpAny_Call_NameR (gl rfl ?_)
  refine PyProof.Rows.callWith_builtin1 (PyProof.Rows.args_cons (wpAny_Name (wpAny_loadName_local kf kb hns hmb ?_) hdb) rfl) rfl rfl
  refine PyProof.Rows.args_nil (PySem.P.len_str (Int.not_le.mpr (fit _ hok.2)) ?_)
  refine add_int ?_
  exact ⟨⟨_, rfl⟩, s₂.heap, _, rfl, fun b o e => e⟩

theorem eltJoin {scope : Scope} {xa xb g : Str} {p1 p2 p3 p4 p5 p6 : Pos} {kt : Nat} {tg : Tok} (hk : scope.kind = .function) (hxa : scope.names.lookup xa = some .local) (hxb : scope.names.lookup xb = some .local) (hl : scope.names.lookup g = some .globalImplicit)
    (hda : (xa == ("__debug__" : Str)) = false) (hdb : (xb == ("__debug__" : Str)) = false) (hdg : (g == ("__debug__" : Str)) = false) (hg : C.mg g = some (.str ⟨#[]⟩ tg))
    (he : ∀ cenv : Env, ∃ pl, attributeBase (.Name g p1) "join" cenv (eval (.Name g p1) cenv) = eval (.Name g p1) cenv ∧ eval (.Call (.Attribute (.Name g p1) "join" p2) [.Tuple [.Name xa p3, .Name xb p4] kt p5] [] p6) cenv = (do
      let ov ← attributeBase (.Name g p1) "join" cenv (eval (.Name g p1) cenv)
      standAt p2.atName
      let (f, first) ← holding [ov] (getMethod ov "join" pl)
      callWith p6 f first (backTo p6 (starEach [.Tuple [.Name xa p3, .Name xb p4] kt p5] cenv)) []) := by intro cenv; exact ⟨_, rfl, rfl⟩) :
    EltOk C scope (.Call (.Attribute (.Name g p1) "join" p2) [.Tuple [.Name xa p3, .Name xb p4] kt p5] [] p6) xa xb (fun ab => ab.1.length + ab.2.length ≤ 16777216) (fun ab y => ∃ t, y = .str (Txt.join ⟨#[]⟩ [ab.1, ab.2]) t) := by
  intro A' E' cenv s₂ m₂ ab ta tb hA hok hsc hgl hbu hns hma hmb hG hB
  have kf : cenv.scope.kind = .function := by rw [hsc]; exact hk
  have ka : cenv.kindOf xa = some .local := by show cenv.scope.names.lookup xa = _; rw [hsc]; exact hxa
  have kb : cenv.kindOf xb = some .local := by show cenv.scope.names.lookup xb = _; rw [hsc]; exact hxb
  have kl : cenv.kindOf g = some .globalImplicit := by show cenv.scope.names.lookup g = _; rw [hsc]; exact hl
  obtain ⟨pl, hbase, he⟩ := he cenv
  rw [he, hbase]
  refine wpAny_bind (Calls.Name_function_global kf kl (Calls.loadGlobal_global (by rw [hgl]; exact hG) hg ?_) hdg)
  refine wpAny_bind (wpAny_standAt (wpAny_bind (wpAny_holding (getMethod_builtin (id := "str.join") (typeIs_str _ _ _) PySem.F.plainAttrs_str PySem.F.slot_str_join PySem.F.type_str_join (fun a e => by cases e) ?_))))
  dsimp only
  refine Calls.callWith_builtin rfl (Calls.evalArgs_plain ?_)
  refine PyProof.Rows.args_cons (PyProof.Rows.Tuple_ (PyProof.Rows.args_cons (wpAny_Name (wpAny_loadName_local kf ka hns hma ?_) hda) rfl)) rfl
  refine PyProof.Rows.args_cons (wpAny_Name (wpAny_loadName_local kf kb hns hmb ?_) hdb) rfl
  refine PyProof.Rows.args_nil (wpAny_newTuple ?_ (by show 2 ≤ sizeLine; decide))
  refine PyProof.Rows.args_nil ?_
  refine PyProof.Rows.join_tuple (items := #[.str ab.1 ta, .str ab.2 tb]) (ys := [ab.1, ab.2]) ⟨_, Heap.get?_push_size _ rfl, rfl, _, rfl⟩ ?_ (by simp; exact hok) fun t' k => ⟨⟨_, rfl⟩, _, _, rfl, fun b o e => Heap.get?_push_of_some _ e⟩
  exact .cons _ _ (.cons _ _ .nil)

noncomputable def txtJ (a b : Str) : Str := Txt.join ⟨#[]⟩ [a, b]
noncomputable def strRows (rows : List (Str × Str)) : Str := Txt.join ⟨#[]⟩ (rows.map fun ab => txtJ ab.1 ab.2)
noncomputable def dStrAcc (c : Addr) (xs : Nat) : D := fun me mh => match me.lookup xs with
  | some (.ref i) => (match mh[i]? with
    | some (.inst c' _ (some ms)) => if c' = c then (match rowsOf ms with
      | some rows => if rows.length ≤ 100000 ∧ (rows.all fun ab => decide (ab.1.length + ab.2.length ≤ 16777216)) = true ∧ JoinOk ⟨#[]⟩ (rows.map fun ab => txtJ ab.1 ab.2) = true then some (.str (strRows rows), mh) else none
      | _ => none) else none
    | _ => none)
  | _ => none

theorem items_rows {rows : List (Str × Str)} {l : List (Str × Tok)} (h : ItemsOf (fun j y => ∃ ab, rows[j]? = some ab ∧ ∃ t, y = Value.str (txtJ ab.1 ab.2) t) (strValues l).toArray rows.length) : l.map (·.1) = rows.map fun ab => txtJ ab.1 ab.2 := by
  obtain ⟨hl, hi⟩ := h
  have hl' : l.length = rows.length := by simpa [strValues] using hl
  refine List.ext_getElem? fun j => ?_
  by_cases hj : j < l.length
  · obtain ⟨ab, hab, t, e⟩ := hi j (.str l[j].1 l[j].2) (by simp [strValues, hj])
    have e' : l[j].1 = txtJ ab.1 ab.2 := by injection e
    simp [List.getElem?_map, hab, List.getElem?_eq_getElem hj, e']
  · rw [List.getElem?_eq_none (by simpa using hj), List.getElem?_eq_none (by simp; lia)]

set_option tactic.hygienic true in
theorem RE_joinAcc (ok : C.Ok) {elt : PySem.Expr} {xs : Nat} {g xa xb : Str} {tg : Tok} {pf pj pa pb pt ip gpos pos : Pos} {kt : Nat} {scope : Scope} {p : Addr × Addr} {c : Addr} {pl : Sem Bool} (S : SubList C.K c)
    (hg : C.mg g = some (.str ⟨#[]⟩ tg)) (hgk : env.kindOf g = some .globalImplicit) (hdg : (g == ("__debug__" : Str)) = false) (hxs : C.tbl[xs]? = some "self")
    (hT : p ∈ C.T) (hgv : C.gv p.2 = none) (hcode : env.code = .ref p.1) (hco : scope.isCoroutine = false) (hclos : closureFor scope env = pure []) (hcell : ∀ y ∈ scope.names, y.2 ≠ .cell) (h0 : scope.names.lookup (".0" : Str) = some NameKind.local)
    (hxa : scope.names.lookup xa = some .local) (hxb : scope.names.lookup xb = some .local) (hab : xa ≠ xb) (hk : scope.kind = .function) (hself : env.kindOf "self" = some .local)
    (helt : EltOk C scope elt xa xb (fun ab => ab.1.length + ab.2.length ≤ 16777216) (fun ab y => ∃ t, y = .str (Txt.join ⟨#[]⟩ [ab.1, ab.2]) t))
    (hbase : attributeBase (.Name g pf) "join" env (eval (.Name g pf) env) = eval (.Name g pf) env)
    (he : eval (.Call (.Attribute (.Name g pf) "join" pj) [.GeneratorExp elt [⟨.Tuple [.Name xa pa, .Name xb pb] kt pt, .Name "self" ip, [], 0⟩] scope gpos] [] pos) env = (do
      let ov ← attributeBase (.Name g pf) "join" env (eval (.Name g pf) env)
      standAt pj.atName
      let (f, first) ← holding [ov] (getMethod ov "join" pl)
      callWith pos f first (backTo pos (starEach [.GeneratorExp elt [⟨.Tuple [.Name xa pa, .Name xb pb] kt pt, .Name "self" ip, [], 0⟩] scope gpos] env)) []) := by rfl) :
    RE C d env (.Call (.Attribute (.Name g pf) "join" pj) [.GeneratorExp elt [⟨.Tuple [.Name xa pa, .Name xb pb] kt pt, .Name "self" ip, [], 0⟩] scope gpos] [] pos) (dStrAcc c xs) := by
  intro me mh mv mh' h ρ A s Q E ao I so F hQ
  unfold dStrAcc at h
  split at h
  · rename_i i hme
    split at h
    · rename_i c' dd ms hi
      split at h
      · rename_i hc
        subst hc
        split at h
        · rename_i rows hr
          split at h
          · rename_i hcond
            obtain ⟨hlen, hall, hjok⟩ := hcond
            cases h
            obtain ⟨rv, hv1, hv2⟩ := F.var xs _ "self" hme hxs
            obtain ⟨x, hx, rfl⟩ := hv1.ref_
            unfold VarAt at hv2
            rw [hself] at hv2
            rw [he, hbase]
            refine wpAny_bind (eval_glob ok hg hgk hdg I F ?_)
            refine wpAny_bind (wpAny_standAt (wpAny_bind (wpAny_holding (getMethod_builtin (id := "str.join") (typeIs_str _ _ _) PySem.F.plainAttrs_str PySem.F.slot_str_join PySem.F.type_str_join (fun a e => by cases e) ?_))))
            dsimp only
            have fin : wpAny C.M A (spliced (backTo pos (starEach [.GeneratorExp elt [⟨.Tuple [.Name xa pa, .Name xb pb] kt pt, .Name "self" ip, [], 0⟩] scope gpos] env))) (fun ws s2 => wpAny C.M A (call (.builtin "str.join") ([.str ⟨#[]⟩ tg] ++ ws)) Q E s2) E s → wpAny C.M A (callWith pos (.builtin "str.join") [.str ⟨#[]⟩ tg] (backTo pos (starEach [.GeneratorExp elt [⟨.Tuple [.Name xa pa, .Name xb pb] kt pt, .Name "self" ip, [], 0⟩] scope gpos] env)) []) Q E s := by
              intro hh
              have hs : starEach [.GeneratorExp elt [⟨.Tuple [.Name xa pa, .Name xb pb] kt pt, .Name "self" ip, [], 0⟩] scope gpos] env = (false, eval (.GeneratorExp elt [⟨.Tuple [.Name xa pa, .Name xb pb] kt pt, .Name "self" ip, [], 0⟩] scope gpos) env) :: starEach [] env := rfl
              rw [hs] at hh ⊢
              exact Calls.callWith_builtin rfl (Calls.evalArgs_plain hh)
            refine fin (PyProof.Rows.args_cons ?_ rfl)
            refine gen_acc ok S hT hgv hcode hco hclos hcell h0 hxa hxb hab hk hself helt ao I so F hx hv2 hi hr (fun ab hm => by
              have := List.all_eq_true.mp hall ab hm
              simpa using this) fun a fp wr gn St s5 W hst hTg haf hfp hwr x5 I5 so5 => ?_
            refine PyProof.Rows.args_nil ?_
            refine SC.joinGen W.of_in1.of_in1 hTg hst hfp haf (fun j v hv => by obtain ⟨ab, _, t, rfl⟩ := hv; exact ⟨_, _, rfl⟩) (fun s6 l hm6 hit => ?_) (Nat.le_trans hlen (by decide))
            have hl := items_rows hit
            rw [hl]
            refine ⟨hjok, fun t' k => ?_⟩
            have hwr2 : ∀ b ∈ wr, ¬ ρ.has b ∧ C.base.get? b = none := fun b hb => I.fresh (hwr b hb)
            have I6 : Inv C ρ mh s6.heap := I5.extMany hwr2 hm6.heap
            have x6 : Ext C ρ [] s.heap ρ s6.heap := by
              refine ⟨.refl ρ, fun b o e hb hx hF => hm6.heap b o (fun hw => by rw [hwr b hw] at e; cases e) (x5.keep b o e hb hx hF), fun a ha => .inl ha, fun a ha => .inl ha, fun b o e => ?_⟩
              obtain ⟨o', e'⟩ := x5.live b o e
              exact ⟨o', hm6.heap b o' (fun hw => by rw [hwr b hw] at e; cases e) e'⟩
            exact hQ _ ρ { s6 with toks := k } x6 I6 ⟨hm6.os.trans so5.os, hm6.gens.bare so5.gens⟩ .str'
          · cases h
        · cases h
      · cases h
    · cases h
  · cases h
end Mine

namespace Mine
variable {C : Cx} {d : Nat} {env : Env}

noncomputable def RP (C : Cx) (d : Nat) (env : Env) : Option PySem.Expr → Option D → Prop
  | none, none => True
  | some e, some f => RE C d env e f
  | _, _ => False
noncomputable def dPart : Option D → ME → MH → Option (Option Int × MH)
  | none, _, mh => some (none, mh)
  | some f, me, mh => match f me mh with
    | some (.int i, mh1) => some (some i, mh1)
    | _ => none
noncomputable def pickL (vs : List MV) (lo hi : Option Int) : List MV := (sliceRange (sliceBounds lo hi none vs.length).1 (sliceBounds lo hi none vs.length).2.1 (sliceBounds lo hi none vs.length).2.2).filterMap (vs[·]?)
theorem VRs.pick {ρ : Wd} {ms : List MV} {ws : List Value} (r : VRs ρ ms ws) : ∀ js : List Nat, VRs ρ (js.filterMap (ms[·]?)) (js.filterMap (ws[·]?))
  | [] => .nil
  | j :: js => by
    cases hj : ms[j]? with
    | none => rw [List.filterMap_cons_none hj, List.filterMap_cons_none (r.get_none hj)]; exact VRs.pick r js
    | some m =>
      obtain ⟨w, hw, hv⟩ := r.get hj
      rw [List.filterMap_cons_some hj, List.filterMap_cons_some hw]
      exact .cons hv (VRs.pick r js)

set_option tactic.hygienic true in
theorem part_ok {e : Option PySem.Expr} {f : Option D} (hp : RP C d env e f) {me : ME} {mh mh' : MH} {r : Option Int} (h : dPart f me mh = some (r, mh')) {ρ : Wd} {A : Around} {s : Shared} {Q : Value → Shared → Prop} {E : Value → Shared → Prop} (ao : Aok d A) (I : Inv C ρ mh s.heap) (so : SOk C s) (F : FR C ρ env me s.heap)
    (hQ : ∀ v ρ' s' l, Ext C ρ [] s.heap ρ' s'.heap → Inv C ρ' mh' s'.heap → SOk C s' → v = partValue l → l.map (·.1) = r → IsPart v r → Q v s') : wpAny C.M A (evalPart e env) Q E s := by
  cases e with
  | none =>
    cases f with
    | none => cases h; exact wpAny_pure (hQ _ _ _ none (Ext.refl _ _ _) I so rfl rfl .none)
    | some f => exact hp.elim
  | some e =>
    cases f with
    | none => exact hp.elim
    | some f =>
      simp only [dPart] at h
      split at h
      · rename_i hf
        cases h
        rw [evalPart_some]
        refine hp hf ao I so F fun v ρ1 s1 x1 I1 so1 v1 => ?_
        obtain ⟨t, rfl⟩ := v1.int_
        exact hQ _ _ _ (some (_, t)) x1 I1 so1 rfl rfl (.int _ _)
      · cases h

noncomputable def dSliceL (fo : D) (lo hi : Option D) : D := fun me mh => match fo me mh with
  | some (.lst vs, mh1) => (match dPart lo me mh1 with
    | some (l, mh2) => (match dPart hi me mh2 with
      | some (u, mh3) => if vs.length ≤ 100000 then some (.lst (pickL vs l u), mh3) else none
      | none => none)
    | none => none)
  | some (.ref i, mh1) => (match dPart lo me mh1 with
    | some (l, mh2) => (match dPart hi me mh2 with
      | some (u, mh3) => (match mh3[i]? with
        | some (.list vs) => if vs.length ≤ 100000 then some (.lst (pickL vs l u), mh3) else none
        | _ => none)
      | none => none)
    | none => none)
  | _ => none
set_option tactic.hygienic true in
theorem RE_sliceL {value : PySem.Expr} {lower upper : Option PySem.Expr} {p pos : Pos} {fo : D} {lo hi : Option D} (ho : RE C d env value fo) (hl : RP C d env lower lo) (hu : RP C d env upper hi)
    (ht : ∀ o r, letTemporaryGo value o r = pure () := by intro _ _; rfl) : RE C d env (.Subscript value (.Slice lower upper none p) pos) (dSliceL fo lo hi) := by
  intro me mh mv mh' h ρ A s Q E ao I so F hQ
  unfold dSliceL at h
  split at h
  · rename_i vs mh1 h1
    split at h
    · rename_i l mh2 h2
      split at h
      · rename_i u mh3 h3
        split at h
        · rename_i hlen
          cases h
          refine wpAny_Subscript_Slice (T := "list") slot_list_getitem.lookup (ho h1 ao I so F fun vo ρ1 s1 x1 I1 so1 v1 => wpAny_Slice (part_ok hl h2 ao I1 so1 (F.ext0 x1) fun vl ρ2 s2 ll x2 I2 so2 _ _ pl => part_ok hu h3 ao I2 so2 (F.ext0 (x1.trans x2)) fun vu ρ3 s3 lu x3 I3 so3 _ _ pu => ?_)) ht
          rw [evalPart_none]
          refine wpAny_pure ?_
          obtain ⟨a, ws, n, ea, rfl, r⟩ := (v1.mono (x2.trans x3).pre).lst_
          have kp : ∀ b o', s3.heap.get? b = some o' → (s3.heap.push { cls := .type "slice", data := .fields #[vl, vu, .none] }).get? b = some o' := fun b o' e => Heap.get?_push_of_some _ e
          have I4 := I3.junk kp
          have hlist := isList_of (I4.fz _ ea)
          refine ⟨hlist.typeIs, wpAny_getItem_list_slice hlist (Heap.IsSliceOf.new ..) pl pu .none (by simp) ?_ (by simp [r.length]; exact Nat.le_trans hlen (by decide))⟩
          have e : slicePick ws.toArray l u none = ((sliceRange (sliceBounds l u none vs.length).1 (sliceBounds l u none vs.length).2.1 (sliceBounds l u none vs.length).2.2).filterMap (ws[·]?)).toArray := by
            unfold slicePick
            simp [r.length]
          rw [e]
          exact Post.lst (Q := Q) (fun v ρ' s' x => hQ v ρ' s' ((x1.trans (x2.trans x3)).trans ((Ext.all kp).trans x))) I4 (so3.heap _ _) (r.pick _) s3.toks
        · cases h
      · cases h
    · cases h
  · rename_i i mh1 h1
    split at h
    · rename_i l mh2 h2
      split at h
      · rename_i u mh3 h3
        split at h
        · rename_i vs hi
          split at h
          · rename_i hlen
            cases h
            refine wpAny_Subscript_Slice (T := "list") slot_list_getitem.lookup (ho h1 ao I so F fun vo ρ1 s1 x1 I1 so1 v1 => wpAny_Slice (part_ok hl h2 ao I1 so1 (F.ext0 x1) fun vl ρ2 s2 ll x2 I2 so2 _ _ pl => part_ok hu h3 ao I2 so2 (F.ext0 (x1.trans x2)) fun vu ρ3 s3 lu x3 I3 so3 _ _ pu => ?_)) ht
            rw [evalPart_none]
            refine wpAny_pure ?_
            obtain ⟨a, ha, rfl⟩ := (v1.mono (x2.trans x3).pre).ref_
            have kp : ∀ b o', s3.heap.get? b = some o' → (s3.heap.push { cls := .type "slice", data := .fields #[vl, vu, .none] }).get? b = some o' := fun b o' e => Heap.get?_push_of_some _ e
            have I4 := I3.junk kp
            obtain ⟨o, ea, ws, n, rfl, r⟩ := I4.at hi ha
            have hlist := isList_of ea
            refine ⟨hlist.typeIs, wpAny_getItem_list_slice hlist (Heap.IsSliceOf.new ..) pl pu .none (by simp) ?_ (by simp [r.length]; exact Nat.le_trans hlen (by decide))⟩
            have e : slicePick ws.toArray l u none = ((sliceRange (sliceBounds l u none vs.length).1 (sliceBounds l u none vs.length).2.1 (sliceBounds l u none vs.length).2.2).filterMap (ws[·]?)).toArray := by
              unfold slicePick
              simp [r.length]
            rw [e]
            exact Post.lst (Q := Q) (fun v ρ' s' x => hQ v ρ' s' ((x1.trans (x2.trans x3)).trans ((Ext.all kp).trans x))) I4 (so3.heap _ _) (r.pick _) s3.toks
          · cases h
        · cases h
      · cases h
    · cases h
  · cases h

noncomputable def dSliceS (fo : D) (lo hi : Option D) : D := fun me mh => match fo me mh with
  | some (.str x, mh1) => (match dPart lo me mh1 with
    | some (l, mh2) => (match dPart hi me mh2 with
      | some (u, mh3) => if x.length ≤ sizeLine then some (.str (Txt.slice x l u), mh3) else none
      | none => none)
    | none => none)
  | _ => none
set_option tactic.hygienic true in
theorem RE_sliceS {value : PySem.Expr} {lower upper : Option PySem.Expr} {p pos : Pos} {fo : D} {lo hi : Option D} (ho : RE C d env value fo) (hl : RP C d env lower lo) (hu : RP C d env upper hi)
    (ht : ∀ o r, letTemporaryGo value o r = pure () := by intro _ _; rfl) : RE C d env (.Subscript value (.Slice lower upper none p) pos) (dSliceS fo lo hi) := by
  intro me mh mv mh' h ρ A s Q E ao I so F hQ
  unfold dSliceS at h
  split at h
  · rename_i x mh1 h1
    split at h
    · rename_i l mh2 h2
      split at h
      · rename_i u mh3 h3
        split at h
        · rename_i hlen
          cases h
          refine wpAny_Subscript_Slice (T := "str") PySem.F.slot_str_getitem.lookup (ho h1 ao I so F fun vo ρ1 s1 x1 I1 so1 v1 => wpAny_Slice (part_ok hl h2 ao I1 so1 (F.ext0 x1) fun vl ρ2 s2 ll x2 I2 so2 el el' _ => part_ok hu h3 ao I2 so2 (F.ext0 (x1.trans x2)) fun vu ρ3 s3 lu x3 I3 so3 eu eu' _ => ?_)) ht
          rw [evalPart_none]
          refine wpAny_pure ?_
          obtain ⟨t, rfl⟩ := v1.str_
          have kp : ∀ b o', s3.heap.get? b = some o' → (s3.heap.push { cls := .type "slice", data := .fields #[vl, vu, .none] }).get? b = some o' := fun b o' e => Heap.get?_push_of_some _ e
          have I4 := I3.junk kp
          subst el eu
          refine ⟨typeIs_str _ _ _, wpAny_getItem_str_slice (l := ll) (u := lu) (st := none) ⟨_, Heap.get?_push_size _ rfl, rfl, rfl⟩ rfl ?_⟩
          have xx := (x1.trans (x2.trans x3)).trans (Ext.all kp)
          have fin : ∀ t' k, Q (.str (Txt.slice x l u) t') { s3 with heap := s3.heap.push { cls := .type "slice", data := .fields #[partValue ll, partValue lu, .none] }, toks := k } := fun t' k => hQ _ ρ3 _ xx I4 (so3.heap _ _) .str'
          subst el' eu'
          unfold sliceMade slicePicked
          unfold Txt.slice at fin
          simp only [Option.map_none, Option.getD_none] at fin ⊢
          split
          · rename_i hc
            rw [if_pos hc] at fin
            exact fin t s3.toks
          · rename_i hc
            rw [if_neg hc] at fin
            refine ⟨?_, fin _ _⟩
            show ((Builtin.Str.strSliceIndices _ _ 1 x.length).filterMap (x.cps[·]?)).toArray.size ≤ sizeLine
            rw [List.size_toArray]
            exact Nat.le_trans (List.length_filterMap_le _ _) (Nat.le_trans (sliceIndices_le _ _ _) hlen)
        · cases h
      · cases h
    · cases h
  · cases h
end Mine

namespace Mine
variable {C : Cx} {d : Nat} {env : Env}

noncomputable def dAsgT (tg : Tg) (f : D) : DS := fun me mh => match f me mh with
  | some (v, mh1) => (match tg me mh1 v with
    | some me1 => some (.next, me1, mh1)
    | none => none)
  | none => none
set_option tactic.hygienic true in
theorem RS_asgT {elts : List PySem.Expr} {k : Nat} {tpos pos : Pos} {value : PySem.Expr} {f : D} {tg : Tg} (h : RE C d env value f) (ht : RTg C d env (fa env) (.Tuple elts k tpos) tg)
    (hs : swapsWithSole [.Tuple elts k tpos] value pos.line env = pure false := by rfl) (hw : swappedStores [.Tuple elts k tpos] value env = pure none := by rfl) :
    RS C d env (exec (.Assign [.Tuple elts k tpos] value pos) env) (dAsgT tg f) := by
  intro me mh fl me' mh' hf ρ A s Q E ao I so F hQ
  unfold dAsgT at hf
  split at hf
  · rename_i v mh1 h1
    split at hf
    · rename_i me1 h2
      cases hf
      exact PyProof.Rows.Assign_Tuple (h h1 ao I so F fun vv ρ1 s1 x1 I1 so1 v1 => ht h2 ao I1 so1 (F.ext0 x1) v1 fun s2 x2 I2 so2 F2 => hQ _ _ _ (x1.wide.trans x2) I2 so2 F2 rfl) hs hw
    · cases hf
  · cases hf

noncomputable def tgTR (xs : List Nat) : Tg := fun me _ v => match v with
  | .tup vs => if vs.length = xs.length then some (upds me xs.reverse vs.reverse) else none
  | _ => none
inductive LNames (C : Cx) (env : Env) : List Nat → List Str → Prop where
  | nil : LNames C env [] []
  | cons {x n xs ns} : C.tbl[x]? = some n → env.kindOf n = some .local → LNames C env xs ns → LNames C env (x :: xs) (n :: ns)
theorem LNames.len {xs : List Nat} {ns : List Str} (h : LNames C env xs ns) : xs.length = ns.length := by
  induction h with
  | nil => rfl
  | cons _ _ _ ih => simp [ih]
theorem LNames.append {xs xs' : List Nat} {ns ns' : List Str} (h : LNames C env xs ns) (h' : LNames C env xs' ns') : LNames C env (xs ++ xs') (ns ++ ns') := by
  induction h with
  | nil => exact h'
  | cons a b _ ih => exact .cons a b ih
theorem LNames.reverse {xs : List Nat} {ns : List Str} (h : LNames C env xs ns) : LNames C env xs.reverse ns.reverse := by
  induction h with
  | nil => exact .nil
  | cons a b _ ih => rw [List.reverse_cons, List.reverse_cons]; exact ih.append (.cons a b .nil)
theorem LNames.run (ok : C.Ok) {xs : List Nat} {ns : List Str} (h : LNames C env xs ns) : ∀ {vs : List MV} {ws : List Value} {me : ME} {mh : MH} {ρ : Wd} {A : Around} {s : Shared} {Q : Unit → Shared → Prop} {E : Value → Shared → Prop},
    vs.length = xs.length → VRs ρ vs ws → Inv C ρ mh s.heap → SOk C s → FR C ρ env me s.heap →
    (∀ s', Ext C ρ (fa env) s.heap ρ s'.heap → Inv C ρ mh s'.heap → SOk C s' → FR C ρ env (upds me xs vs) s'.heap → Q () s') →
    wpAny C.M A (assignInOrder (ns.map fun n => bindName env n) ws) Q E s := by
  induction h with
  | nil =>
    intro vs ws me mh ρ A s Q E hl hv I so F hQ
    cases hv with
    | nil => exact wpAny_assignInOrder_none (hQ _ (Ext.refl _ _ _) I so F)
    | cons _ _ => simp at hl
  | cons hx hk _ ih =>
    intro vs ws me mh ρ A s Q E hl hv I so F hQ
    cases hv with
    | nil => simp at hl
    | cons h1 h2 =>
      refine wpAny_assignInOrder_more (wpAny_bindName (storeV ok hx (.inl hk) I so F h1 fun s1 x1 I1 so1 F1 => ?_))
      exact ih (by simpa using hl) h2 I1 so1 F1 fun s2 x2 I2 so2 F2 => hQ _ (x1.trans x2) I2 so2 F2
set_option tactic.hygienic true in
theorem RS_asgTR (ok : C.Ok) {elts : List PySem.Expr} {k : Nat} {tpos pos : Pos} {value : PySem.Expr} {f : D} {xs : List Nat} {ns : List Str} (h : RE C d env value f) (hn : LNames C env xs ns)
    (hs : swapsWithSole [.Tuple elts k tpos] value pos.line env = pure false := by rfl) (hw : swappedStores [.Tuple elts k tpos] value env = pure (some ns) := by rfl) :
    RS C d env (exec (.Assign [.Tuple elts k tpos] value pos) env) (dAsgT (tgTR xs) f) := by
  intro me mh fl me' mh' hf ρ A s Q E ao I so F hQ
  unfold dAsgT at hf
  split at hf
  · rename_i v mh1 h1
    split at hf
    · rename_i me1 h2
      cases hf
      unfold tgTR at h2
      split at h2
      · rename_i vs
        split at h2
        · rename_i hl
          cases h2
          refine PyProof.Rows.Assign_Tuple_swapped (h h1 ao I so F fun vv ρ1 s1 x1 I1 so1 v1 => ?_) hs hw
          obtain ⟨a, ws, n, ea, rfl, r⟩ := v1.tup_
          have ho := I1.fz _ ea
          have hsz : ns.length = ws.toArray.size := by have h1 := hn.len; have h2 := r.length; simp; lia
          rw [hsz]
          refine wpAny_unpackItems_tuple ao.handled (isTuple_of ho) fun h' he => ?_
          have hk' : ∀ b o, s1.heap.get? b = some o → h'.get? b = some o := fun b o e => he b o (fun z => by subst z; rw [get_size] at e; cases e) e
          have F1 := F.ext0 x1
          have x0 : Ext C ρ1 (fa env) s1.heap ρ1 h' := (Ext.all hk').more (by simp)
          refine hn.reverse.run ok (mh := mh') (vs := vs.reverse) (by simp [hl]) (by simpa using r.reverse) (I1.junk hk') (so1.heap _ _) (F1.keep (.refl _) (fun a _ o e => hk' a o e) fun a ha => (F1.out a ha).1) fun s' x I' so' F' => ?_
          exact hQ _ _ _ (x1.wide.trans (x0.trans x)) I' so' F' rfl
        · cases h2
      · cases h2
    · cases hf
  · cases hf

theorem Aok.in1 {A : Around} (h : Aok (d + 1) A) : Aok d A.in1 := ⟨by have := h.depth; show A.depth + 2 * d ≤ 900; lia, by have := h.units; show A.units + 1 + 16 * d ≤ 9000; lia, h.handled⟩
theorem Aok.in2 {A : Around} (h : Aok (d + 1) A) : Aok d A.in1.in1 := ⟨by have := h.depth; show A.depth + 2 * d ≤ 900; lia, by have := h.units; show A.units + 1 + 1 + 16 * d ≤ 9000; lia, h.handled⟩

noncomputable def fLenX (c : Addr) (den : DF) : DF := fun mvs mh => match mvs with
  | [.ref i] => (match mh[i]? with
    | some (.inst c' dd (some vs)) => if c' = c ∧ isAttrs mh dd = true then (match den [.ref i] mh with
      | some (.int n, mh') => if 0 ≤ n ∧ n < 1000000000 then some (.int n, mh') else none
      | _ => none) else none
    | _ => fLen mvs mh)
  | _ => fLen mvs mh
set_option tactic.hygienic true in
theorem vLenX (ok : C.Ok) {c f : Addr} {den : DF} (hs : findIn C.K (.ref c) "__len__" = some (some (.ref f))) (hf : typeIn C.K (.ref f) = some (.type "function")) (hr : RF C d f den) : RV C (d + 1) (.builtin "len") (fLenX c den) := by
  intro mvs mh mv mh' h ρ A s vs Q E ao I so hv hQ
  unfold fLenX at h
  split at h
  · rename_i i
    split at h
    · rename_i c' dd ms hi
      split at h
      · rename_i hc
        obtain ⟨rfl, hat⟩ := hc
        obtain ⟨l, hl⟩ := isAttrs_ hat
        split at h
        · rename_i n mh1 hden
          split at h
          · rename_i hn
            cases h
            cases hv with
            | cons h1 h2 =>
              cases h2
              obtain ⟨x, hx, rfl⟩ := h1.ref_
              obtain ⟨ox, od, IA, ns⟩ := inst_at I hi hl hx
              refine Calls.call_function_entry kind_len plain_len entry_len (args_len1 _) ?_
              unfold Builtin.«len»
              refine wpAny_bind (m := oneArg "len" _) (wpAny_pure ?_)
              refine wpAny_bind (m := callSpecial? (.ref x) (Str.ofString "__len__")) (special_fn (I.k ok) IA hs hf (wpAny_call (hr hden ao.in1 I so (.cons h1 .nil) fun v ρ1 s1 x1 I1 so1 v1 => ?_)))
              obtain ⟨t, rfl⟩ := v1.int_
              refine wpAny_bind (wpAny_holding (wpAny_pure ?_))
              refine wpAny_bind (wpAny_letGo ?_)
              show wpAny _ _ (if _ < 0 then _ else _) _ _ _
              rw [if_neg (by lia)]
              show wpAny _ _ (if _ ≥ 2 ^ 63 then _ else _) _ _ _
              rw [if_neg (by lia)]
              exact wpAny_bind (wpAny_mkInt (wpAny_pure ⟨_, rfl, hQ _ _ _ x1 I1 (so1.heap _ _) .int'⟩))
          · cases h
        · cases h
      · cases h
    · exact vLen h ao I so hv hQ
  · exact vLen h ao I so hv hQ

noncomputable def fStrI (c : Addr) (den : DF) : DF := fun mvs mh => match mvs with
  | [.ref i] => (match mh[i]? with
    | some (.inst c' dd (some vs)) => if c' = c ∧ isAttrs mh dd = true then (match den [.ref i] mh with
      | some (.str x, mh') => some (.str x, mh')
      | _ => none) else none
    | _ => none)
  | _ => none
set_option tactic.hygienic true in
theorem vStrI (ok : C.Ok) {c f : Addr} {den : DF} (hs : findIn C.K (.ref c) "__str__" = some (some (.ref f))) (hf : isFn C.K (.ref f) = true) (hr : RF C d f den) : RV C (d + 1) (.type "str") (fStrI c den) := by
  intro mvs mh mv mh' h ρ A s vs Q E ao I so hv hQ
  unfold fStrI at h
  split at h
  · rename_i i
    split at h
    · rename_i c' dd ms hi
      split at h
      · rename_i hc
        obtain ⟨rfl, hat⟩ := hc
        obtain ⟨l, hl⟩ := isAttrs_ hat
        split at h
        · rename_i n mh1 hden
          cases h
          cases hv with
          | cons h1 h2 =>
            cases h2
            obtain ⟨x, hx, rfl⟩ := h1.ref_
            obtain ⟨ox, od, IA, ns⟩ := inst_at I hi hl hx
            refine kso_call (by have := ao.units; show A.units + 1 + 1 < 9900; omega) (I.k ok) IA hs hf (wpAny_call (hr hden ao.in2 I so (.cons h1 .nil) fun v ρ1 s1 x1 I1 so1 v1 => ?_))
            obtain ⟨t, rfl⟩ := v1.str_
            exact hQ _ _ _ x1 I1 so1 .str'
        · cases h
      · cases h
    · cases h
  · cases h
end Mine

namespace Mine
variable {C : Cx} {d : Nat} {env : Env}

noncomputable abbrev fdOf (name qual : Str) (params : Arguments) (body : FuncBody) (scope : Scope) (clos : List (Str × Addr)) (doc pm cv ctv : Value) : FuncData :=
  { name, qualname := qual, params, body, scope, globals := mainGlobals, closure := clos, defaults := .none, kwdefaults := .none, doc, pyModule := pm, annotations := none, code := cv, closureTuple := ctv, builtins := builtinsNs }

theorem among_snoc {pos : Pos} {a b : Int} {c : Value} (l : List Value) (h : TriplesOk l) (hne : a ≠ pos.line ∨ b ≠ pos.col) : codeAmong pos (l ++ [rawInt a, rawInt b, c]) = codeAmong pos l := by
  fun_induction TriplesOk l with
  | case1 =>
    simp only [List.nil_append, codeAmong, rawInt]
    rw [if_neg]
    simp only [Bool.and_eq_true, beq_iff_eq, not_and]
    rcases hne with h1 | h1
    · exact fun e => absurd e h1
    · exact fun _ => h1
  | case2 a' t b' u x rest ih =>
    simp only [List.cons_append, codeAmong]
    rw [ih h]
  | case3 l h1 h2 => exact h.elim
theorem among_snoc_same {pos : Pos} {c : Value} (l : List Value) (h : TriplesOk l) (hn : codeAmong pos l = none) {cv : Value} (e : codeAmong pos (l ++ [rawInt pos.line, rawInt pos.col, c]) = some cv) : cv = c := by
  rw [codeAmong_snoc l h hn] at e; cases e; rfl

theorem Inv.growF {ρ : Wd} {mh : MH} {h h' : Heap} (I : Inv C ρ mh h) {p : Addr × Addr} (hp : p ∈ C.T) (hk : Heap.ExtBut p.2 h h') {ps : Array Value} (hc : CodeTab h' p.1 p.2 ps) {c : Addr} {oc : Obj} (hcn : h.get? c = none) (hco : h'.get? c = some oc)
    (htq : TabQ C.gv ((c, oc) :: ρ.fz) p.2 ps) (hu : ∀ q ∈ C.T, q.2 = p.2 → q = p) : Inv C (ρ.froze c oc) mh h' := by
  have hx := mem_X hp
  have fr := I.fresh hcn
  have hle : ρ.le (ρ.froze c oc) := ρ.le_froze _ _
  refine ⟨I.len, I.nd, fun i mo hi => ?_, fun q hm => ?_, fun q hm => ?_, fun q hm => (I.st q hm).mono hle.fz, I.new, fun q hm => ?_, fun b o e hb => hk b o (fun e' => hb (e' ▸ hx)) (I.keep b o e hb), fun q hq => ?_, I.xb, I.pw⟩
  · obtain ⟨a, o, h1, h2, h3⟩ := I.obj i mo hi
    exact ⟨a, o, h1, hk a o (fun e => I.id_x (List.mem_of_getElem? h1) (e ▸ hx)) h2, h3.mono hle⟩
  · rcases List.mem_cons.mp hm with rfl | hm
    · exact hco
    · exact hk _ _ (fun e => I.newf q hm (e ▸ hx)) (I.fz q hm)
  · rcases List.mem_cons.mp hm with rfl | hm
    · exact fun q => fr.1 (.inl q)
    · exact I.sep q hm
  · rcases List.mem_cons.mp hm with rfl | hm
    · exact I.not_x fr.2
    · exact I.newf q hm
  · by_cases e : q.2 = p.2
    · rw [hu q hq e]; exact ⟨ps, hc, htq⟩
    · obtain ⟨qs, x, tq⟩ := I.tab q hq
      refine ⟨qs, x.extBut hk (fun z => ?_) e, tq.mono hle.fz⟩
      exact (I.xb q hq).2.2 (z ▸ hx)

theorem mkTail (ok : C.Ok) {p : Addr × Addr} {name qual : Str} {params : Arguments} {body : FuncBody} {scope : Scope} {clos : List (Str × Addr)} {pos : Pos} {fl : Nat} {ρ : Wd} {mh : MH} {A : Around} {s : Shared} {Q : Value → Shared → Prop} {E : Value → Shared → Prop}
    (hT : p ∈ C.T) (hcode : env.code = .ref p.1) (hge : env.globals = mainGlobals) (hcl : closureFor scope env = pure clos) (I : Inv C ρ mh s.heap)
    (hgv : ∀ pos' q', C.gv p.2 = some (pos', q') → (pos' = pos ∧ q' = qual) ∨ ((pos.line : Int) ≠ pos'.line ∨ (pos.col : Int) ≠ pos'.col))
    (h : ∀ cv ctv doc ρ' h' tk, Inv C ρ' mh h' → ρ'.ids = ρ.ids → ρ'.st = ρ.st → Ext C ρ [] s.heap ρ' h' → Heap.ExtBut p.2 s.heap h' → s.heap.objs.size ≤ h'.objs.size → (C.gv p.2 = some (pos, qual) → CodeFz ρ'.fz cv qual) →
      Q (.ref h'.objs.size) { s with heap := h'.push { cls := .type "function", data := .func (fdOf name qual params body scope clos doc ((C.mg "__name__").getD .none) cv ctv) }, toks := tk }) :
    wpAny C.M A (makeTail name qual params body scope env .none .none none pos fl) Q E s := by
  obtain ⟨bm, ob, hbm, hbn, hbo, hbc, hbd, hbp, hbx⟩ := ok.mod
  obtain ⟨ps, hok, tq⟩ := I.tab p hT
  unfold makeTail
  rw [hcl, hge]
  refine wpAny_bind (wpAny_pure ?_)
  -- from the code's making on
  have tail : ∀ (ctv : Value) (h1 : Heap) (tk1 : Nat), (∀ b o, s.heap.get? b = some o → h1.get? b = some o) → s.heap.objs.size ≤ h1.objs.size →
      wpAny C.M A (functionCode env pos fl name qual params scope body) (fun cv s' => wpAny C.M A (builtinsFor mainGlobals env.builtins) (fun bv s2 => wpAny C.M A (nsGet mainGlobals "__name__") (fun nm s3 =>
        wpAny C.M A (match body with | .stmts b => (match docOf b with | some s => mkText s | none => pure .none) | .expr _ => pure .none) (fun doc s4 =>
          wpAny C.M A (newObj (.type "function") (.func { name, qualname := qual, params, body, scope, globals := mainGlobals, closure := clos, closureTuple := ctv, code := cv, builtins := bv, defaults := .none, kwdefaults := .none, annotations := none, pyModule := nm.getD .none, doc })) Q E s4) E s3) E s2) E s') E { s with heap := h1, toks := tk1 } := by
    intro ctv h1 tk1 k1 sz1
    have I1 : Inv C ρ mh h1 := I.junk k1
    have x1 : Ext C ρ [] s.heap ρ h1 := Ext.all k1
    have fin : ∀ cv ρ' h' tk, Inv C ρ' mh h' → ρ'.ids = ρ.ids → ρ'.st = ρ.st → Ext C ρ [] s.heap ρ' h' → Heap.ExtBut p.2 s.heap h' → s.heap.objs.size ≤ h'.objs.size → (C.gv p.2 = some (pos, qual) → CodeFz ρ'.fz cv qual) →
        wpAny C.M A (builtinsFor mainGlobals env.builtins) (fun bv s2 => wpAny C.M A (nsGet mainGlobals "__name__") (fun nm s3 =>
        wpAny C.M A (match body with | .stmts b => (match docOf b with | some s => mkText s | none => pure .none) | .expr _ => pure .none) (fun doc s4 =>
          wpAny C.M A (newObj (.type "function") (.func { name, qualname := qual, params, body, scope, globals := mainGlobals, closure := clos, closureTuple := ctv, code := cv, builtins := bv, defaults := .none, kwdefaults := .none, annotations := none, pyModule := nm.getD .none, doc })) Q E s4) E s3) E s2) E { s with heap := h', toks := tk } := by
      intro cv ρ' h' tk I' hid hst x' hx' hsz hcf
      refine wpAny_builtinsFor (m := C.mg) (I'.g ok) hbm hbn (I'.keep _ _ hbo hbx) hbc hbd hbp ?_
      refine wpAny_nsGet (I'.g ok) ?_
      have last : ∀ (doc : Value) (tk' : Nat), wpAny C.M A (newObj (.type "function") (.func { name, qualname := qual, params, body, scope, globals := mainGlobals, closure := clos, closureTuple := ctv, code := cv, builtins := builtinsNs, defaults := .none, kwdefaults := .none, annotations := none, pyModule := (C.mg "__name__").getD .none, doc })) Q E { s with heap := h', toks := tk' } :=
        fun doc tk' => wpAny_newObj_type (h cv ctv doc ρ' h' tk' I' hid hst x' hx' hsz hcf) (by size_fits)
      cases body with
      | expr e => exact wpAny_pure (last _ _)
      | stmts b =>
        dsimp only
        cases docOf b with
        | none => exact wpAny_pure (last _ _)
        | some t => exact wpAny_mkText (last _ _)
    have hok1 := hok.keeps k1
    cases hf : codeAmong pos ps.toList with
    | some cv => exact wpAny_functionCode_hit hcode hok1.1 hf (fin cv ρ h1 tk1 I1 rfl rfl x1 (fun b o _ e => k1 b o e) sz1 fun e => tq _ _ e _ hf)
    | none =>
      refine wpAny_functionCodeX hcode hok1.1 hok1.2 hf fun c' h' tk hx hge' hlt hok' hrec htab' _ => ?_
      obtain ⟨c2, oc, vs, t, e2, hoc, hd, hv⟩ := hrec
      cases e2
      have hcn : h1.get? c' = none := by
        cases e : h1.get? c' with
        | none => rfl
        | some o => exact absurd (Heap.lt_size e) (Nat.not_lt.mpr hge')
      have htr : TriplesOk ps.toList := by
        obtain ⟨_, _, _, _, _, _, _, _, _, _, _, _, _, _, _, _, _, _, _, r, _⟩ := hok.1
        exact r
      have htq : TabQ C.gv ((c', oc) :: ρ.fz) p.2 (ps ++ #[rawInt pos.line, rawInt pos.col, .ref c']) := by
        intro pos' q' e cv hcv
        rw [Array.toList_append] at hcv
        rcases hgv _ _ e with ⟨rfl, rfl⟩ | hne
        · cases among_snoc_same _ htr hf hcv
          exact ⟨c', oc, vs, t, rfl, .head _, hd, hv⟩
        · exact (tq _ _ e cv (by rw [← hcv]; exact (among_snoc _ htr hne).symm)).mono fun q hq => .tail _ hq
      have I2 := I1.growF hT hx ⟨hok', htab'⟩ hcn hoc htq (ok.tu p hT)
      have hP : ∃ o, h'.get? p.2 = some o := ⟨_, htab'.2⟩
      have hcs : s.heap.get? c' = none := by
        cases e : s.heap.get? c' with
        | none => rfl
        | some o => rw [k1 _ _ e] at hcn; cases hcn
      refine fin _ (ρ.froze c' oc) h' tk I2 rfl rfl ((x1.trans (Ext.grow (mem_X hT) hx hP)).freeze oc hcs) (fun b o hb e => hx b o hb (k1 b o e)) (Nat.le_trans sz1 (Nat.le_trans hge' (Nat.le_of_lt hlt))) fun e => ⟨c', oc, vs, t, rfl, .head _, hd, hv⟩
  cases clos with
  | nil =>
    simp only [List.isEmpty_nil, if_true]
    refine wpAny_bind (wpAny_pure ?_)
    refine wpAny_bind (wpAny_mono (tail .none s.heap s.toks (fun _ _ e => e) (Nat.le_refl _)) (fun cv s' h' => ?_) fun _ _ x => x)
    refine wpAny_bind (wpAny_mono h' (fun bv s2 h2 => ?_) fun _ _ x => x)
    refine wpAny_bind (wpAny_mono h2 (fun nm s3 h3 => ?_) fun _ _ x => x)
    cases body <;> exact wpAny_bind h3
  | cons q r =>
    simp only [List.isEmpty_cons, Bool.false_eq_true, if_false]
    refine wpAny_bind (wpAny_newTextTuple ?_)
    refine wpAny_bind (wpAny_mono (tail (.ref s.heap.objs.size) _ _ (fun b o e => Heap.get?_push_of_some _ e) (by rw [Heap.size_push]; lia)) (fun cv s' h' => ?_) fun _ _ x => x)
    refine wpAny_bind (wpAny_mono h' (fun bv s2 h2 => ?_) fun _ _ x => x)
    refine wpAny_bind (wpAny_mono h2 (fun nm s3 h3 => ?_) fun _ _ x => x)
    cases body <;> exact wpAny_bind h3
theorem mkFun (ok : C.Ok) {p : Addr × Addr} {name qual : Str} {params : Arguments} {body : FuncBody} {scope : Scope} {clos : List (Str × Addr)} {pos : Pos} {fl : Nat} {ρ : Wd} {mh : MH} {A : Around} {s : Shared} {Q : Value → Shared → Prop} {E : Value → Shared → Prop}
    (hT : p ∈ C.T) (hcode : env.code = .ref p.1) (hge : env.globals = mainGlobals) (hcl : closureFor scope env = pure clos) (I : Inv C ρ mh s.heap)
    (hgv : ∀ pos' q', C.gv p.2 = some (pos', q') → (pos' = pos ∧ q' = qual) ∨ ((pos.line : Int) ≠ pos'.line ∨ (pos.col : Int) ≠ pos'.col))
    (h : ∀ cv ctv doc ρ' h' tk, Inv C ρ' mh h' → ρ'.ids = ρ.ids → ρ'.st = ρ.st → Ext C ρ [] s.heap ρ' h' → Heap.ExtBut p.2 s.heap h' → s.heap.objs.size ≤ h'.objs.size → (C.gv p.2 = some (pos, qual) → CodeFz ρ'.fz cv qual) →
      Q (.ref h'.objs.size) { s with heap := h'.push { cls := .type "function", data := .func (fdOf name qual params body scope clos doc ((C.mg "__name__").getD .none) cv ctv) }, toks := tk }) :
    wpAny C.M A (makeFunction name qual params body scope env [] [] [] pos fl) Q E s := by
  rw [makeFunction_eq]
  simp only [List.zip_nil_right, List.filterMap_nil, List.isEmpty_nil, if_true, pure_bind]
  exact mkTail ok hT hcode hge hcl I hgv h
end Mine

namespace Mine
variable {C : Cx} {d : Nat} {env : Env}
open Builtin Builtin.ObjectAttr Builtin.Getset_descriptor

structure FnStore (K : Frag) (name : Str) : Prop where
  sa : findIn K (.type "function") "__setattr__" = some (some (.builtin "object.__setattr__"))
  no : findIn K (.type "function") name = some none

theorem setAttrF {K : Frag} {x : Addr} {prog : Program} {w : World} {A : Around} {E : Value → Shared → Prop} {s : Shared} {fd : FuncData} {name : Str} {v : Value} {Q : Unit → Shared → Prop} (X : K.In s.heap)
    (hx0 : s.heap.get? x = some { cls := .type "function", data := .func fd }) (S : FnStore K name)
    (h : ∀ h' hsh tk n', h'.get? s.heap.objs.size = some (dictOf [⟨hsh, .str name tk, v⟩] n') → h'.get? x = some { cls := .type "function", dict := some s.heap.objs.size, data := .func fd } → Heap.ExtBut x s.heap h' → ∀ t', Q () { s with heap := h', toks := t' }) :
    wpAny (model prog w) A (setAttr (.ref x) name v) Q E s := by
  have SF := PySem.F.store_object
  have ty : Looks (model prog w) s.heap (typeOf (.ref x)) (.type "function") := (Looks.ld (part := none) hx0).andThen .now
  have sub : Looks (model prog w) s.heap (isInstance (.ref x) (.type "object")) true := ty.andThen (fun A Q E s k q => by
    have : isSubtype (.type "function") (.type "object") = pure true := by kernel_rfl
    rw [this]; exact wpAny_pure q)
  refine wpAny_bind (wpAny_mkText (wpAny_bind (wpAny_bind (wpAny_bind (ty _ _ _ _ (fun _ _ e => e) (looks_findIn X S.sa _ _ _ _ (fun _ _ e => e) (wpAny_holding ?_)))))))
  rw [SF.slot.bind]
  refine wpAny_bind (wpAny_pure (wpAny_bind (wpAny_call (codeAny_mono (R := fun r s' => match r with | .ok (.ret _) => Q () s' | .ok _ => False | .error e => E e s') ?_ fun r s' z => ?_))))
  · refine codeAny_call_builtin SF.slot.plain SF.entry (@check_slot (model prog w) _ _ { s with toks := s.toks + 1 } "object.__setattr__" "object" "__setattr__" (.ref x) [.str name s.toks, v] [] _ SF.kind SF.split sub (SF.args (.ref x) (.str name s.toks) v) ?_)
    have hm : mroOf (.type "function") = pure [.type "function", .type "object"] := by kernel_rfl
    have rl : ∀ self, refuseLoop self "__setattr__" [.type "function", .type "object"] = pure () := fun self => by kernel_rfl
    show wpAny _ _ (Builtin.«object.__setattr__» ⟨[.ref x, .str name s.toks, v], []⟩) _ _ _
    rw [osa_eq, refuse_eq]
    obtain ⟨hh, gg, dr, tt, os⟩ := s
    dsimp only at ty X h hx0
    refine wpAny_bind (wpAny_bind (ty.at ?_))
    rw [hm]
    refine wpAny_bind (wpAny_pure ?_)
    rw [rl]
    refine wpAny_pure (wpAny_bind (ty.at (wpAny_bind ((looks_findIn X S.no).at (wpAny_bind (wpAny_pure ?_))))))
    dsimp only
    have hnd : ownStreamTells (.ref x) (.type "function") = pure () := by kernel_rfl
    unfold storeInOwnDict
    rw [hnd]
    refine wpAny_bind (wpAny_pure ?_)
    have e1 : ((Value.type "function" == .type "module") = true) = False := by
      apply propext; constructor
      · intro z; exact absurd z (by decide)
      · exact False.elim
    simp only [e1, if_false]
    refine wpAny_bind ?_
    unfold ownDictForStores instanceDict
    refine wpAny_bind (wpAny_loadPart hx0 ?_)
    dsimp only
    have thd : typeHasDict (.type "function") = true := by kernel_rfl
    have fic : finalisedInACycleAlone "function" = false := by kernel_rfl
    simp only [thd, Bool.not_true, Bool.or_self, Bool.false_eq_true, if_false]
    refine wpAny_bind (wpAny_alloc ?_)
    dsimp only
    have hx1 : ∀ o, (hh.push o).get? x = some { cls := .type "function", data := .func fd } := fun o => Heap.get?_push_of_some _ hx0
    refine wpAny_bind (wpAny_update (hx1 _) ?_)
    unfold dictMade
    simp only [fic, Bool.false_eq_true, if_false]
    refine wpAny_pure ?_
    dsimp only
    have hne : x ≠ hh.objs.size := fun z => by rw [z] at hx0; exact absurd (Heap.lt_size hx0) (Nat.lt_irrefl _)
    have D0 : (hh.push { cls := Value.type "dict", data := Data.dict #[] }).get? hh.objs.size = some (dictOf [] 0) := Heap.get?_push_size _ rfl
    have hs2 : Heap.SameBut x (hh.push { cls := Value.type "dict", data := Data.dict #[] }) ((hh.push { cls := Value.type "dict", data := Data.dict #[] }).update x fun o => { o with dict := some hh.objs.size }) := Heap.SameBut.update ..
    have hx2 : ((hh.push { cls := Value.type "dict", data := Data.dict #[] }).update x fun o => { o with dict := some hh.objs.size }).get? x = some { cls := .type "function", dict := some hh.objs.size, data := .func fd } := Heap.get?_update_self _ (hx1 _) rfl
    generalize hH : ((hh.push { cls := Value.type "dict", data := Data.dict #[] }).update x fun o => { o with dict := some hh.objs.size }) = H2 at hs2 hx2 ⊢
    have D : H2.get? hh.objs.size = some (dictOf [] 0) := (hs2.2 _ (Ne.symm hne)).trans D0
    unfold storeInDict newKeyGuard
    refine wpAny_bind (wpAny_pure (wpAny_bind ?_))
    unfold nsSet
    refine wpAny_bind (wpAny_bind (wpAny_askSetting (wpAny_pure (wpAny_bind (wpAny_mkText (wpAny_bind (wpAny_loadPart D ?_)))))))
    show wpAny _ _ (if aRefKeyMayBeTheName _ _ = true then _ else _) _ _ _
    rw [aRefKeyMayBeTheName_at, show ∀ b : Bool, (b && ([] : List DictEntry).toArray.any (·.refKey)) = false from fun b => by rw [← Array.any_toList]; cases b <;> rfl]
    refine wpAny_updatePart D ?_
    have U : ∀ (hsh : Int) (tk : Tok), (H2.update hh.objs.size (Obj.putName name hsh (.str name tk) v)).get? hh.objs.size = some (dictOf [⟨hsh, .str name tk, v⟩] 1) := fun hsh tk => by
      rw [Heap.get?_update_self _ D (by rw [putName_dict]; rfl), putName_dict]
      rfl
    refine wpAny_bind (wpAny_lookBehind (U _ _) (pastItsLine_dict (by rw [List.size_toArray, sizeLine_eq]; show 1 ≤ _; lia)) ?_)
    have hs3 : ∀ hsh tk, Heap.SameBut hh.objs.size H2 (H2.update hh.objs.size (Obj.putName name hsh (.str name tk) v)) := fun _ _ => Heap.SameBut.update ..
    refine wpAny_pure (h _ _ _ _ (U _ _) (((hs3 _ _).2 _ hne).trans hx2) (fun b o hb e => ?_) _)
    have hbs : b ≠ hh.objs.size := fun z => by rw [z] at e; exact absurd (Heap.lt_size e) (Nat.lt_irrefl _)
    exact ((hs3 _ _).2 b hbs).trans ((hs2.2 b hb).trans (Heap.get?_push_of_some _ e))
  · rcases r with e | (v | _ | _ | _) <;> first | exact z | exact wpAny_pure (wpAny_pure z) | exact z.elim
end Mine

namespace Mine
variable {C : Cx} {d : Nat} {env : Env}

noncomputable def fMakeP (c : Addr) (init : DF) : DF := fun mvs mh => match init (.ref (mh.length + 1) :: mvs) (mh ++ [.attrs [], .inst c mh.length none]) with
  | some (.none, mh') => some (.ref (mh.length + 1), mh')
  | _ => none

set_option tactic.hygienic true in
theorem RF_makeP (ok : C.Ok) {c fI : Addr} {init : DF} (hm : makesIn C.K c = true) (hi : findIn C.K (.ref c) "__init__" = some (some (.ref fI))) (hf : typeIn C.K (.ref fI) = some (.type "function")) (hr : RF C d fI init) : RF C (d + 1) c (fMakeP c init) := by
  intro mvs mh mv mh' hfm ρ A s vs R ao I so hv hR
  unfold fMakeP at hfm
  split at hfm
  · rename_i mh1 hin
    cases hfm
    obtain ⟨hh, g, dr, t, os⟩ := s
    refine make_core (makes_of (I.k ok) hm) (looks_findIn (I.k ok) hi) (fun self => bind_fn (I.k ok) self hf) (.inl rfl) ?_
    have I1 : Inv C (ρ.push hh.objs.size) (mh ++ [.attrs []]) (hh.push emptyDict) := I.push ⟨[], 0, rfl, .nil⟩
    have hid : (ρ.push hh.objs.size).ids[mh.length]? = some hh.objs.size := by rw [← I.len]; simp
    have I2 : Inv C ((ρ.push hh.objs.size).push (hh.push emptyDict).objs.size) ((mh ++ [.attrs []]) ++ [.inst c mh.length none]) ((hh.push emptyDict).push (instObj c hh.objs.size)) := I1.push ⟨hh.objs.size, hid, rfl⟩
    have x2 : Ext C ρ [] hh ((ρ.push hh.objs.size).push (hh.push emptyDict).objs.size) ((hh.push emptyDict).push (instObj c hh.objs.size)) := (Ext.push _ _ _).trans (Ext.push _ _ _)
    have hix : ((ρ.push hh.objs.size).push (hh.push emptyDict).objs.size).ids[mh.length + 1]? = some (hh.objs.size + 1) := by
      rw [← I.len, Heap.size_push]
      show ((ρ.ids ++ [hh.objs.size]) ++ [hh.objs.size + 1])[ρ.ids.length + 1]? = _
      rw [List.getElem?_append_right (by simp)]
      simp
    refine hr (by rw [List.append_assoc]; exact hin) (under_call_ok ao) I2 (so.heap _ _) (.cons (.ref' hix) (hv.mono x2.pre)) fun v ρ3 s3 x3 I3 so3 v3 => ?_
    exact ⟨v3.none_, hR _ ρ3 s3 (x2.trans x3) I3 so3 (.ref' (pre_get x3.pre hix))⟩
  · cases hfm

noncomputable def fLexer (mk : DF) : DF := fun mvs mh => match mvs with
  | [.str x, .ref t] => mk [.strm x t] mh
  | _ => none

noncomputable abbrev lexBody (lp gp : Arguments) (lsc gsc : Scope) (gbody : List Stmt) (gpos lpos lpos2 p1 p4 p5 p6 p7 p8 p9 p10 p11 p12 : Pos) (k0 : Nat) : List Stmt :=
  [.Assign [.Name "stream" p1] (.Lambda lp (.Constant .none k0 lpos2) lsc lpos) p4,
    .FunctionDef "_law_give" gp gbody [] none [] gsc none "_law_give" gpos,
    .Assign [.Attribute (.Name "stream" p5) "read" p6] (.Name "_law_give" p7) p8,
    .Return (some (.Call (.Name "_netrclex" p9) [.Name "stream" p10] [] p11)) p12]

theorem Inv.freezeI {ρ : Wd} {mh : MH} {h : Heap} (I : Inv C ρ mh h) {a : Addr} {o : Obj} (hn : a ∉ ρ.ids) (hb : C.base.get? a = none) (ho : h.get? a = some o) : Inv C (ρ.froze a o) mh h := by
  have hp : ρ.le (ρ.froze a o) := ρ.le_froze _ _
  refine ⟨I.len, I.nd, fun i mo hi => ?_, fun p hm => ?_, fun p hm => ?_, fun p hm => (I.st p hm).mono hp.fz, I.new, fun p hm => ?_, I.keep, fun p hm => let ⟨ps, h1, h2⟩ := I.tab p hm; ⟨ps, h1, h2.mono hp.fz⟩, I.xb, I.pw⟩
  · obtain ⟨b, o', h1, h2, h3⟩ := I.obj i mo hi
    exact ⟨b, o', h1, h2, h3.mono hp⟩
  · rcases List.mem_cons.mp hm with rfl | hm
    · exact ho
    · exact I.fz p hm
  · rcases List.mem_cons.mp hm with rfl | hm
    · exact hn
    · exact I.sep p hm
  · rcases List.mem_cons.mp hm with rfl | hm
    · exact I.not_x hb
    · exact I.newf p hm

theorem Inv.stream {ρ : Wd} {mh : MH} {h : Heap} (I : Inv C ρ mh h) {x : Str} {at_ a : Addr} (hs : StrmOk C.give ρ.fz x at_ a) : Inv C ⟨ρ.ids, ρ.fz, (x, at_, a) :: ρ.st, ρ.pw⟩ mh h := by
  have hp : ρ.le ⟨ρ.ids, ρ.fz, (x, at_, a) :: ρ.st, ρ.pw⟩ := ⟨⟨[], by simp⟩, fun _ h => h, fun _ h => .tail _ h, rfl⟩
  refine ⟨I.len, I.nd, fun i mo hi => ?_, I.fz, I.sep, fun p hm => ?_, I.new, I.newf, I.keep, I.tab, I.xb, I.pw⟩
  · obtain ⟨b, o, h1, h2, h3⟩ := I.obj i mo hi
    exact ⟨b, o, h1, h2, h3.mono hp⟩
  · rcases List.mem_cons.mp hm with rfl | hm
    · exact hs
    · exact I.st p hm
theorem Ext.stream {ρ ρ' : Wd} {F : List Addr} {h h' : Heap} (x : Ext C ρ F h ρ' h') (p : Str × Addr × Addr) : Ext C ρ F h ⟨ρ'.ids, ρ'.fz, p :: ρ'.st, ρ'.pw⟩ h' :=
  ⟨x.pre.trans ⟨⟨[], by simp⟩, fun _ h => h, fun _ h => .tail _ h, rfl⟩, x.keep, x.freshI, x.fresh, x.live⟩

theorem lex_walk (ok : C.Ok) {p : Addr × Addr} {cN : Addr} {qualG : Str} {lp gp : Arguments} {lsc gsc : Scope} {gbody : List Stmt} {gpos lpos lpos2 p1 p4 p5 p6 p7 p8 p9 p10 p11 p12 : Pos} {k0 : Nat} {mk : DF} {c1 c2 : Addr}
    (hT : p ∈ C.T) (hgv : C.gv p.2 = some (gpos, qualG)) (hlg : (lpos.line : Int) ≠ gpos.line ∨ (lpos.col : Int) ≠ gpos.col) (hgive : ∀ c1 c2 doc pm cv ctv, c1 ≠ c2 → C.base.get? c1 = none → C.base.get? c2 = none → C.give (fdOf "_law_give" qualG gp (.stmts gbody) gsc [(("text" : Str), c1), (("at" : Str), c2)] doc pm cv ctv))
    (hcN : C.mg "_netrclex" = some (.ref cN)) (hkN : keepIn C.K (.ref cN) = true) (hmk : RF C d cN mk) (FS : FnStore C.K "read")
    (hk : env.scope.kind = .function) (hge : env.globals = mainGlobals) (hcode : env.code = .ref p.1)
    (n3 : env.kindOf "stream" = some .local) (n4 : env.kindOf "_law_give" = some .local) (n5 : env.kindOf "_netrclex" = some .globalImplicit)
    (hlp : defaultsOf lp env = ([], [])) (hgp : gp.defaults = [] ∧ gp.kw_defaults = []) (hga : annTrees gp none env = [])
    (hlc : closureFor lsc env = pure []) (hgc : closureFor gsc env = pure [(("text" : Str), c1), (("at" : Str), c2)]) (hcc : c1 ≠ c2)
    (hq : qualnameIn env "_law_give" "_law_give" = qualG)
    {x : Str} {t : Nat} {mh : MH} {mv : MV} {mh' : MH} {ρ : Wd} {A : Around} {s0 : Heap} {s : Shared} {m : Str → Option Value} {tx : Tok} {at_ : Addr} {Q : Flow → Shared → Prop} {E : Value → Shared → Prop}
    (hmk1 : mk [.strm x t] mh = some (mv, mh')) (ao : Aok d A) (I0 : Inv C ρ mh s0) (so : SOk C s)
    (k1 : ∀ b o, s0.get? b = some o → s.heap.get? b = some o) (hns : s.heap.Ns env.locals m) (hL : s0.get? env.locals = none)
    (hc1 : s.heap.IsCell c1 (some (.str x tx))) (hc2 : s.heap.IsCell c2 (some (.ref at_))) (f1 : s0.get? c1 = none) (f2 : s0.get? c2 = none) (ne1 : c1 ≠ env.locals) (ne2 : c2 ≠ env.locals) (hat : ρ.ids[t]? = some at_)
    (hQ : ∀ v ρ' s', Ext C ρ [] s0 ρ' s'.heap → Inv C ρ' mh' s'.heap → SOk C s' → VR ρ' mv v → Q (.ret v) s') :
    wpAny C.M A (execs (lexBody lp gp lsc gsc gbody gpos lpos lpos2 p1 p4 p5 p6 p7 p8 p9 p10 p11 p12 k0) env) Q E s := by
  have I1 : Inv C ρ mh s.heap := I0.junk k1
  have frP : ∀ {a : Addr}, s0.get? a = none → a ≠ p.2 := fun e z => by obtain ⟨o, eo⟩ := I0.x_live (mem_X hT); rw [z, eo] at e; cases e
  have frN : ∀ {a : Addr} {ρ' : Wd} {h' : Heap}, s0.get? a = none → (∃ o, s.heap.get? a = some o) → Ext C ρ [] s.heap ρ' h' → ¬ ρ'.has a := fun e ⟨o, eo⟩ x' hm => by
    rcases x'.fresh _ hm with q | q
    · obtain ⟨o', eo'⟩ := I0.live q; rw [eo'] at e; cases e
    · rw [eo] at q; cases q
  have none_ge : ∀ {a : Addr}, s.heap.objs.size ≤ a → s0.get? a = none := fun hge' => by
    cases e : s0.get? _ with
    | none => rfl
    | some o => exact absurd (Heap.lt_size (k1 _ _ e)) (Nat.not_lt.mpr hge')
  have none_ge1 : ∀ {a : Addr}, s.heap.objs.size ≤ a → s.heap.get? a = none := fun hge' => by
    cases e : s.heap.get? _ with
    | none => rfl
    | some o => exact absurd (Heap.lt_size e) (Nat.not_lt.mpr hge')
  have hLp := frP hL
  have hblk : (env.scope.kind == .class || (env.scope.kind == .module && env.locals != env.globals)) = false := by rw [hk]; rfl
  -- stream = lambda: None
  refine wpAny_execs_cons (wpAny_Assign_Name (kla_eval hlp ?_) rfl)
  refine mkFun ok hT hcode hge hlc I1 (fun pos' q' e => .inr (by rw [hgv] at e; cases e; exact hlg)) fun cvL ctL docL ρ2 h2 tk2 I2 id2 st2 x2 e2 z2 _ => ?_
  generalize hF1 : (Obj.mk (.type "function") none (Data.func (fdOf _ _ lp _ lsc [] docL _ cvL ctL)) #[]) = F1
  have hF1d : ∃ fd, F1 = { cls := .type "function", data := .func fd } := ⟨_, hF1.symm⟩
  have hf1 : (h2.push F1).get? h2.objs.size = some F1 := Heap.get?_push_size _ (by rw [← hF1]; rfl)
  have hLs : ∃ o, s.heap.get? env.locals = some o := Ns.live hns
  have hLn2 := frN hL hLs x2
  have hLb : C.base.get? env.locals = none := (I0.fresh hL).2
  refine wpAny_storeName_local n3 ((hns.extBut e2 hLp).push _) (fun h3 hns3 hs3 => ?_) hblk
  have kf1 : s.heap.objs.size ≤ h2.objs.size := z2
  have hne1 : h2.objs.size ≠ env.locals := fun z => by obtain ⟨o, e⟩ := hLs; rw [none_ge1 (z ▸ kf1)] at e; cases e
  have hf3 : h3.get? h2.objs.size = some F1 := (hs3.2 _ hne1).trans hf1
  have I3 : Inv C ρ2 mh h3 := (I2.junk fun b o e => Heap.get?_push_of_some _ e).ext hLn2 hLb hs3.extBut
  have x3 : Ext C ρ [] s0 ρ2 h3 := (((Ext.all k1).trans x2).trans (Ext.all fun b o e => Heap.get?_push_of_some _ e)).step hL hs3.extBut
  have kc3 : ∀ {c v}, c ≠ env.locals → s0.get? c = none → s.heap.IsCell c v → h3.IsCell c v := fun hn e hc => IsCell.keep1 hc fun o eo => (hs3.2 _ hn).trans (Heap.get?_push_of_some _ (e2 _ o (frP e) eo))
  have hc31 := kc3 ne1 f1 hc1
  have hc32 := kc3 ne2 f2 hc2
  have z3 : h2.objs.size < h3.objs.size := Heap.lt_size hf3
  dsimp only
  -- def _law_give
  refine wpAny_execs_cons (nestDef_K hgp.1 hgp.2 hga ?_)
  rw [hq]
  refine mkFun ok hT hcode hge hgc I3 (fun pos' q' e => .inl (by rw [hgv] at e; cases e; exact ⟨rfl, rfl⟩)) fun cvG ctG docG ρ4 h4 tk4 I4 id4 st4 x4 e4 z4 cf4 => ?_
  generalize hF2 : (fdOf "_law_give" qualG gp (.stmts gbody) gsc [(("text" : Str), c1), (("at" : Str), c2)] docG ((C.mg "__name__").getD .none) cvG ctG) = F2
  have hf4 : (h4.push { cls := .type "function", data := .func F2 }).get? h4.objs.size = some { cls := .type "function", data := .func F2 } := Heap.get?_push_size _ rfl
  have x4' : Ext C ρ [] s0 ρ4 h4 := x3.trans x4
  have hLn4 : ¬ ρ4.has env.locals := fun hm => by
    rcases x4.fresh _ hm with q | q
    · exact hLn2 q
    · obtain ⟨o, eo⟩ := Ns.live hns3; rw [eo] at q; cases q
  refine wpAny_storeName_local n4 ((hns3.extBut e4 hLp).push _) (fun h5 hns5 hs5 => ?_) hblk
  have I5 : Inv C ρ4 mh h5 := (I4.junk fun b o e => Heap.get?_push_of_some _ e).ext hLn4 hLb hs5.extBut
  have x5 : Ext C ρ [] s0 ρ4 h5 := (x4'.trans (Ext.all fun b o e => Heap.get?_push_of_some _ e)).step hL hs5.extBut
  have kc5 : ∀ {a o}, a ≠ env.locals → s0.get? a = none → h3.get? a = some o → h5.get? a = some o := fun hn e eo => (hs5.2 _ hn).trans (Heap.get?_push_of_some _ (e4 _ _ (frP e) eo))
  have hf51 : h5.get? h2.objs.size = some F1 := kc5 hne1 (none_ge kf1) hf3
  have hLlt : env.locals < h3.objs.size := let ⟨o, eo⟩ := Ns.live hns3; Heap.lt_size eo
  have hne4 : h4.objs.size ≠ env.locals := Nat.ne_of_gt (Nat.lt_of_lt_of_le hLlt z4)
  have hf52 : h5.get? h4.objs.size = some { cls := .type "function", data := .func F2 } := (hs5.2 _ hne4).trans hf4
  have hc51 : h5.IsCell c1 (some (.str x tx)) := IsCell.keep1 hc31 fun o e => kc5 ne1 f1 e
  have hc52 : h5.IsCell c2 (some (.ref at_)) := IsCell.keep1 hc32 fun o e => kc5 ne2 f2 e
  dsimp only
  -- stream.read = _law_give
  refine wpAny_execs_cons (plainObj_wpAny_Assign_Attribute ?_ rfl)
  refine wpAny_Name (wpAny_loadName_local hk n4 hns5 (v := .ref h4.objs.size) (by simp) ?_) (by decide)
  refine wpAny_Name (wpAny_loadName_local hk n3 hns5 (v := .ref h2.objs.size) (by rw [if_neg (by decide)]; simp) ?_) (by decide)
  obtain ⟨fdL, rfl⟩ := hF1d
  refine setAttrF (I5.k ok) hf51 FS fun h6 hsh tk n' hD hF6 e6 t6 => ?_
  have gone : ∀ {a : Addr}, s0.get? a = none → C.base.get? a = none := fun e => (I0.fresh e).2
  have nf1 : ¬ ρ4.has h2.objs.size := fun hm => by
    rcases x4.fresh _ hm with q | q
    · obtain ⟨o, eo⟩ := I2.live q; rw [get_size] at eo; cases eo
    · rw [hf3] at q; cases q
  have I6 : Inv C ρ4 mh h6 := I5.ext nf1 (gone (none_ge kf1)) e6
  have x6 : Ext C ρ [] s0 ρ4 h6 := x5.step (none_ge kf1) e6
  have z4' : h3.objs.size ≤ h4.objs.size := z4
  have live1 : ∀ {a : Addr} {o : Obj}, s.heap.get? a = some o → a ≠ h2.objs.size := fun e => Nat.ne_of_lt (Nat.lt_of_lt_of_le (Heap.lt_size e) kf1)
  have hc61 : h6.IsCell c1 (some (.str x tx)) := let ⟨o, ho, _⟩ := hc1; IsCell.keep1 hc51 fun o' e => e6 _ _ (live1 ho) e
  have hc62 : h6.IsCell c2 (some (.ref at_)) := let ⟨o, ho, _⟩ := hc2; IsCell.keep1 hc52 fun o' e => e6 _ _ (live1 ho) e
  have z5 : h4.objs.size < h5.objs.size := Heap.lt_size hf52
  have hf62 : h6.get? h4.objs.size = some { cls := .type "function", data := .func F2 } := e6 _ _ (Nat.ne_of_gt (Nat.lt_of_lt_of_le z3 z4')) hf52
  have hns6 := Ns.keep1 hns5 fun o e => e6 _ _ (Ne.symm hne1) e
  obtain ⟨o1, ho1, hd1⟩ := hc61
  obtain ⟨o2, ho2, hd2⟩ := hc62
  have nid : ∀ {a : Addr}, s0.get? a = none → a ∉ ρ.ids := fun e hm => by obtain ⟨o, eo⟩ := I0.liveId hm; rw [eo] at e; cases e
  have fz : ∀ {ρ' : Wd} {a : Addr} {o : Obj}, Inv C ρ' mh h6 → ρ'.ids = ρ.ids → s0.get? a = none → h6.get? a = some o → Inv C (ρ'.froze a o) mh h6 := fun I' hi e eo => I'.freezeI (by rw [hi]; exact nid e) (gone e) eo
  have id6 : ρ4.ids = ρ.ids := id4.trans id2
  have g1 : s0.get? h2.objs.size = none := none_ge kf1
  have g2 : s0.get? h4.objs.size = none := none_ge (Nat.le_trans kf1 (Nat.le_trans (Nat.le_of_lt z3) z4'))
  have g3 : s0.get? h5.objs.size = none := none_ge (Nat.le_trans (Nat.le_trans kf1 (Nat.le_trans (Nat.le_of_lt z3) z4')) (Nat.le_of_lt z5))
  have J1 := fz I6 id6 f1 ho1
  have J2 := fz J1 id6 f2 ho2
  have J3 := fz J2 id6 g2 hf62
  have J4 := fz J3 id6 g3 hD
  have J5 := fz J4 id6 g1 hF6
  have X5 := ((((x6.freeze o1 f1).freeze o2 f2).freeze { cls := .type "function", data := .func F2 } g2).freeze (dictOf [⟨hsh, .str "read" tk, .ref h4.objs.size⟩] n') g3).freeze { cls := .type "function", dict := some h5.objs.size, data := .func fdL } g1
  have cf := cf4 hgv
  have ST : StrmOk C.give ((((((ρ4.froze c1 o1).froze c2 o2).froze h4.objs.size { cls := .type "function", data := .func F2 }).froze h5.objs.size (dictOf [⟨hsh, .str "read" tk, .ref h4.objs.size⟩] n')).froze h2.objs.size { cls := .type "function", dict := some h5.objs.size, data := .func fdL })).fz x at_ h2.objs.size := by
    refine ⟨_, _, _, h4.objs.size, _, F2, c1, tx, c2, List.mem_cons_self, rfl, ⟨_, rfl⟩, rfl, .tail _ (.head _), ?_, .tail _ (.tail _ (.head _)), rfl, rfl, ⟨?_, ?_⟩, ?_, ?_, ⟨o1, .tail _ (.tail _ (.tail _ (.tail _ (.head _)))), hd1⟩, ⟨o2, .tail _ (.tail _ (.tail _ (.head _))), hd2⟩⟩
    · rfl
    · rw [← hF2]; exact hgive _ _ _ _ _ _ hcc (gone f1) (gone f2)
    · rw [← hF2]; exact cf.mono fun q hq => .tail _ (.tail _ (.tail _ (.tail _ (.tail _ hq))))
    · rw [← hF2]; rfl
    · rw [← hF2]; rfl
  have J6 := J5.stream ST
  have X6 := X5.stream (x, at_, h2.objs.size)
  generalize hW : (Wd.mk _ _ _ _ : Wd) = W at J6 X6
  have VS : VR W (.strm x t) (.ref h2.objs.size) := by
    rw [← hW]
    unfold VR
    exact ⟨_, at_, rfl, by rw [show _ = ρ.ids from id6]; exact hat, .head _⟩
  -- return _netrclex(stream)
  refine wpAny_execs_cons (wpAny_Return_some ?_)
  refine wpAny_Call_NameR (Calls.Name_function_global hk n5 (Calls.loadGlobal_global (by rw [hge]; exact J6.g ok) hcN ?_) (by decide))
  refine callWith_K (J6.k ok) hkN (args_cons (wpAny_Name (wpAny_loadName_local hk n3 hns6 (v := .ref h2.objs.size) (by rw [if_neg (by decide)]; simp) ?_) (by decide)) rfl) rfl rfl
  refine args_nil ⟨J6.k ok, ?_⟩
  exact wpAny_call (hmk hmk1 ao J6 (so.heap _ _) (.cons VS .nil) fun v ρ' s' x' I' so' v' => hQ v ρ' s' (X6.trans x') I' so' v')
end Mine

namespace Mine
variable {C : Cx} {d : Nat} {env : Env}

set_option tactic.hygienic true in
theorem RF_lexer (ok : C.Ok) {p : Addr × Addr} {f cN : Addr} {oc : Value} {od : Option Addr} {osl : Array (Option Value)} {qual qualG : Str} {params : Arguments} {scope : Scope} {dV kV doc pm ct : Value} {an : Option Addr}
    {lp gp : Arguments} {lsc gsc : Scope} {gbody : List Stmt} {gpos lpos lpos2 p1 p4 p5 p6 p7 p8 p9 p10 p11 p12 : Pos} {k0 : Nat} {mk : DF}
    (hK : C.K.lookup f = some ⟨oc, od, .func (fnOf "_law_lexer" qual params (lexBody lp gp lsc gsc gbody gpos lpos lpos2 p1 p4 p5 p6 p7 p8 p9 p10 p11 p12 k0) scope dV kV doc pm an (.ref p.1) ct), osl⟩) (hcd : codeIn C.K (.ref p.1) qual = true)
    (hT : p ∈ C.T) (hgv : C.gv p.2 = some (gpos, qualG)) (hlg : (lpos.line : Int) ≠ gpos.line ∨ (lpos.col : Int) ≠ gpos.col) (hgive : ∀ c1 c2 doc pm cv ctv, c1 ≠ c2 → C.base.get? c1 = none → C.base.get? c2 = none → C.give (fdOf "_law_give" qualG gp (.stmts gbody) gsc [(("text" : Str), c1), (("at" : Str), c2)] doc pm cv ctv))
    (hcN : C.mg "_netrclex" = some (.ref cN)) (hkN : keepIn C.K (.ref cN) = true) (hmk : RF C d cN mk) (FS : FnStore C.K "read")
    (hbind : ∀ v w : Value, bindArgs (fnOf "_law_lexer" qual params (lexBody lp gp lsc gsc gbody gpos lpos lpos2 p1 p4 p5 p6 p7 p8 p9 p10 p11 p12 k0) scope dV kV doc pm an (.ref p.1) ct) ⟨[v, w], []⟩ = pure [(("text" : Str), v), (("at" : Str), w)])
    (hn1 : scope.names.lookup ("text" : Str) = some .cell) (hn2 : scope.names.lookup ("at" : Str) = some .cell) (hn3 : scope.names.lookup ("stream" : Str) = some .local) (hn4 : scope.names.lookup ("_law_give" : Str) = some .local) (hn5 : scope.names.lookup ("_netrclex" : Str) = some .globalImplicit)
    (hk : scope.kind = .function) (hco : scope.isCoroutine = false) (hgen : scope.isGenerator = false)
    (hlp : ∀ e, defaultsOf lp e = ([], [])) (hgp : gp.defaults = [] ∧ gp.kw_defaults = []) (hga : ∀ e, annTrees gp none e = []) (hlc : ∀ e, closureFor lsc e = pure [])
    (hgc : ∀ L, ∃ c1 c2, closureFor gsc (callEnvC (fnOf "_law_lexer" qual params (lexBody lp gp lsc gsc gbody gpos lpos lpos2 p1 p4 p5 p6 p7 p8 p9 p10 p11 p12 k0) scope dV kV doc pm an (.ref p.1) ct) L f) = pure [(("text" : Str), c1), (("at" : Str), c2)] ∧ c1 ≠ c2 ∧ (cellsFrom (L + 1) scope.names []).lookup ("text" : Str) = some c1 ∧ (cellsFrom (L + 1) scope.names []).lookup ("at" : Str) = some c2)
    (hq : ∀ L, qualnameIn (callEnvC (fnOf "_law_lexer" qual params (lexBody lp gp lsc gsc gbody gpos lpos lpos2 p1 p4 p5 p6 p7 p8 p9 p10 p11 p12 k0) scope dV kV doc pm an (.ref p.1) ct) L f) "_law_give" "_law_give" = qualG) :
    RF C (d + 1) f (fLexer mk) := by
  intro mvs mh mv mh' hfm ρ A s vs R ao I so hv hR
  unfold fLexer at hfm
  split at hfm
  · rename_i x t
    cases hv with
    | cons v1 v2 =>
      cases v2 with
      | cons v2 v3 =>
        cases v3
        obtain ⟨tx, rfl⟩ := v1.str_
        obtain ⟨at_, hat, rfl⟩ := v2.ref_
        have ho := (I.k ok) _ _ hK
        refine codeAny_call_cells ao.room ho rfl (I.nolimit ok) (codeRec_of (I.k ok) hcd) rfl (hbind _ _) rfl (fun y hy => ?_) (fun s₁ X => ?_) hco hgen hk
        · simp only [List.mem_cons, List.not_mem_nil, or_false] at hy
          rcases hy with rfl | rfl
          · exact .inr ⟨hn1, cellsFrom_has _ _ _ _ (.inl hn1)⟩
          · exact .inr ⟨hn2, cellsFrom_has _ _ _ _ (.inl hn2)⟩
        · obtain ⟨c1, c2, hclos, hcc, hc1, hc2⟩ := hgc s.heap.objs.size
          have hq' := hq s.heap.objs.size
          have hcell1 := X.cell _ _ hc1
          have hcell2 := X.cell _ _ hc2
          have hab1 : s.heap.objs.size < c1 := X.above _ _ (mem_of_lookup hc1)
          have hab2 : s.heap.objs.size < c2 := X.above _ _ (mem_of_lookup hc2)
          have hns := X.toInCall.ns
          have k1 := X.toInCall.keep
          have so1 : SOk C s₁ := by obtain ⟨h', tk, rfl⟩ := X.toInCall.same; exact so.heap _ _
          have hkl : ∀ n, (callEnvC (fnOf "_law_lexer" qual params (lexBody lp gp lsc gsc gbody gpos lpos lpos2 p1 p4 p5 p6 p7 p8 p9 p10 p11 p12 k0) scope dV kV doc pm an (.ref p.1) ct) s.heap.objs.size f).kindOf n = scope.names.lookup n := fun n => rfl
          have nge : ∀ {a : Addr}, s.heap.objs.size ≤ a → s.heap.get? a = none := fun hge' => by
            cases e : s.heap.get? _ with
            | none => rfl
            | some o => exact absurd (Heap.lt_size e) (Nat.not_lt.mpr hge')
          rw [show bindC (callEnvC (fnOf "_law_lexer" qual params (lexBody lp gp lsc gsc gbody gpos lpos lpos2 p1 p4 p5 p6 p7 p8 p9 p10 p11 p12 k0) scope dV kV doc pm an (.ref p.1) ct) s.heap.objs.size f).kindOf [(("text" : Str), .str x tx), (("at" : Str), .ref at_)] (fun _ => none) "text" = some (.str x tx) from
            bindC_in _ _ _ (by show ([("text" : Str), ("at" : Str)] : List Str).Nodup; decide) (.head _) hn1] at hcell1
          rw [show bindC (callEnvC (fnOf "_law_lexer" qual params (lexBody lp gp lsc gsc gbody gpos lpos lpos2 p1 p4 p5 p6 p7 p8 p9 p10 p11 p12 k0) scope dV kV doc pm an (.ref p.1) ct) s.heap.objs.size f).kindOf [(("text" : Str), .str x tx), (("at" : Str), .ref at_)] (fun _ => none) "at" = some (.ref at_) from
            bindC_in _ _ _ (by show ([("text" : Str), ("at" : Str)] : List Str).Nodup; decide) (.tail _ (.head _)) hn2] at hcell2
          exact lex_walk (env := callEnvC (fnOf "_law_lexer" qual params (lexBody lp gp lsc gsc gbody gpos lpos lpos2 p1 p4 p5 p6 p7 p8 p9 p10 p11 p12 k0) scope dV kV doc pm an (.ref p.1) ct) s.heap.objs.size f) ok hT hgv hlg hgive hcN hkN hmk FS hk rfl rfl hn3 hn4 hn5 (hlp _) hgp (hga _) (hlc _) hclos hcc hq' hfm ao.deeper I so1 k1 hns (get_size _) hcell1 hcell2 (nge (Nat.le_of_lt hab1)) (nge (Nat.le_of_lt hab2)) (Nat.ne_of_gt hab1) (Nat.ne_of_gt hab2) hat
            fun v ρ' s' x' I' so' v' => hR v ρ' s' x' I' so' v'
  · cases hfm
end Mine

namespace Mine
variable {C : Cx} {d : Nat} {env : Env}

noncomputable def RSL (C : Cx) (d : Nat) (env : Env) (t : Sem Flow) (f : DS) : Prop :=
  ∀ {me mh fl me' mh'}, f me mh = some (fl, me', mh') → ∀ {ρ A s Q E}, Aok d A → Inv C ρ mh s.heap → SOk C s → FR C ρ env me s.heap →
    (∀ fl' ρ' s', Ext C ρ [env.locals] s.heap ρ' s'.heap → Inv C ρ' mh' s'.heap → SOk C s' → FR C ρ' env me' s'.heap → FlR ρ' fl fl' → Q fl' s') → wpAny C.M A t Q E s

theorem RSL_cons {st : Stmt} {rest : List Stmt} {f g : DS} (h1 : RSL C d env (exec st env) f) (h2 : RSL C d env (execs rest env) g) : RSL C d env (execs (st :: rest) env) (dSeq f g) := by
  intro me mh fl me' mh' hf ρ A s Q E ao I so F hQ
  refine wpAny_execs_cons ?_
  unfold dSeq at hf
  cases hf1 : f me mh with
  | none => rw [hf1] at hf; simp at hf
  | some r =>
    obtain ⟨fl1, me1, mh1⟩ := r
    rw [hf1] at hf
    refine h1 hf1 ao I so F fun fl' ρ1 s1 x1 I1 so1 F1 r1 => ?_
    cases fl1 with
    | next =>
      cases r1
      exact h2 hf ao I1 so1 F1 fun fl'' ρ2 s2 x2 I2 so2 F2 r2 => hQ _ _ _ (x1.trans x2) I2 so2 F2 r2
    | brk => cases hf; cases r1; exact hQ _ _ _ x1 I1 so1 F1 rfl
    | cont => cases hf; cases r1; exact hQ _ _ _ x1 I1 so1 F1 rfl
    | ret v => cases hf; obtain ⟨w, rfl, r⟩ := r1; exact hQ _ _ _ x1 I1 so1 F1 ⟨_, rfl, r⟩
theorem RSL_nil : RSL C d env (execs [] env) dNil := by
  intro me mh fl me' mh' hf ρ A s Q E ao I so F hQ
  cases hf
  exact wpAny_execs_nil (hQ _ _ _ (Ext.refl _ _ _) I so F rfl)
set_option tactic.hygienic true in
theorem RSL_assign (ok : C.Ok) {x : Nat} {n : Str} {p pos : Pos} {value : PySem.Expr} {f : D} (hx : C.tbl[x]? = some n) (hk : env.kindOf n = some .local)
    (h : RE C d env value f) (hs : swapsWith value (some (.Name n p)) pos.line env = pure false) : RSL C d env (exec (.Assign [.Name n p] value pos) env) (dAsg x f) := by
  intro me mh fl me' mh' hf ρ A s Q E ao I so F hQ
  unfold dAsg at hf
  split at hf
  · rename_i v mh1 hf1
    cases hf
    exact wpAny_Assign_Name (h hf1 ao I so F fun v ρ1 s1 x1 I1 so1 v1 => storeG (G := [env.locals]) ok hx (.inl ⟨hk, by simp⟩) I1 so1 (F.ext0 x1) v1 fun s2 x2 I2 so2 F2 => hQ _ _ _ (x1.wide.trans x2) I2 so2 F2 rfl) hs
  · cases hf
set_option tactic.hygienic true in
theorem RSL_ret {e : PySem.Expr} {pos : Pos} {f : D} (h : RE C d env e f) : RSL C d env (exec (.Return (some e) pos) env) (dRet f) := by
  intro me mh fl me' mh' hf ρ A s Q E ao I so F hQ
  unfold dRet at hf
  split at hf
  · rename_i v mh1 hf1
    cases hf
    exact wpAny_Return_some (h hf1 ao I so F fun v ρ1 s1 x1 I1 so1 v1 => hQ _ _ _ x1.wide I1 so1 (F.ext0 x1) ⟨_, rfl, v1⟩)
  · cases hf
set_option tactic.hygienic true in
theorem RSL_augItem {o i value : PySem.Expr} {tpos pos : Pos} {op : Operator} {fo fi fv : D} {oo : Op2} (h1 : RE C d env o fo) (h2 : RE C d env i fi) (h3 : RE C d env value fv) (ho : RO2 C d (inplaceOp op) oo)
    (hi : ∀ ov iv new, augStore i ov iv new = (do holding [new, ov, iv] (setItem ov iv new); release [new, ov, iv] []; pure .next) := by intros; rfl) :
    RSL C d env (exec (.AugAssign (.Subscript o i tpos) op value pos) env) (dAugI fo fi oo fv) := by
  intro me mh fl me' mh' hf ρ A s Q E ao I so F hQ
  unfold dAugI at hf
  split at hf
  · rename_i a mh1 e1
    split at hf
    · rename_i b mh2 e2
      split at hf
      · rename_i old mh3 e3
        split at hf
        · rename_i v mh4 e4
          split at hf
          · rename_i nw mh5 e5
            split at hf
            · rename_i mh6 e6
              cases hf
              refine wpAny_AugAssign_SubscriptAny (h1 e1 ao I so F fun va ρ1 s1 x1 I1 so1 v1 => h2 e2 ao I1 so1 (F.ext0 x1) fun vb ρ2 s2 x2 I2 so2 v2 => ?_) hi
              have x12 := x1.trans x2
              refine (item_ok (A := A) e3 I2 so2 (v1.mono x2.pre) v2 fun vo ρ3 s3 x3 I3 so3 v3 => ?_).1
              have x13 := x12.trans x3
              refine h3 e4 ao I3 so3 (F.ext0 x13) fun vv ρ4 s4 x4 I4 so4 v4 => ?_
              refine ho e5 ao I4 so4 (v3.mono x4.pre) v4 fun vn ρ5 s5 x5 I5 so5 v5 => ?_
              have x25 := x3.trans (x4.trans x5)
              refine setI_ok e6 I5 so5 ((v1.mono x2.pre).mono x25.pre) (v2.mono x25.pre) v5 fun s6 x6 I6 so6 => ?_
              have xx := x12.trans (x25.trans x6)
              exact hQ _ _ _ xx.wide I6 so6 (F.ext0 xx) rfl
            · cases hf
          · cases hf
        · cases hf
      · cases hf
    · cases hf
  · cases hf

noncomputable def oRead (xs xt xa : Nat) (F : DS) : MV → MV → MH → Option (MV × MH) := fun a v mh => match a, v with
  | .strm x t, .int k => (match mh[t]? with
    | some (.list [.int p]) => (match F [(xs, .int k), (xt, .str x), (xa, .ref 0)] [.list [.int p]] with
      | some (.ret (.str r), _, [.list [.int q]]) => some (.str r, mh.set t (.list [.int q]))
      | _ => none)
    | _ => none)
  | _, _ => none

noncomputable abbrev giveFd (qualG : Str) (gp : Arguments) (gbody : List Stmt) (gsc : Scope) (c1 c2 : Addr) (doc pm cv ctv : Value) : FuncData := fdOf "_law_give" qualG gp (.stmts gbody) gsc [(("text" : Str), c1), (("at" : Str), c2)] doc pm cv ctv

set_option tactic.hygienic true in
theorem give_call (ok : C.Ok) {qualG : Str} {gp : Arguments} {gbody : List Stmt} {gsc : Scope} {F : DS} {xs xt xa : Nat}
    (hG : ∀ fd, C.give fd → ∃ c1 c2 doc pm cv ctv, c1 ≠ c2 ∧ C.base.get? c1 = none ∧ C.base.get? c2 = none ∧ fd = giveFd qualG gp gbody gsc c1 c2 doc pm cv ctv)
    (hb : ∀ env : Env, env.scope = gsc → RSL C d env (execs gbody env) F)
    (hbind : ∀ c1 c2 doc pm cv ctv (v : Value), bindArgs (giveFd qualG gp gbody gsc c1 c2 doc pm cv ctv) ⟨[v], []⟩ = pure [(("size" : Str), v)])
    (hxs : C.tbl[xs]? = some ("size" : Str)) (hxt : C.tbl[xt]? = some ("text" : Str)) (hxa : C.tbl[xa]? = some ("at" : Str)) (hks : gsc.names.lookup ("size" : Str) = some .local) (hkt : gsc.names.lookup ("text" : Str) = some .free) (hka : gsc.names.lookup ("at" : Str) = some .free)
    (hcell : ∀ x ∈ gsc.names, x.2 ≠ .cell) (hfree : ∀ n, gsc.names.lookup n = some .free → n = "text" ∨ n = "at") (hk : gsc.kind = .function) (hco : gsc.isCoroutine = false) (hgen : gsc.isGenerator = false)
    {x : Str} {t : Nat} {k : Int} {mh mh' : MH} {r : MV} (h : oRead xs xt xa F (.strm x t) (.int k) mh = some (r, mh')) {ρ : Wd} {A : Around} {s : Shared} {R : Result → Shared → Prop} {at_ a : Addr} {tk : Tok}
    (ao : Aok (d + 1) A) (I : Inv C ρ mh s.heap) (so : SOk C s) (hat : ρ.ids[t]? = some at_) (hst : (x, at_, a) ∈ ρ.st)
    (hR : ∀ v ρ' s', Ext C ρ [] s.heap ρ' s'.heap → Inv C ρ' mh' s'.heap → SOk C s' → VR ρ' r v → R (.ok (.ret v)) s') :
    ∃ o od oD c oc fd, (a, o) ∈ ρ.fz ∧ o.cls = .type "function" ∧ (∃ f, o.data = .func f) ∧ o.dict = some od ∧ (od, oD) ∈ ρ.fz ∧ lookIn "read" oD = some (some (.ref c)) ∧ (c, oc) ∈ ρ.fz ∧ oc.cls = .type "function" ∧ oc.data = .func fd ∧
      codeAny C.M A (.call (.ref c) ⟨[.int k tk], []⟩) R s := by
  refine hide fun G kG => ?_
  obtain ⟨o, od, oD, c, oc, fd, ct, tt, cat, a1, a2, a3, a4, a5, a6, a7, a8, a9, ⟨a10, a10'⟩, a11, a12, ⟨o1, m1, d1⟩, ⟨o2, m2, d2⟩⟩ := I.st _ hst
  refine kG ⟨o, od, oD, c, oc, fd, a1, a2, a3, a4, a5, a6, a7, a8, a9, ?_⟩
  obtain ⟨c1, c2, doc, pm, cv, ctv, hcc, hb1, hb2, rfl⟩ := hG _ a10
  have e1 : ct = c1 := by
    have : ([(("text" : Str), c1), (("at" : Str), c2)] : List (Str × Addr)).lookup ("text" : Str) = some ct := a12
    rw [show ([(("text" : Str), c1), (("at" : Str), c2)] : List (Str × Addr)).lookup ("text" : Str) = some c1 from rfl] at this
    cases this; rfl
  have e2 : cat = c2 := by
    have : ([(("text" : Str), c1), (("at" : Str), c2)] : List (Str × Addr)).lookup ("at" : Str) = some cat := a11
    rw [show ([(("text" : Str), c1), (("at" : Str), c2)] : List (Str × Addr)).lookup ("at" : Str) = some c2 from rfl] at this
    cases this; rfl
  subst e1 e2
  have hatm : at_ ∈ ρ.ids := List.mem_of_getElem? hat
  have n1 : ct ∉ ρ.ids := I.sep _ m1
  have n2 : cat ∉ ρ.ids := I.sep _ m2
  have g1 := I.fz _ m1
  have g2 := I.fz _ m2
  unfold oRead at h
  simp only at h
  split at h
  · rename_i p hp
    split at h
    · rename_i rr me' q hF
      cases h
      -- the world of the call
      let P : Addr × Obj → Bool := fun z => decide (z.1 ≠ ct) && decide (z.1 ≠ cat)
      have hP : ∀ {z : Addr × Obj}, z ∈ ρ.fz.filter P → z ∈ ρ.fz ∧ z.1 ≠ ct ∧ z.1 ≠ cat := fun {z} hz => by
        have := List.mem_filter.mp hz
        exact ⟨this.1, by simpa [P] using this.2⟩
      have hPi : ∀ {z : Addr × Obj}, z ∈ ρ.fz → z.1 ≠ ct → z.1 ≠ cat → z ∈ ρ.fz.filter P := fun hz h1 h2 => List.mem_filter.mpr ⟨hz, by simp [P, h1, h2]⟩
      have cfz : ∀ {v q}, CodeFz ρ.fz v q → CodeFz (ρ.fz.filter P) v q := by
        rintro v q ⟨b, ob, vs, tb, rfl, hm, hd, hv⟩
        refine ⟨b, ob, vs, tb, rfl, hPi hm ?_ ?_, hd, hv⟩
        · intro z
          have := I.fz _ hm
          rw [show (b, ob).1 = ct from z, g1] at this
          cases this; rw [d1] at hd; cases hd
        · intro z
          have := I.fz _ hm
          rw [show (b, ob).1 = cat from z, g2] at this
          cases this; rw [d2] at hd; cases hd
      obtain ⟨oa, hoa, was, na, rfl, ra⟩ := I.at hp hat
      have I0 : Inv C ⟨[at_], ρ.fz.filter P, [], ρ.pw⟩ [.list [.int p]] s.heap := by
        refine ⟨rfl, by simp, fun i mo hi => ?_, fun z hz => I.fz z (hP hz).1, fun z hz => ?_, fun z hz => by simp at hz, fun b hb => ?_, fun z hz => I.newf z (hP hz).1, I.keep, fun z hz => let ⟨ps, q1, q2⟩ := I.tab z hz; ⟨ps, q1, fun pos q e v hv => cfz (q2 pos q e v hv)⟩, I.xb, I.pw⟩
        · cases i with
          | zero =>
            simp at hi; subst hi
            refine ⟨at_, _, rfl, hoa, was, na, rfl, ?_⟩
            cases ra with
            | cons r1 r2 => cases r2; obtain ⟨ti, rfl⟩ := r1.int_; exact .one .int'
          | succ i => simp at hi
        · simp only [List.mem_singleton]
          exact fun z2 => I.sep z (hP hz).1 (z2 ▸ hatm)
        · simp only [List.mem_singleton] at hb; subst hb; exact I.new _ hatm
      have cdr : s.heap.CodeRec cv qualG := by
        obtain ⟨b, ob, vs, tb, rfl, hm, hd, hv⟩ := a10'
        exact ⟨b, ob, vs, tb, rfl, I.fz _ hm, hd, hv⟩
      refine ks_codeAny_call_defAt (fd := giveFd qualG gp gbody gsc ct cat doc pm cv ctv) (binds := [(("size" : Str), .int k tk)]) ao.room (I.fz _ a7) a9 (I.nolimit ok) cdr rfl (BindsTo.of_eq (hbind _ _ _ _ _ _ _)) hcell (fun y hy => by simp at hy; subst hy; exact hks) (fun h0 hns k0 => wpAt_of_wpAny ?_) hco hgen hk
      have I1 : Inv C ⟨[at_], ρ.fz.filter P, [], ρ.pw⟩ [.list [.int p]] h0 := I0.junk k0
      have L0 : s.heap.get? s.heap.objs.size = none := get_size _
      have hl1 : ct ≠ s.heap.objs.size := fun z => by rw [show ct = s.heap.objs.size from z, L0] at g1; cases g1
      have hl2 : cat ≠ s.heap.objs.size := fun z => by rw [show cat = s.heap.objs.size from z, L0] at g2; cases g2
      have F1 : FR C ⟨[at_], ρ.fz.filter P, [], ρ.pw⟩ (callEnv (giveFd qualG gp gbody gsc ct cat doc pm cv ctv) s.heap.objs.size c) [(xs, .int k), (xt, .str x), (xa, .ref 0)] h0 := by
        have nh : ∀ b ∈ fa (callEnv (giveFd qualG gp gbody gsc ct cat doc pm cv ctv) s.heap.objs.size c), ¬ Wd.has ⟨[at_], ρ.fz.filter P, [], ρ.pw⟩ b ∧ C.base.get? b = none := by
          intro b hb'
          have hb2 : b = s.heap.objs.size ∨ b = ct ∨ b = cat := by simpa [fa, callEnv, newEnv] using hb'
          rcases hb2 with rfl | rfl | rfl
          · refine ⟨fun hm => ?_, (I.fresh L0).2⟩
            rcases hm with q | ⟨oz, q⟩
            · simp only [List.mem_singleton] at q; rw [q] at L0; rw [L0] at hoa; cases hoa
            · have := I.fz _ (hP q).1; rw [L0] at this; cases this
          · refine ⟨fun hm => ?_, hb1⟩
            rcases hm with q | ⟨oz, q⟩
            · simp only [List.mem_singleton] at q; exact n1 (q ▸ hatm)
            · exact (hP q).2.1 rfl
          · refine ⟨fun hm => ?_, hb2⟩
            rcases hm with q | ⟨oz, q⟩
            · simp only [List.mem_singleton] at q; exact n2 (q ▸ hatm)
            · exact (hP q).2.2 rfl
        refine ⟨hk, rfl, rfl, ⟨_, hns⟩, fun n cc hm => ?_, nh, fun b hb' => I.not_x (nh b hb').2, ?_, fun n cc hm => ?_, fun n hn => ?_, fun n hn => ?_, fun y my n hy ht => ?_⟩
        · have hm2 : (n, cc) = (("text" : Str), ct) ∨ (n, cc) = (("at" : Str), cat) := by simpa [callEnv, newEnv] using hm
          rcases hm2 with e | e
          · cases e; exact ⟨_, o1, k0 _ _ g1, d1⟩
          · cases e; exact ⟨_, o2, k0 _ _ g2, d2⟩
        · show ([(("text" : Str), ct), (("at" : Str), cat)] : List (Str × Addr)).Pairwise _
          simp [hcc]
        · have hm2 : (n, cc) = (("text" : Str), ct) ∨ (n, cc) = (("at" : Str), cat) := by simpa [callEnv, newEnv] using hm
          rcases hm2 with e | e
          · cases e; exact hl1
          · cases e; exact hl2
        · exact absurd rfl (hcell (n, .cell) (mem_of_lookup hn))
        · rcases hfree n hn with rfl | rfl
          · exact ⟨ct, rfl⟩
          · exact ⟨cat, rfl⟩
        · have hkn : ∀ n, (callEnv (giveFd qualG gp gbody gsc ct cat doc pm cv ctv) s.heap.objs.size c).kindOf n = gsc.names.lookup n := fun n => rfl
          have hcl : ∀ n, (callEnv (giveFd qualG gp gbody gsc ct cat doc pm cv ctv) s.heap.objs.size c).cells.lookup n = ([(("text" : Str), ct), (("at" : Str), cat)] : List (Str × Addr)).lookup n := fun n => rfl
          rw [List.lookup_cons] at hy
          by_cases e : y = xs
          · subst e
            simp at hy; subst hy
            rw [hxs] at ht; cases ht
            refine ⟨.int k tk, .int', ?_⟩
            unfold VarAt
            rw [hkn, hks]
            exact ⟨_, hns, rfl⟩
          · rw [show (y == xs) = false by simpa using e] at hy
            simp only at hy
            rw [List.lookup_cons] at hy
            by_cases e : y = xt
            · subst e
              simp at hy; subst hy
              rw [hxt] at ht; cases ht
              refine ⟨.str x tt, .str', ?_⟩
              unfold VarAt
              rw [hkn, hkt]
              exact ⟨ct, rfl, o1, k0 _ _ g1, d1⟩
            · rw [show (y == xt) = false by simpa using e] at hy
              simp only at hy
              rw [List.lookup_cons] at hy
              by_cases e : y = xa
              · subst e
                simp at hy; subst hy
                rw [hxa] at ht; cases ht
                refine ⟨.ref at_, .ref' rfl, ?_⟩
                unfold VarAt
                rw [hkn, hka]
                exact ⟨cat, rfl, o2, k0 _ _ g2, d2⟩
              · rw [show (y == xa) = false by simpa using e] at hy
                simp at hy
      refine hb (callEnv (giveFd qualG gp gbody gsc ct cat doc pm cv ctv) s.heap.objs.size c) rfl hF ao.deeper I1 (so.heap _ _) F1 fun fl' ρ1 s' x1 I2 so2 F2 r2 => ?_
      obtain ⟨rv, rfl, hrv⟩ := r2
      obtain ⟨tr, rfl⟩ := hrv.str_
      have hle : ρ.le ⟨ρ.ids, ρ.fz ++ ρ1.fz, ρ.st, ρ.pw⟩ := ⟨⟨[], by simp⟩, fun z hz => List.mem_append_left _ hz, fun z hz => hz, rfl⟩
      have stand : ∀ b o, s.heap.get? b = some o → b ≠ at_ → b ∉ C.X → s'.heap.get? b = some o := fun b o e h1 h2 => x1.keep b o (k0 _ _ e) (by simpa using h1) h2 (by
        show b ∉ [s.heap.objs.size]
        simp only [List.mem_singleton]
        exact Nat.ne_of_lt (Heap.lt_size e))
      have old0 : ∀ b, h0.get? b = none → s.heap.get? b = none := fun b e => by
        cases e2 : s.heap.get? b with
        | none => rfl
        | some ob => rw [k0 _ _ e2] at e; cases e
      have frs : ∀ b, ρ1.has b → (b = at_ ∨ ∃ ob, (b, ob) ∈ ρ.fz) ∨ s.heap.get? b = none := fun b hb' => by
        rcases x1.fresh b hb' with q | q
        · rcases q with q | ⟨ob, q⟩
          · exact .inl (.inl (by simpa using q))
          · exact .inl (.inr ⟨ob, (hP q).1⟩)
        · exact .inr (old0 _ q)
      have xE : Ext C ρ [] s.heap ⟨ρ.ids, ρ.fz ++ ρ1.fz, ρ.st, ρ.pw⟩ s'.heap := by
        refine ⟨hle, fun b ob e h1 h2 _ => stand b ob e (fun z => h1 (z ▸ hatm)) h2, fun b hb' => .inl hb', fun b hb' => ?_, fun b ob e => x1.live b ob (k0 _ _ e)⟩
        rcases hb' with q | ⟨ob, q⟩
        · exact .inl (.inl q)
        · rcases List.mem_append.mp q with q | q
          · exact .inl (.inr ⟨ob, q⟩)
          · rcases frs b (.inr ⟨ob, q⟩) with (q | q) | q
            · exact .inl (.inl (q ▸ hatm))
            · exact .inl (.inr q)
            · exact .inr q
      have hat1 : ρ1.ids[0]? = some at_ := pre_get0 x1.pre.ids rfl
      have hat1m : at_ ∈ ρ1.ids := List.mem_of_getElem? hat1
      refine hR (.str rr tr) ⟨ρ.ids, ρ.fz ++ ρ1.fz, ρ.st, ρ.pw⟩ s' xE ⟨by simp [I.len], I.nd, fun i mo hi => ?_, fun z hz => ?_, fun z hz => ?_, fun z hz => (I.st z hz).mono fun q hq => List.mem_append_left _ hq, I.new, fun z hz => ?_, I2.keep, fun z hz => let ⟨ps, q1, q2⟩ := I2.tab z hz; ⟨ps, q1, q2.mono fun q hq => List.mem_append_right _ hq⟩, I2.xb, I.pw⟩ so2 .str'
      · by_cases e : t = i
        · subst e
          rw [List.getElem?_set_self (mh_lt hp)] at hi
          cases hi
          obtain ⟨b, ob, q1, q2, q3⟩ := I2.obj 0 _ rfl
          rw [hat1] at q1; cases q1
          obtain ⟨ws, nn, rfl, rw_⟩ := q3
          refine ⟨at_, _, hat, q2, ws, nn, rfl, ?_⟩
          cases rw_ with
          | cons r1 r2 => cases r2; obtain ⟨ti, rfl⟩ := r1.int_; exact .one .int'
        · rw [List.getElem?_set_ne e] at hi
          obtain ⟨b, ob, q1, q2, q3⟩ := I.obj i mo hi
          have hbm := List.mem_of_getElem? q1
          refine ⟨b, ob, q1, stand b ob q2 (fun z => e ?_) (I.id_x hbm), q3.mono hle⟩
          subst z
          obtain ⟨li, ei⟩ := List.getElem?_eq_some_iff.mp hat
          obtain ⟨lj, ej⟩ := List.getElem?_eq_some_iff.mp q1
          exact (List.getElem_inj I.nd).mp (ei.trans ej.symm)
      · rcases List.mem_append.mp hz with q | q
        · exact stand _ _ (I.fz z q) (fun e => I.sep z q (e ▸ hatm)) (I.newf z q)
        · exact I2.fz z q
      · rcases List.mem_append.mp hz with q | q
        · exact I.sep z q
        · intro hm
          rcases frs z.1 (.inr ⟨z.2, q⟩) with (q2 | ⟨ob, q2⟩) | q2
          · exact I2.sep z q (q2 ▸ hat1m)
          · exact I.sep _ q2 hm
          · obtain ⟨ob, e⟩ := I.liveId hm; rw [q2] at e; cases e
      · rcases List.mem_append.mp hz with q | q
        · exact I.newf z q
        · exact I2.newf z q
    · cases h
  · cases h
end Mine

namespace Mine
open Builtin Builtin.ObjectAttr Builtin.Getset_descriptor
variable {C : Cx} {d : Nat} {env : Env}

theorem fn_ga : typeLookup (.type "function") "__getattribute__" = pure (some (.builtin "object.__getattribute__")) := by rw [typeLookup_type, builtinLookup_eq_fast]; kernel_rfl
theorem fn_gh : typeLookup (.type "function") "__getattr__" = pure none := by rw [typeLookup_type, builtinLookup_eq_fast]; kernel_rfl
theorem fn_read : typeLookup (.type "function") "read" = pure none := by rw [typeLookup_type, builtinLookup_eq_fast]; kernel_rfl
theorem slot_fn_ga : Slot "function" "__getattribute__" "object.__getattribute__" := .of (owner := "object") (n := "__getattribute__") fn_ga (by decide +kernel) (by decide +kernel) (by decide +kernel)
  (by first | exact .inl (by decide +kernel) | exact .inr (by decide +kernel)) (by rw [isSubtype_type]; kernel_rfl)
theorem entry_obj_ga : entryFor table "object.__getattribute__" = some Builtin.«object.__getattribute__» := entryFor_of_tree (by kernel_rfl)
theorem args_obj_ga (o a : Value) : argsOk "object.__getattribute__" ⟨[o, a], []⟩ := by unfold argsOk; kernel_rfl

theorem fn_ga_read {prog : Program} {w : World} {A : Around} {E : Value → Shared → Prop} {h : Heap} {g : Array GenState} {dr : Drawn} {t : Nat} {os : OsState} {a c dx : Addr} {fd : FuncData} {o oD : Obj} {u : Tok} {Q : PySem.Fin → Shared → Prop}
    (ho : h.get? a = some o) (hc : o.cls = .type "function") (hf : o.data = .func fd) (hd : o.dict = some dx) (hD : h.get? dx = some oD) (hl : lookIn "read" oD = some (some (.ref c)))
    (q : Q (.done (.ret (.ref c))) ⟨h, g, dr, t, os⟩) : wpAny (model prog w) A (Builtin.«object.__getattribute__» ⟨[.ref a, .str "read" u], []⟩) Q E ⟨h, g, dr, t, os⟩ := by
  obtain ⟨oc, od, oda, osl⟩ := o
  dsimp only at hc hf hd
  subst hc hf hd
  have hT : (⟨h, g, dr, t, os⟩ : Shared).TypeIs (.ref a) "function" := ⟨_, ho, rfl⟩
  have own : Looks (model prog w) h (inOwnDict "read" (.ref a)) (some (.ref c)) := by
    intro A Q E s k q
    refine wpAny_bind (wpAny_bind (wpAny_loadPart (k _ _ ho) ?_))
    show wpAny _ _ (instanceDict a false) _ _ _
    unfold instanceDict
    refine wpAny_bind (wpAny_loadPart (k _ _ ho) ?_)
    refine wpAny_pure (a := some dx) ?_
    refine wpAny_bind (wpAny_loadPart (k _ _ hD) ?_)
    rw [nsLook_of hl]; exact wpAny_pure q
  unfold Builtin.«object.__getattribute__»
  have hs : slotArgs "__getattribute__" 1 ⟨[.ref a, .str "read" u], []⟩ = pure (.ref a, [.str "read" u]) := rfl
  rw [hs]
  refine wpAny_bind (wpAny_pure ?_)
  dsimp only
  refine wpAny_bind (wpAny_pure (wpAny_bind (wpAny_typeOf hT ?_)))
  refine wpAny_bind ?_
  unfold find
  rw [fn_read]
  refine wpAny_bind (wpAny_pure (wpAny_bind (wpAny_pure (wpAny_bind (wpAny_pure ?_)))))
  unfold ownThenClass
  refine wpAny_bind (own.at ?_)
  exact wpAny_bind (wpAny_rule (wpAny_pure (wpAny_pure q)))

theorem getMethod_fn {prog : Program} {w : World} {A : Around} {E : Value → Shared → Prop} {h : Heap} {g : Array GenState} {dr : Drawn} {t : Nat} {os : OsState} {a c dx : Addr} {fd : FuncData} {o oD : Obj} {pl : Sem Bool} {Q : Value × List Value → Shared → Prop}
    (ho : h.get? a = some o) (hc : o.cls = .type "function") (hf : o.data = .func fd) (hd : o.dict = some dx) (hD : h.get? dx = some oD) (hl : lookIn "read" oD = some (some (.ref c)))
    (hq : Q (.ref c, []) ⟨h, g, dr, t + 1, os⟩) : wpAny (model prog w) A (getMethod (.ref a) "read" pl) Q E ⟨h, g, dr, t, os⟩ := by
  have hT : ∀ t', (⟨h, g, dr, t', os⟩ : Shared).TypeIs (.ref a) "function" := fun _ => ⟨_, ho, hc⟩
  unfold getMethod
  refine wpAny_bind (wpAny_specialOf (hT _) fn_ga ?_)
  show wpAny _ _ (if (Manifest.canonical "object.__getattribute__" != "object.__getattribute__") = true then _ else _) _ _ _
  rw [if_neg (show ¬ (Manifest.canonical "object.__getattribute__" != "object.__getattribute__") = true by decide +kernel)]
  refine wpAny_bind (wpAny_specialOf (hT _) fn_gh ?_)
  refine wpAny_bind (wpAny_specialOf (hT _) fn_read ?_)
  unfold getAttr getAttrBy
  refine wpAny_bind (wpAny_bind (wpAny_mkText (wpAny_holding (wpAny_bind (wpAny_typeOf (hT _) (wpAny_bind (wpAny_of_eq fn_ga ?_)))))))
  show wpAny _ _ (getAttrByItsOwn (.ref a) (.str "read" t) (.type "function") (.builtin "object.__getattribute__") true false) _ _ _
  unfold getAttrByItsOwn hookBefore callGetattribute boundAndCalled
  refine wpAny_bind (wpAny_of_eq (show (if onTheHeap (.type "function") then typeLookup (.type "function") "__getattr__" else pure none) = pure none from rfl) ?_)
  refine wpAny_bind (wpAny_attempt (wpAny_holding ?_))
  show wpAny _ _ (bindSpecial (.builtin "object.__getattribute__") (.ref a) >>= _) _ _ _
  refine wpAny_bind (wpAny_of_eq (slot_fn_ga.bind _) ?_)
  refine wpAny_mono (Q := fun v s' => v = .ref c ∧ s' = ⟨h, g, dr, t + 1, os⟩) (E := fun _ _ => False)
    (wpAny_call_entry slot_fn_ga (hT _) entry_obj_ga (fn_ga_read ho hc hf hd hD hl ⟨_, rfl, rfl, rfl⟩) (args_obj_ga _ _)) (fun v s' hv => ?_) fun _ _ z => z.elim
  obtain ⟨rfl, rfl⟩ := hv
  exact wpAny_pure (wpAny_pure hq)

noncomputable def dRead (rd : MV → MV → MH → Option (MV × MH)) (f g : D) : D := fun me mh => match f me mh with
  | some (a, mh1) => (match g me mh1 with
    | some (v, mh2) => rd a v mh2
    | none => none)
  | none => none

set_option tactic.hygienic true in
theorem RE_read (ok : C.Ok) {qualG : Str} {gp : Arguments} {gbody : List Stmt} {gsc : Scope} {F : DS} {xs xt xa : Nat}
    (hG : ∀ fd, C.give fd → ∃ c1 c2 doc pm cv ctv, c1 ≠ c2 ∧ C.base.get? c1 = none ∧ C.base.get? c2 = none ∧ fd = giveFd qualG gp gbody gsc c1 c2 doc pm cv ctv)
    (hb : ∀ env : Env, env.scope = gsc → RSL C d env (execs gbody env) F)
    (hbind : ∀ c1 c2 doc pm cv ctv (v : Value), bindArgs (giveFd qualG gp gbody gsc c1 c2 doc pm cv ctv) ⟨[v], []⟩ = pure [(("size" : Str), v)])
    (hxs : C.tbl[xs]? = some ("size" : Str)) (hxt : C.tbl[xt]? = some ("text" : Str)) (hxa : C.tbl[xa]? = some ("at" : Str)) (hks : gsc.names.lookup ("size" : Str) = some .local) (hkt : gsc.names.lookup ("text" : Str) = some .free) (hka : gsc.names.lookup ("at" : Str) = some .free)
    (hcell : ∀ x ∈ gsc.names, x.2 ≠ .cell) (hfree : ∀ n, gsc.names.lookup n = some .free → n = "text" ∨ n = "at") (hk : gsc.kind = .function) (hco : gsc.isCoroutine = false) (hgen : gsc.isGenerator = false)
    {o e : PySem.Expr} {apos pos : Pos} {pl : Sem Bool} {f g : D}
    (ho : RE C (d + 1) env o f) (ha : RE C (d + 1) env e g) (hbase : attributeBase o "read" env (eval o env) = eval o env)
    (he : eval (.Call (.Attribute o "read" apos) [e] [] pos) env = (do
      let ov ← attributeBase o "read" env (eval o env)
      standAt apos.atName
      let (f, first) ← holding [ov] (getMethod ov "read" pl)
      callWith pos f first (backTo pos (starEach [e] env)) []) := by rfl)
    (hs : starEach [e] env = (false, eval e env) :: starEach [] env := by rfl) : RE C (d + 1) env (.Call (.Attribute o "read" apos) [e] [] pos) (dRead (oRead xs xt xa F) f g) := by
  intro me mh mv mh' h ρ A s Q E ao I so FF hQ
  unfold dRead at h
  split at h
  · rename_i a mh1 h1
    split at h
    · rename_i v mh2 h2
      have hsh : ∃ x t k, a = .strm x t ∧ v = .int k := by
        unfold oRead at h
        split at h
        · exact ⟨_, _, _, rfl, rfl⟩
        · cases h
      obtain ⟨x, t, k, rfl, rfl⟩ := hsh
      rw [he, hbase]
      refine wpAny_bind (ho h1 ao I so FF fun rv ρ1 s1 x1 I1 so1 v1 => ?_)
      obtain ⟨ad, at_, rfl, hat, hst⟩ := v1.strm_
      obtain ⟨o1, od, oD, c, oc, fd, ct, tt, cat, a1, a2, ⟨fdo, a3⟩, a4, a5, a6, a7, a8, a9, _⟩ := I1.st _ hst
      obtain ⟨hh1, g1, dr1, t1, os1⟩ := s1
      refine wpAny_bind (wpAny_standAt (wpAny_bind (wpAny_holding (getMethod_fn (I1.fz _ a1) a2 a3 a4 (I1.fz _ a5) a6 ?_))))
      have hRL : RArgs C (d + 1) env [e] (dL1 g dL0) := RL_cons ha RL_nil hs
      have hg := hRL pos (mvs := [.int k]) (mh' := mh2) (me := me) (mh := mh1) (by unfold dL1; rw [h2]; rfl) (A := A) (E := E) (Q := fun ws s2 => (s2.heap.get? c = some oc ∧ oc.data = .func fd) ∧ wpAny C.M A (call (.ref c) ([] ++ ws)) Q E s2) ao (s := ⟨hh1, g1, dr1, t1 + 1, os1⟩) I1 (so1.heap _ _) (FF.ext0 x1)
        fun ws ρ2 s2 x2 I2 so2 v2 => ⟨⟨I2.fz _ (x2.pre.fz _ a7), a9⟩, by
          cases v2 with
          | cons w1 w2 =>
            cases w2
            obtain ⟨tk, rfl⟩ := w1.int_
            obtain ⟨o1', od', oD', c', oc', fd', b1, b2, b3, b4, b5, b6, b7, b8, b9, hcall⟩ := give_call ok hG hb hbind hxs hxt hxa hks hkt hka hcell hfree hk hco hgen h (A := A) (tk := tk) (R := fun r s' => match r with | .ok (.ret v) => Q v s' | .ok _ => False | .error e => E e s') ao I2 so2 (pre_get x2.pre hat) (x2.pre.st _ hst)
              (fun v ρ' s' x' I' so' v' => hQ v ρ' s' (x1.trans (x2.trans x')) I' so' v')
            have q1 := I2.fz _ (x2.pre.fz _ a1)
            have q2 := I2.fz _ b1
            rw [show (ad, o1).1 = ad from rfl, show (ad, o1).2 = o1 from rfl] at q1
            rw [show (ad, o1').1 = ad from rfl, show (ad, o1').2 = o1' from rfl, q1] at q2
            cases q2
            rw [a4] at b4; cases b4
            have q3 := I2.fz _ (x2.pre.fz _ a5)
            have q4 := I2.fz _ b5
            rw [show (od, oD).1 = od from rfl, show (od, oD).2 = oD from rfl] at q3
            rw [show (od, oD').1 = od from rfl, show (od, oD').2 = oD' from rfl, q3] at q4
            cases q4
            rw [a6] at b6; cases b6
            exact wpAny_call hcall⟩
      dsimp only
      rw [hs] at hg ⊢
      exact Calls.callWith_function (o := oc) (fd := fd) (Calls.evalArgs_plain hg)
    · cases h
  · cases h
end Mine

namespace Mine
theorem slot_cit_next : Slot "callable_iterator" "__next__" "callable_iterator.__next__" := .of (owner := "callable_iterator") (n := "__next__") (by rw [typeLookup_type, builtinLookup_eq_fast]; kernel_rfl) (by decide +kernel) (by decide +kernel) (by decide +kernel)
  (by first | exact .inl (by decide +kernel) | exact .inr (by decide +kernel)) (by rw [isSubtype_type]; kernel_rfl)
theorem entry_cit_next : entryFor table "callable_iterator.__next__" = some Builtin.«callable_iterator.__next__» := entryFor_of_tree (by kernel_rfl)
theorem args_cit_next (o : Value) : argsOk "callable_iterator.__next__" ⟨[o], []⟩ := by unfold argsOk; kernel_rfl
open Builtin Builtin.SmallTypes
variable {M : Model} {A : Around} {E : Value → Shared → Prop} {s : Shared}
theorem wpAny_callBorrowed {f : Value} {pos : List Value} {Q : Value → Shared → Prop}
    (hc : codeAny M A (.call f ⟨pos, []⟩) (fun r s' => match r with | .ok (.ret v) => Q v s' | .ok _ => False | .error e => E e s') s) : wpAny M A (callBorrowed f pos) Q E s := fun Γ p hΓ => by
  unfold callBorrowed
  rw [Sem.wp_call]
  refine wpCode_mono (fun r s' h => ?_) (hc _ p rfl (hΓ.enter _ none p (by intro x; cases x)))
  rcases r with e | (v | _ | _ | _) <;> first | exact h | exact h.elim

theorem isFun_borrow {h : Heap} {ma f : Addr} {x : Value} {of : Obj} {fd : FuncData} (hm : h.get? ma = some (methodObj (.ref f) x)) (hf : h.get? f = some of) (hfd : of.data = .func fd) : Looks M h (borrowsExactly (.ref ma)) true := by
  intro A Q E s k q
  unfold borrowsExactly
  refine wpAny_bind (wpAny_load (k _ _ hm) ?_)
  show wpAny _ _ (if (Value.type "method" == Value.type "method") = true then _ else _) _ _ _
  rw [if_pos (by decide)]
  show wpAny _ _ (load f >>= _) _ _ _
  refine wpAny_bind (wpAny_load (k _ _ hf) ?_)
  rw [hfd]
  exact wpAny_pure q

noncomputable abbrev citObj (ma : Addr) (te : Tok) : Obj := { cls := .type "callable_iterator", data := .fields #[.ref ma, .str "" te, .bool false] }
noncomputable abbrev citEnd : Obj := { cls := .type "callable_iterator", data := .fields #[.none, .none, .bool true] }

theorem stop_told {α : Type} {P : α → Shared → Prop} {prog : Program} {w : World} {s : Shared} {Q : Option Value → Shared → Prop} {E : Value → Shared → Prop} (hh : A.handled = none)
    (hQ : ∀ h' tk, (∀ b ob, s.heap.get? b = some ob → h'.get? b = some ob) → Q none { s with heap := h', toks := tk }) :
    wpAny (model prog w) A.in1 (Builtin.SmallTypes.stopIteration (α := α)) P
      (fun e s' => wpAny (model prog w) A (isInstance e (.type "StopIteration")) (fun b s'' => b = true ∧ Q none s'') E s') s := by
  show wpAny _ _ (newExc (.type "StopIteration") [] >>= _) _ _ _
  refine wpAny_bind ?_
  simp only [newExc, newTuple]
  refine wpAny_bind (wpAny_newObj_type ?_ (by size_fits))
  refine wpAny_bind (m := firstArgMember _ _) (wpAny_of_eq (a := Value.none) (by first | rfl | (simp only [firstArgMember]; rfl)) ?_)
  refine wpAny_newObj_type ?_ (by size_fits)
  simp only [raiseNew]
  refine wpAny_bind (wpAny_handled ?_)
  rw [show A.in1.handled = none from hh]
  refine wpAny_bind (wpAny_pure (wpAny_throw ?_))
  refine wpAny_isInstance (T := "StopIteration") (b := true) ⟨_, Heap.get?_push_size _ rfl, rfl⟩ isSubtype_stop ?_
  exact ⟨rfl, hQ _ _ fun b ob e => Heap.get?_push_of_some _ (Heap.get?_push_of_some _ e)⟩

theorem cnext_live {prog : Program} {w : World} {s : Shared} {it ma f : Addr} {x : Value} {te : Tok} {of : Obj} {fd : FuncData} {Q : Option Value → Shared → Prop} {E : Value → Shared → Prop} (hh : A.handled = none)
    (ho : s.heap.get? it = some (citObj ma te)) (hm : s.heap.get? ma = some (methodObj (.ref f) x)) (hf : s.heap.get? f = some of) (hfd : of.data = .func fd)
    (hc : codeAny (model prog w) A.in1 (.call (.ref f) ⟨[x], []⟩) (fun r s1 => ∃ y t ma' te' x', r = .ok (.ret (.str y t)) ∧ s1.heap.get? it = some (citObj ma' te') ∧ s1.heap.get? ma' = some (methodObj (.ref f) x') ∧ s1.heap.get? f = some of ∧
      ((y ≠ "" ∧ Q (some (.str y t)) s1) ∨ (y = "" ∧ ∀ h' tk, h'.get? it = some citEnd → Heap.ExtBut it s1.heap h' → Q none { s1 with heap := h', toks := tk }))) s) :
    wpAny (model prog w) A (pyNext (.ref it)) Q E s := by
  have hT : s.TypeIs (.ref it) "callable_iterator" := ⟨_, ho, rfl⟩
  unfold pyNext
  refine wpAny_bind (wpAny_attempt (wpAny_callSpecial?_slot (name := Str.ofString "__next__") hT slot_cit_next (wpAny_mono (Q := fun v s' => Q (some v) s') (E := fun e s' => wpAny (model prog w) A (isInstance e (.type "StopIteration")) (fun b s'' => b = true ∧ Q none s'') E s')
    (wpAny_call_entry slot_cit_next hT entry_cit_next ?_ (args_cit_next _)) (fun v s' q => wpAny_pure q) fun e s' q => wpAny_bind (wpAny_mono q (fun b s'' ⟨hb, z⟩ => by subst hb; exact wpAny_pure z) fun _ _ z => z))))
  unfold Builtin.«callable_iterator.__next__»
  have hs : slotArgs "__next__" 0 ⟨[.ref it], []⟩ = pure (.ref it, []) := rfl
  rw [hs]
  refine wpAny_bind (wpAny_pure ?_)
  dsimp only
  refine wpAny_bind (wpAny_field ho rfl (x := .bool false) rfl ?_)
  rw [if_neg (by decide)]
  refine wpAny_bind (wpAny_field ho rfl (x := .ref ma) rfl ?_)
  refine wpAny_bind (wpAny_attempt ?_)
  unfold callOutOfASlot
  refine wpAny_bind ((isFun_borrow hm hf hfd).at ?_)
  rw [if_pos rfl]
  refine wpAny_callBorrowed (method_call hm (codeAny_mono hc fun r s1 z => ?_))
  obtain ⟨y, t, ma', te', x', rfl, ho1, hm1, hf1, hd⟩ := z
  dsimp only
  refine wpAny_bind (wpAny_field ho1 rfl (x := .bool false) rfl ?_)
  rw [if_neg (by decide)]
  refine wpAny_bind (wpAny_field ho1 rfl (x := .str "" te') rfl ?_)
  refine wpAny_bind (wpAny_holding (wpAny_eqBool_str ?_))
  rcases hd with ⟨hy, q⟩ | ⟨rfl, q⟩
  · rw [if_pos (by simpa using fun z => hy (z.symm))]
    exact wpAny_pure ⟨_, rfl, q⟩
  · rw [if_neg (by simp)]
    refine wpAny_bind (wpAny_rule (wpAny_bind ?_))
    show wpAny _ _ (field (.ref it) 0 >>= _) _ _ _
    refine wpAny_bind (wpAny_field ho1 rfl (x := .ref ma') rfl ?_)
    show wpAny _ _ (slotLetsGo _ (.ref ma') _ >>= _) _ _ _
    refine wpAny_bind ?_
    unfold slotLetsGo
    refine wpAny_bind ((isFun_borrow hm1 hf1 hfd).at ?_)
    rw [if_pos rfl]
    refine wpAny_pure ?_
    refine wpAny_bind (wpAny_setField_rec ho1 (by simp) fun h1 e1 b1 => ?_)
    refine wpAny_bind (wpAny_setField_rec e1 (by simp) fun h2 e2 b2 => ?_)
    refine wpAny_setField_rec e2 (by simp) fun h3 e3 b3 => ?_
    refine stop_told (A := A) hh fun h4 tk k4 => q h4 tk (k4 _ _ e3) fun b ob hb e => k4 _ _ ?_
    exact ((b3.2 b hb).trans ((b2.2 b hb).trans (b1.2 b hb))).trans e

theorem cnext_dead {prog : Program} {w : World} {s : Shared} {it : Addr} {Q : Option Value → Shared → Prop} {E : Value → Shared → Prop} (hh : A.handled = none)
    (ho : s.heap.get? it = some citEnd) (hQ : ∀ h' tk, (∀ b ob, s.heap.get? b = some ob → h'.get? b = some ob) → Q none { s with heap := h', toks := tk }) :
    wpAny (model prog w) A (pyNext (.ref it)) Q E s := by
  have hT : s.TypeIs (.ref it) "callable_iterator" := ⟨_, ho, rfl⟩
  unfold pyNext
  refine wpAny_bind (wpAny_attempt (wpAny_callSpecial?_slot (name := Str.ofString "__next__") hT slot_cit_next (wpAny_mono (Q := fun v s' => Q (some v) s') (E := fun e s' => wpAny (model prog w) A (isInstance e (.type "StopIteration")) (fun b s'' => b = true ∧ Q none s'') E s')
    (wpAny_call_entry slot_cit_next hT entry_cit_next ?_ (args_cit_next _)) (fun v s' q => wpAny_pure q) fun e s' q => wpAny_bind (wpAny_mono q (fun b s'' ⟨hb, z⟩ => by subst hb; exact wpAny_pure z) fun _ _ z => z))))
  unfold Builtin.«callable_iterator.__next__»
  have hs : slotArgs "__next__" 0 ⟨[.ref it], []⟩ = pure (.ref it, []) := rfl
  rw [hs]
  refine wpAny_bind (wpAny_pure ?_)
  dsimp only
  refine wpAny_bind (wpAny_field ho rfl (x := .bool true) rfl ?_)
  rw [if_pos (by decide)]
  exact wpAny_bind (wpAny_rule (wpAny_bind (stop_told (A := A) hh hQ)))
theorem args_iter2 (a b : Value) : argsOk "iter" ⟨[a, b], []⟩ := by unfold argsOk; kernel_rfl
theorem meth_call_slot : typeLookup (.type "method") "__call__" = pure (some (.builtin "method.__call__")) := by rw [typeLookup_type, builtinLookup_eq_fast]; kernel_rfl
theorem call_iter2 {prog : Program} {w : World} {s : Shared} {ma : Addr} {f x : Value} {te : Tok} {Q : Value → Shared → Prop} {E : Value → Shared → Prop} (hm : s.heap.get? ma = some (methodObj f x))
    (h : Q (.ref s.heap.objs.size) { s with heap := s.heap.push (citObj ma te) }) : wpAny (model prog w) A (call (.builtin "iter") [.ref ma, .str "" te]) Q E s := by
  have hT : s.TypeIs (.ref ma) "method" := ⟨_, hm, rfl⟩
  refine PySem.Calls.call_function_entry (by decide +kernel) (by decide +kernel) kdk_entry_iter (args_iter2 _ _) ?_
  unfold Builtin.«iter»
  refine wpAny_bind (m := someArgs "iter" 1 2 _) (wpAny_of_eq (a := [Value.ref ma, .str "" te]) (by first | rfl | kernel_rfl!) ?_)
  dsimp only
  refine wpAny_bind (wpAny_specialOf hT meth_call_slot ?_)
  refine wpAny_bind (wpAny_rule (wpAny_bind (wpAny_newObj_type ?_ (by size_fits))))
  exact wpAny_pure ⟨_, rfl, h⟩

theorem cit_iter_slot : typeLookup (.type "callable_iterator") "__iter__" = pure (some (.builtin "callable_iterator.__iter__")) := by rw [typeLookup_type, builtinLookup_eq_fast]; kernel_rfl
theorem slot_cit_iter' : Slot "callable_iterator" "__iter__" "callable_iterator.__iter__" := .of (owner := "callable_iterator") (n := "__iter__") cit_iter_slot (by decide +kernel) (by decide +kernel) (by decide +kernel)
  (by first | exact .inl (by decide +kernel) | exact .inr (by decide +kernel)) (by rw [isSubtype_type]; kernel_rfl)
end Mine
namespace Mine
open Builtin
theorem cit_entry_iter : entryFor table "callable_iterator.__iter__" = some Builtin.«dict_keyiterator.__iter__» := entryFor_alias (id' := "dict_keyiterator.__iter__") (by kernel_rfl) (by decide +kernel) (by decide +kernel) (by kernel_rfl)
theorem cit_args_iter (a : Value) : argsOk "callable_iterator.__iter__" ⟨[a], []⟩ := by unfold argsOk; kernel_rfl
theorem cit_pyIter {prog : Program} {w : World} {A : Around} {s : Shared} {it : Addr} {Q : Value → Shared → Prop} {E : Value → Shared → Prop} (hT : s.TypeIs (.ref it) "callable_iterator") (h : Q (.ref it) s) : wpAny (model prog w) A (pyIter (.ref it)) Q E s := by
  refine wpAny_pyIter_slot hT slot_cit_iter' (wpAny_call_entry slot_cit_iter' hT cit_entry_iter ?_ (cit_args_iter _))
  show wpAny _ _ (ret (.ref it)) _ _ s
  exact wpAny_pure ⟨_, rfl, "callable_iterator", _, hT, slot_cit_next.lookup, h⟩

theorem get_meth {prog : Program} {w : World} {A : Around} {s : Shared} {K : Frag} {x c fA : Addr} {ox : Obj} {o : Obj} {name : Str} {ex : Bool} {Q : Value → Shared → Prop} {E : Value → Shared → Prop} (X : K.In s.heap) (I : InstAt s.heap x ox c (some o))
    (hga : findIn K (.ref c) "__getattribute__" = some (some (.builtin "object.__getattribute__"))) (hk : findIn K (.ref c) "__getattr__" = some none) (hf : findIn K (.ref c) name = some (some (.ref fA))) (ht : typeIn K (.ref fA) = some (.type "function"))
    (hsp : specialIn K (.ref fA) "__get__" = some (some (.builtin "function.__get__"))) (htk : takesIn K (.ref fA) = some false) (hcd : ∃ cd, clsIn K c = some cd ∧ cd.hasDict = true) (hno : lookIn name o = some none) (hcp : copiedNames.contains name = false)
    (h : Q (.ref s.heap.objs.size) { s with heap := s.heap.push (methodObj (.ref fA) (.ref x)), toks := s.toks + 1 }) : wpAny (model prog w) A (getAttr (.ref x) name ex) Q E s := by
  obtain ⟨cd, hcd, hdd⟩ := hcd
  have hfo : findObj K c (some o) name = some (.bind (.builtin "function.__get__") (.ref fA)) := by
    unfold findObj
    simp only [hcd, hf, Option.bind_some, hsp, htk]
    have : W.ownOf cd (some o) name = some none := by unfold W.ownOf; simp [hdd, hno]
    rw [this]
    simp only [Option.bind_some, hcp, Bool.false_and, Bool.false_eq_true, if_false]
  refine get_bind X I hga hfo hk (wpAny_call (fn_get X ht ?_))
  exact wpAny_pure h
end Mine

namespace Mine
variable {C : Cx} {d : Nat} {env : Env}

noncomputable def dIter (c f : Addr) (name : Str) (g : D) : D := fun me mh => match g me mh with
  | some (.ref i, mh1) => (match mh1[i]? with
    | some (.inst c' dd _) => if c' = c then (match mh1[dd]? with
      | some (.attrs l) => (match l.lookup name with
        | none => some (.ref mh1.length, mh1 ++ [.citer f (some i)])
        | some _ => none)
      | _ => none) else none
    | _ => none)
  | _ => none

structure MethVal (K : Frag) (c fA : Addr) (name : Str) : Prop where
  ga : findIn K (.ref c) "__getattribute__" = some (some (.builtin "object.__getattribute__"))
  gt : findIn K (.ref c) "__getattr__" = some none
  f : findIn K (.ref c) name = some (some (.ref fA))
  t : typeIn K (.ref fA) = some (.type "function")
  g : specialIn K (.ref fA) "__get__" = some (some (.builtin "function.__get__"))
  k : takesIn K (.ref fA) = some false
  d : ∃ cd, clsIn K c = some cd ∧ cd.hasDict = true
  cp : copiedNames.contains name = false

set_option tactic.hygienic true in
theorem RE_iter (ok : C.Ok) {o : PySem.Expr} {name : Str} {p apos p2 pos : Pos} {k0 : Nat} {c fA : Addr} {g : D} (hg : C.mg "iter" = none) (hb : C.mb "iter" = some (.builtin "iter")) (hx : env.kindOf "iter" = some .globalImplicit)
    (MV' : MethVal C.K c fA name) (ho : RE C d env o g)
    (he : eval (.Attribute o name apos) env = (do
      let o' ← eval o env
      standAt apos.atName
      let r ← holding [o'] (getAttr o' name true)
      letTemporaryGo o o' r
      pure r) := by with_unfolding_all rfl)
    (hs1 : starEach [.Attribute o name apos, .Constant (.str "") k0 p2] env = (false, eval (.Attribute o name apos) env) :: starEach [.Constant (.str "") k0 p2] env := by rfl)
    (hs2 : starEach [.Constant (.str "") k0 p2] env = (false, eval (.Constant (.str "") k0 p2) env) :: starEach [] env := by rfl)
    (hplain : (backTo pos (starEach [.Constant (.str "") k0 p2] env)).any (·.1) = false := by rfl) :
    RE C d env (.Call (.Name "iter" p) [.Attribute o name apos, .Constant (.str "") k0 p2] [] pos) (dIter c fA name g) := by
  intro me mh mv mh' h ρ A s Q E ao I so F hQ
  unfold dIter at h
  split at h
  · rename_i i mh1 h1
    split at h
    · rename_i c' dd it hi
      split at h
      · rename_i hc
        subst hc
        split at h
        · rename_i l hl
          split at h
          · rename_i hno
            cases h
            refine wpAny_Call_NameR (eval_bui ok hg hb hx (by decide) I F ?_)
            refine PyProof.Rows.callWith_builtin1 ?_ hs1 hplain
            refine args_cons ?_ hs1
            refine Attribute_any_ (ho h1 ao I so F fun rv ρ1 s1 x1 I1 so1 v1 => ?_) he
            obtain ⟨x, hx', rfl⟩ := v1.ref_
            obtain ⟨ox, od, IA, ns⟩ := inst_at I1 hi hl hx'
            have q := ns.look name
            rw [hno] at q
            simp only at q
            refine get_meth (I1.k ok) IA MV'.ga MV'.gt MV'.f MV'.t MV'.g MV'.k MV'.d q MV'.cp ?_
            refine args_cons (Calls.Constant_str (args_nil ?_)) hs2
            refine call_iter2 (f := .ref fA) (x := .ref x) (Heap.get?_push_size _ rfl) ?_
            have J1 := I1.pushF (o := methodObj (.ref fA) (.ref x)) rfl
            have X1 := x1.trans (Ext.pushF ρ1 s1.heap (methodObj (.ref fA) (.ref x)))
            have J2 := J1.push (mo := .citer fA (some i)) (o := citObj s1.heap.objs.size (s1.toks + 1)) ⟨x, s1.heap.objs.size, s1.toks + 1, hx', .head _, rfl⟩
            refine hQ _ _ _ (X1.trans (Ext.push _ _ _)) J2 (so1.heap _ _) (.ref' ?_)
            rw [← J1.len]
            simp
          · cases h
        · cases h
      · cases h
    · cases h
  · cases h

noncomputable def dCNext (f : Addr) (den : DF) (ci : Nat) (mh : MH) : Option (Option MV × MH) := match mh[ci]? with
  | some (.citer f' (some i)) => if f' = f then (match den [.ref i] mh with
    | some (.str y, mh1) => (match mh1[ci]? with
      | some (.citer f'' (some i')) => if f'' = f ∧ i' = i then (if y = "" then some (none, mh1.set ci (.citer f none)) else some (some (.str y), mh1)) else none
      | _ => none)
    | _ => none) else none
  | some (.citer _ none) => some (none, mh)
  | _ => none
noncomputable def dForCLoop (nx : MH → Option (Option MV × MH)) (tg : Tg) (f : DS) : Nat → DS
  | 0 => fun _ _ => none
  | n + 1 => fun me mh => match nx mh with
    | none => none
    | some (none, mh1) => some (.next, me, mh1)
    | some (some v, mh1) => (match tg me mh1 v with
      | none => none
      | some me1 => (match f me1 mh1 with
        | some (.next, me2, mh2) => dForCLoop nx tg f n me2 mh2
        | some (.cont, me2, mh2) => dForCLoop nx tg f n me2 mh2
        | some (.brk, me2, mh2) => some (.next, me2, mh2)
        | r => r))
noncomputable def dForC (f : Addr) (den : DF) (N : Nat) (it : D) (tg : Tg) (body : DS) : DS := fun me mh => match it me mh with
  | some (.ref ci, mh1) => (match mh1[ci]? with
    | some (.citer _ _) => dForCLoop (dCNext f den ci) tg body N me mh1
    | _ => none)
  | _ => none

theorem Ext.but {ρ : Wd} {h h' : Heap} {a : Addr} (ha : a ∈ ρ.ids) (hs : Heap.ExtBut a h h') (hl : ∃ o, h'.get? a = some o) : Ext C ρ [] h ρ h' :=
  ⟨.refl ρ, fun b o e hb _ _ => hs b o (fun z => hb (z ▸ ha)) e, fun _ q => .inl q, fun _ q => .inl q, fun b o e => by
    by_cases z : b = a
    · subst z; exact hl
    · exact ⟨o, hs b o z e⟩⟩

set_option tactic.hygienic true in
theorem cnext_ok (ok : C.Ok) {f : Addr} {den : DF} {ci : Nat} {mh mh1 : MH} {r : Option MV} (hf : IsDef C f) (hr : RF C d f den) (h : dCNext f den ci mh = some (r, mh1)) {ρ : Wd} {A : Around} {s : Shared} {it : Addr} {Q : Option Value → Shared → Prop} {E : Value → Shared → Prop}
    (ao : Aok (d + 1) A) (I : Inv C ρ mh s.heap) (so : SOk C s) (hi : ρ.ids[ci]? = some it)
    (hsome : ∀ mv, r = some mv → ∀ v ρ' s', Ext C ρ [] s.heap ρ' s'.heap → Inv C ρ' mh1 s'.heap → SOk C s' → VR ρ' mv v → Q (some v) s')
    (hnone : r = none → ∀ ρ' s', Ext C ρ [] s.heap ρ' s'.heap → Inv C ρ' mh1 s'.heap → SOk C s' → Q none s') : wpAny C.M A (pyNext (.ref it)) Q E s := by
  unfold dCNext at h
  split at h
  · rename_i f' i hci
    split at h
    · rename_i hff
      subst hff
      split at h
      · rename_i y mh2 hden
        obtain ⟨o, ho, x, ma, te, hx, hma, rfl⟩ := I.at hci hi
        obtain ⟨of, fd, hk, hfd⟩ := hf
        have hm := I.fz _ hma
        refine cnext_live ao.handled ho hm ((I.k ok) _ _ hk) hfd (hr hden ao.in1 I so (.cons (.ref' hx) .nil) fun v ρ1 s1 x1 I1 so1 v1 => ?_)
        obtain ⟨t, rfl⟩ := v1.str_
        split at h
        · rename_i f'' i' hci1
          split at h
          · rename_i hfi
            obtain ⟨rfl, rfl⟩ := hfi
            have hi1 := pre_get x1.pre hi
            obtain ⟨o1, ho1, x', ma', te', hx', hma', rfl⟩ := I1.at hci1 hi1
            refine ⟨y, t, ma', te', .ref x', rfl, ho1, I1.fz _ hma', (I1.k ok) _ _ hk, ?_⟩
            split at h
            · rename_i hy
              cases h
              refine .inr ⟨hy, fun h' tk e1 b1 => hnone rfl ρ1 _ ?_ (I1.set (mh_lt hci1) hi1 b1 e1 rfl) (so1.heap _ _)⟩
              exact x1.trans (Ext.but (List.mem_of_getElem? hi1) b1 ⟨_, e1⟩)
            · rename_i hy
              cases h
              exact .inl ⟨hy, hsome _ rfl _ ρ1 s1 x1 I1 so1 .str'⟩
          · cases h
        · cases h
      · cases h
    · cases h
  · rename_i hci
    cases h
    obtain ⟨o, ho, rfl⟩ := I.at hci hi
    exact cnext_dead ao.handled ho fun h' tk k => hnone rfl ρ _ (Ext.all k) (I.junk k) (so.heap _ _)
  · cases h
set_option tactic.hygienic true in
theorem RS_forC (ok : C.Ok) {fA : Addr} {den : DF} {x : Nat} {n : Str} {p : Pos} {iter : PySem.Expr} {body : List Stmt} {pos : Pos} {it : D} {f : DS} (N : Nat) (hfA : IsDef C fA) (hr : RF C d fA den)
    (hi : RE C (d + 1) env iter it) (hx : C.tbl[x]? = some n) (hk : env.kindOf n = some .local) (hb : RS C (d + 1) env (execs body env) f)
    (hs : ∀ x, foldedSetIterable iter env x = pure x) : RS C (d + 1) env (exec (.For (.Name n p) iter body [] pos) env) (dForC fA den N it (tgV x) f) := by
  intro me mh fl me' mh' hf ρ A s Q E ao I so F hQ
  unfold dForC at hf
  split at hf
  · rename_i ci mh1 hf1
    split at hf
    · rename_i fx ix hci
      refine wpAny_For (hi hf1 ao I so F fun rv ρ1 s1 x1 I1 so1 v1 => ?_) hs
      obtain ⟨c, hc, rfl⟩ := v1.ref_
      have hT : s1.TypeIs (.ref c) "callable_iterator" := by
        obtain ⟨o, ho, r⟩ := I1.at hci hc
        cases ix with
        | none => cases r; exact ⟨_, ho, rfl⟩
        | some i => obtain ⟨_, _, _, _, _, rfl⟩ := r; exact ⟨_, ho, rfl⟩
      refine cit_pyIter hT ?_
      have F1 := F.ext0 x1
      refine forLoopT (I := fun n s2 => ∃ me2 mh2 ρ2, dForCLoop (dCNext fA den ci) (tgV x) f n me2 mh2 = some (fl, me', mh') ∧ ρ2.ids[ci]? = some c ∧ Ext C ρ1 (fa env) s1.heap ρ2 s2.heap ∧ Inv C ρ2 mh2 s2.heap ∧ SOk C s2 ∧ FR C ρ2 env me2 s2.heap) ?_ N
        ⟨me, mh1, ρ1, hf, hc, Ext.refl _ _ _, I1, so1, F1⟩
      rintro n s2 ⟨me2, mh2, ρ2, hw, hc2, x2, I2, so2, F2⟩
      cases n with
      | zero => simp [dForCLoop] at hw
      | succ n =>
        unfold dForCLoop at hw
        cases hn : dCNext fA den ci mh2 with
        | none => rw [hn] at hw; simp at hw
        | some r =>
          obtain ⟨r, mh3⟩ := r
          rw [hn] at hw
          refine cnext_ok ok hfA hr hn ao I2 so2 hc2 (fun mv hr' v ρ3 s3 x3 I3 so3 hv => ?_) fun hr' ρ3 s3 x3 I3 so3 => ?_
          · subst hr'
            simp only at hw
            have F3 := F2.ext0 x3
            have x23 : Ext C ρ1 (fa env) s1.heap ρ3 s3.heap := x2.trans x3.wide
            refine wpAny_pure ?_
            cases htg : tgV x me2 mh3 mv with
            | none => rw [htg] at hw; simp at hw
            | some me3 =>
              rw [htg] at hw
              simp only at hw
              refine RTg_name ok (G := fa env) hx (.inl ⟨hk, by simp [fa]⟩) htg ao I3 so3 F3 hv fun s4 x4 I4 so4 F4 => ?_
              cases hff : f me3 mh3 with
              | none => rw [hff] at hw; simp at hw
              | some r =>
                obtain ⟨fl1, me5, mh5⟩ := r
                rw [hff] at hw
                refine hb hff ao I4 so4 F4 fun fl' ρ5 s5 x5 I5 so5 F5 r5 => ?_
                have x25 : Ext C ρ1 (fa env) s1.heap ρ5 s5.heap := x23.trans (x4.trans x5)
                have hc5 := pre_get x5.pre (pre_get x3.pre hc2)
                cases fl1 with
                | next => cases r5; exact ⟨n, Nat.lt_succ_self n, me5, mh5, ρ5, hw, hc5, x25, I5, so5, F5⟩
                | cont => cases r5; exact ⟨n, Nat.lt_succ_self n, me5, mh5, ρ5, hw, hc5, x25, I5, so5, F5⟩
                | brk => cases r5; cases hw; exact hQ _ _ _ (x1.wide.trans x25) I5 so5 F5 rfl
                | ret v => obtain ⟨w, rfl, r⟩ := r5; cases hw; exact hQ _ _ _ (x1.wide.trans x25) I5 so5 F5 ⟨_, rfl, r⟩
          · subst hr'
            simp only at hw
            cases hw
            exact wpAny_execs_nil (hQ _ _ _ (x1.wide.trans (x2.trans x3.wide)) I3 so3 (F2.ext0 x3) rfl)
    · cases hf
  · cases hf
end Mine

namespace Mine
variable {C : Cx} {d : Nat} {env : Env}

noncomputable def fLpop : DF := fun mvs mh => match mvs with
  | [.ref i, .int k] => (match mh[i]? with
    | some (.list vs) => if vs.length ≤ 100000 ∧ Builtin.List.listFitsIndex k = true then (match seqIndex? k vs.length with
      | some j => (match vs[j]? with
        | some v => some (v, mh.set i (.list (vs.eraseIdx j)))
        | none => none)
      | none => none) else none
    | _ => none)
  | _ => none
set_option tactic.hygienic true in
theorem vLpop : RV C d (.builtin "list.pop") fLpop := by
  intro mvs mh mv mh' h ρ A s vs Q E ao I so hv hQ
  unfold fLpop at h
  split at h
  · rename_i i k
    split at h
    · rename_i ms hi
      split at h
      · rename_i hl
        split at h
        · rename_i j hj
          split at h
          · rename_i v hvj
            cases h
            cases hv with
            | cons h1 h2 =>
              cases h2 with
              | cons h2 h3 =>
                cases h3
                obtain ⟨a, ea, rfl⟩ := h1.ref_
                obtain ⟨u, rfl⟩ := h2.int_
                obtain ⟨o, ho, ws, n, rfl, r⟩ := I.at hi ea
                obtain ⟨y, hy, hr⟩ := r.get hvj
                have hjl : j < ws.length := (List.getElem?_eq_some_iff.mp hy).1
                refine call_meets PySem.F.slot_list_pop ⟨_, ho, rfl⟩ PySem.F.entry_list_pop (PySem.F.args_list_pop_2 _ _)
                  (PySem.MeetsSeq.list_pop_at a ws.toArray n k u j y hl.2 (by rw [List.size_toArray, r.length]; exact hj) (by simpa using hy) (by simp [r.length]; exact Nat.le_trans hl.1 (by decide))) ⟨ho, ?_⟩
                have hm := List.mem_of_getElem? ea
                have hg : (s.heap.update a (Obj.mapSeq fun xs => xs.eraseIdxIfInBounds j)).get? a = some (Obj.mapSeq (fun xs => xs.eraseIdxIfInBounds j) (listO ws n)) := Heap.get?_update_self _ ho rfl
                obtain ⟨n', he⟩ := mapSeq_listO (fun xs => xs.eraseIdxIfInBounds j) ws n
                rw [he] at hg
                have hg' : (s.heap.update a (Obj.mapSeq fun xs => xs.eraseIdxIfInBounds j)).get? a = some (listO (ws.eraseIdx j) n') := by
                  rw [hg]
                  have : (ws.toArray.eraseIdxIfInBounds j).toList = ws.eraseIdx j := by
                    unfold Array.eraseIdxIfInBounds
                    rw [dif_pos (by simpa using hjl)]
                    simp
                  rw [this]
                exact hQ _ ρ { s with heap := s.heap.update a (Obj.mapSeq fun xs => xs.eraseIdxIfInBounds j) } (Ext.set hm (Heap.SameBut.update ..) ⟨_, hg'⟩) (I.set (mh_lt hi) ea (Heap.SameBut.update ..).extBut hg' ⟨ws.eraseIdx j, n', rfl, r.eraseIdx⟩) (so.heap _ _) hr
          · cases h
        · cases h
      · cases h
    · cases h
  · cases h
end Mine

namespace Mine
variable {C : Cx} {d : Nat} {env : Env}

theorem RF.up {d d' : Nat} {f : Addr} {den : DF} (h : RF C d f den) (hd : d ≤ d') : RF C d' f den := by
  intro mvs mh mv mh' hf ρ A s vs R ao I so hv hR
  exact h hf (ao.less hd) I so hv hR
end Mine

namespace Mine
variable {C : Cx} {d : Nat} {env : Env}

noncomputable def oNeg : Op1 := fun a mh => match a with
  | .int x => some (.int (-x), mh)
  | _ => none
theorem rNeg : RO1 C d (unaryOp .USub) oNeg := by
  intro a mh mv mh' h ρ A s Q E va ao I so hv hQ
  unfold oNeg at h
  split at h
  · cases h
    obtain ⟨t, rfl⟩ := hv.int_
    exact neg_int (hQ.same I so _ .int' _)
  · cases h
theorem RE_neg {x : PySem.Expr} {pos : Pos} {f : D} (h : RE C d env x f) : RE C d env (.UnaryOp .USub x pos) (dOp1 oNeg f) := by
  intro me mh mv mh' hf ρ A s Q E ao I so F hQ
  obtain ⟨a, mh1, h1, h2⟩ := dOp1_some hf
  show wpAny _ _ (do let v ← eval x env; standAt pos; holding [v] (unaryOp .USub v)) _ _ _
  refine wpAny_bind (h h1 ao I so F fun v ρ1 s1 x1 I1 so1 v1 => wpAny_bind (wpAny_standAt (wpAny_holding (rNeg h2 ao I1 so1 v1 fun v ρ2 s2 x2 I2 so2 v2 => hQ v ρ2 s2 (x1.trans x2) I2 so2 v2))))

end Mine

namespace Mine
variable {C : Cx} {d : Nat} {env : Env}

end Mine

namespace Mine
variable {C : Cx} {d : Nat} {env : Env}

structure SubItems (K : Frag) (c : Addr) : Prop where
  get : findIn K (.ref c) "__getitem__" = some (some (.builtin "list.__getitem__"))
  set : findIn K (.ref c) "__setitem__" = some (some (.builtin "list.__setitem__"))
  ndq : mroIn K c (.type "collections.deque") = some false

theorem subType {c : Addr} {x : Addr} {ox : Obj} {s : Shared} (hox : s.heap.get? x = some ox) (hcx : ox.cls = .ref c) : Looks C.M s.heap (typeOf (.ref x)) (.ref c) := by
  rw [← hcx]; exact (Looks.ld (part := none) hox).andThen .now
theorem sub_special {c : Addr} {x : Addr} {ox : Obj} {name : Str} {id : String} {T : String} {args : List Value} {A : Around} {s : Shared} {Q : Option Value → Shared → Prop} {E : Value → Shared → Prop} (X : C.K.In s.heap) (hox : s.heap.get? x = some ox) (hcx : ox.cls = .ref c)
    (hf : findIn C.K (.ref c) name = some (some (.builtin id))) (ht : typeOf (.builtin id) = pure (.type T)) (hT : (Value.type T == .type "function" || Value.type T == .type "method_descriptor" || Value.type T == .type "wrapper_descriptor") = true)
    (h : wpAny C.M A (call (.builtin id) (.ref x :: args)) (fun v => Q (some v)) E s) : wpAny C.M A (callSpecial? (.ref x) name args) Q E s := by
  have hS : Looks C.M s.heap (specialOf (.ref x) name) (some (.builtin id)) := (subType (C := C) hox hcx).andThen (looks_findIn X hf)
  unfold callSpecial?
  refine wpAny_bind (hS.here ?_)
  refine wpAny_holding (wpAny_bind ?_)
  unfold bindSpecial
  refine wpAny_bind ((Looks.of_pure ht).here ?_)
  rw [if_pos hT]
  exact wpAny_pure (wpAny_bind (wpAny_mono h (fun v s' h' => wpAny_pure h') fun _ _ h' => h'))
theorem sub_key {c : Addr} {x : Addr} {ox : Obj} {k : Value} {name : Str} {A : Around} {s : Shared} {Q : Value → Shared → Prop} {E : Value → Shared → Prop} (X : C.K.In s.heap) (S : SubItems C.K c) (hox : s.heap.get? x = some ox) (hcx : ox.cls = .ref c) (h : Q k s) :
    wpAny C.M A (sequenceKey (.ref x) k name) Q E s := by
  unfold sequenceKey
  refine wpAny_bind ((subType (C := C) hox hcx).here ?_)
  have e : Looks C.M s.heap (isSubtype (.ref c) (.type "collections.deque")) false := looks_mroIn X S.ndq
  show wpAny C.M A ((seqItemTypes.anyM fun n => isSubtype (.ref c) (.type n)) >>= _) Q E s
  refine wpAny_bind ?_
  show wpAny C.M A (isSubtype (.ref c) (.type "collections.deque") >>= _) _ E s
  refine wpAny_bind (e.here ?_)
  refine wpAny_pure ?_
  exact wpAny_pure h
theorem slice_parts {sl : Addr} {vl vu vs : Value} {lo hi : Option Int} {A : Around} {s : Shared} {Q : Value × Value × Value → Shared → Prop} {E : Value → Shared → Prop} (hs : s.heap.IsSliceOf sl vl vu vs) (pl : IsPart vl lo) (pu : IsPart vu hi) (ps : IsPart vs none)
    (h : Q (rawPart lo, rawPart hi, rawPart none) s) : wpAny C.M A (Builtin.List.listSliceParts (.ref sl)) Q E s := by
  obtain ⟨os, hos, hcs, hds⟩ := id hs
  rw [listSliceParts_eq]
  refine wpAny_bind (wpAny_field hos hds (x := vs) rfl (wpAny_bind (wpAny_listPart ps ?_)))
  rw [if_neg (by decide)]
  refine wpAny_bind (wpAny_field hos hds (x := vl) rfl (wpAny_bind (wpAny_listPart pl ?_)))
  exact wpAny_bind (wpAny_field hos hds (x := vu) rfl (wpAny_bind (wpAny_listPart pu (wpAny_pure h))))
theorem no_sub {sl : Addr} {vl vu vs : Value} {A : Around} {s : Shared} {Q : Option Int → Shared → Prop} {E : Value → Shared → Prop} (hs : s.heap.IsSliceOf sl vl vu vs) (h : Q none s) : wpAny C.M A (Builtin.List.listSubscript? (.ref sl)) Q E s := by
  obtain ⟨os, hos, hcs, hds⟩ := id hs
  have hTs : s.TypeIs (.ref sl) "slice" := ⟨os, hos, hcs⟩
  unfold Builtin.List.listSubscript?
  refine wpAny_bind (wpAny_specialOf hTs slice_no_index ?_)
  simp only [Option.isNone_none, if_true]
  exact wpAny_pure h
theorem sub_getSlice {c : Addr} {x sl : Addr} {ws : List Value} {n : Nat} {da : Option Addr} {vl vu vs : Value} {lo hi : Option Int} {A : Around} {s : Shared} {Q : Value → Shared → Prop} {E : Value → Shared → Prop} (X : C.K.In s.heap) (S : SubList C.K c) (SI : SubItems C.K c)
    (hox : s.heap.get? x = some { cls := .ref c, dict := da, data := .seq ws.toArray n }) (hs : s.heap.IsSliceOf sl vl vu vs) (pl : IsPart vl lo) (pu : IsPart vu hi) (ps : IsPart vs none) (hl : ws.length ≤ 100000)
    (h : Q (.ref s.heap.objs.size) { s with heap := s.heap.push { cls := .type "list", data := .seq (slicePick ws.toArray lo hi none) } }) : wpAny C.M A (getItem (.ref x) (.ref sl)) Q E s := by
  have hsz : ws.toArray.size ≤ sizeLine := by
    have : ws.toArray.size = ws.length := rfl
    rw [this]
    exact Nat.le_trans hl (by decide)
  obtain ⟨os, hos, hcs, hds⟩ := id hs
  have hTs : s.TypeIs (.ref sl) "slice" := ⟨os, hos, hcs⟩
  unfold getItem
  refine wpAny_holding (wpAny_bind (sub_key X SI hox rfl (wpAny_bind (sub_special X hox rfl SI.get (T := "method_descriptor") (by rfl) (by decide) ?_))))
  refine call_sub (n := "__getitem__") X S hox rfl (.inr (by decide +kernel)) (by decide +kernel) (by decide +kernel) entry_list_getitem (args_list_getitem _ _) ?_
  show wpAny _ _ (Builtin.List.listSubscript? (.ref sl) >>= _) _ _ s
  refine wpAny_bind (no_sub hs ?_)
  show wpAny _ _ (typeOf (.ref sl) >>= _) _ _ s
  refine wpAny_bind (wpAny_typeOf hTs ?_)
  rw [if_neg (by decide)]
  refine wpAny_bind (slice_parts hs pl pu ps ?_)
  refine wpAny_bind (m := Builtin.List.listItems (.ref x)) ?_
  unfold Builtin.List.listItems
  refine wpAny_bind (wpAny_seqItems hox rfl (wpAny_pure ?_))
  refine wpAny_bind (wpAny_of_eq (sliceIndices_raw lo hi none ws.toArray.size (by simp)) ?_)
  exact wpAny_bind (wpAny_newObj_type (wpAny_pure ⟨_, rfl, wpAny_pure h⟩) (Nat.le_trans (slicePick_size_le ws.toArray lo hi none) hsz))
theorem bounds_from (k n : Nat) : sliceBounds (some (k : Int)) none none n = (((min k n : Nat) : Int), (n : Int), 1) := by
  have h : ¬ ((k : Int) < 0) := Int.not_lt.mpr (Int.natCast_nonneg k)
  unfold sliceBounds
  simp only [Option.getD_none, show (1 : Int) > 0 by decide, if_true, h, if_false]
  have : max (0 : Int) (min (k : Int) n) = ((min k n : Nat) : Int) := by omega
  rw [this]
theorem cut_arr (ws : List Value) (k : Nat) : ws.toArray.extract 0 ((min k ws.length : Nat) : Int).toNat ++ (#[] : Array Value) ++ ws.toArray.extract (max ((min k ws.length : Nat) : Int) (ws.length : Int)).toNat ws.toArray.size = (ws.take k).toArray := by
  have h1 : (max ((min k ws.length : Nat) : Int) (ws.length : Int)).toNat = ws.length := by lia
  have h2 : ((min k ws.length : Nat) : Int).toNat = min k ws.length := Int.toNat_natCast _
  rw [h1, h2]
  apply Array.ext'
  simp
theorem sub_cutSlice {c : Addr} {x sl b : Addr} {ws : List Value} {n nb : Nat} {da : Option Addr} {vl vu vs : Value} {k : Nat} {A : Around} {s : Shared} {Q : Unit → Shared → Prop} {E : Value → Shared → Prop} (X : C.K.In s.heap) (S : SubList C.K c) (SI : SubItems C.K c)
    (hox : s.heap.get? x = some { cls := .ref c, dict := da, data := .seq ws.toArray n }) (hb : s.heap.get? b = some (listO [] nb)) (hne : x ≠ b) (hs : s.heap.IsSliceOf sl vl vu vs) (pl : IsPart vl (some (k : Int))) (pu : IsPart vu none) (ps : IsPart vs none) (hl : ws.length ≤ 100000)
    (h : ∀ h' n', h'.get? x = some { cls := .ref c, dict := da, data := .seq (ws.take k).toArray n' } → Heap.SameBut x s.heap h' → Q () { s with heap := h' }) : wpAny C.M A (setItem (.ref x) (.ref sl) (.ref b)) Q E s := by
  obtain ⟨os, hos, hcs, hds⟩ := id hs
  have hTs : s.TypeIs (.ref sl) "slice" := ⟨os, hos, hcs⟩
  have hTb : s.TypeIs (.ref b) "list" := ⟨_, hb, rfl⟩
  unfold setItem
  refine wpAny_holding (wpAny_bind (sub_key X SI hox rfl (wpAny_bind (sub_special X hox rfl SI.set (T := "wrapper_descriptor") (by rfl) (by decide) ?_))))
  refine call_sub (n := "__setitem__") X S hox rfl (.inl (by decide +kernel)) (by decide +kernel) (by decide +kernel) entry_list_setitem (args_list_setitem _ _ _) ?_
  show wpAny _ _ (Builtin.List.listSubscript? (.ref sl) >>= _) _ _ s
  refine wpAny_bind (no_sub hs ?_)
  show wpAny _ _ (typeOf (.ref sl) >>= _) _ _ s
  refine wpAny_bind (wpAny_typeOf hTs ?_)
  rw [if_neg (by decide)]
  refine wpAny_bind (slice_parts hs pl pu ps ?_)
  show wpAny C.M A.in1 (if Builtin.List.listSameRef (.ref x) (.ref b) = true then _ else _) _ _ s
  rw [if_neg (by simp [Builtin.List.listSameRef, hne])]
  refine wpAny_bind ?_
  unfold Builtin.List.listAllItems
  refine wpAny_bind (wpAny_typeOf hTb ?_)
  rw [if_pos (by decide)]
  unfold Builtin.List.listItems
  refine wpAny_bind (wpAny_seqItems hb rfl (wpAny_pure ?_))
  refine wpAny_bind (m := Builtin.List.listItems (.ref x)) ?_
  unfold Builtin.List.listItems
  refine wpAny_bind (wpAny_seqItems hox rfl (wpAny_pure ?_))
  refine wpAny_bind (wpAny_of_eq (sliceIndices_raw (some (k : Int)) none none ws.toArray.size (by simp)) ?_)
  rw [show ws.toArray.size = ws.length from rfl, bounds_from]
  refine wpAny_bind (wpAny_rule ?_)
  have hbig : ¬ (Builtin.List.listTooLong (ws.length + (#[] : Array Value).size) = true) := by
    have : ws.length + (#[] : Array Value).size = ws.length := rfl
    rw [this]
    have h2 : ws.length ≤ sizeLine := Nat.le_trans hl (by decide)
    simp only [Builtin.List.listTooLong, decide_eq_true_eq]
    exact Nat.not_lt.mpr h2
  show wpAny C.M A.in1 (if Builtin.List.listTooLong (ws.length + (#[] : Array Value).size) = true then _ else _) _ _ s
  rw [if_neg hbig]
  refine wpAny_bind ?_
  have hf := cut_arr ws k
  show wpAny _ _ (updateSeq x fun xs => xs.extract 0 ((min k ws.length : Nat) : Int).toNat ++ (#[] : Array Value) ++ xs.extract (max ((min k ws.length : Nat) : Int) (ws.length : Int)).toNat xs.size) _ _ _
  have hg : (s.heap.update x (Obj.mapSeq fun xs => xs.extract 0 ((min k ws.length : Nat) : Int).toNat ++ (#[] : Array Value) ++ xs.extract (max ((min k ws.length : Nat) : Int) (ws.length : Int)).toNat xs.size)).get? x = some (Obj.mapSeq (fun xs => xs.extract 0 ((min k ws.length : Nat) : Int).toNat ++ (#[] : Array Value) ++ xs.extract (max ((min k ws.length : Nat) : Int) (ws.length : Int)).toNat xs.size) { cls := .ref c, dict := da, data := .seq ws.toArray n }) := Heap.get?_update_self _ hox rfl
  simp only [Obj.mapSeq, hf] at hg
  refine wpAny_updateSeq hox rfl ?_ (Nat.le_trans hl (by decide)) ?_
  · refine wpAny_bind (wpAny_letGo (wpAny_pure ⟨_, rfl, wpAny_pure (h _ _ hg (Heap.SameBut.update ..))⟩))
  · rw [hf]
    have h2 : (ws.take k).toArray.size ≤ ws.length := by simp; exact Nat.min_le_right _ _
    exact Nat.le_trans h2 (Nat.le_trans hl (by decide))
noncomputable def dSliceI (c : Addr) (fo : D) (lo hi : Option D) : D := fun me mh => match fo me mh with
  | some (.ref i, mh1) => (match dPart lo me mh1 with
    | some (l, mh2) => (match dPart hi me mh2 with
      | some (u, mh3) => (match mh3[i]? with
        | some (.inst c' _ (some vs)) => if c' = c ∧ vs.length ≤ 100000 then some (.lst (pickL vs l u), mh3) else none
        | _ => none)
      | none => none)
    | none => none)
  | _ => none
set_option tactic.hygienic true in
theorem RE_sliceI (ok : C.Ok) {c : Addr} (S : SubList C.K c) (SI : SubItems C.K c) {value : PySem.Expr} {lower upper : Option PySem.Expr} {p pos : Pos} {fo : D} {lo hi : Option D} (ho : RE C d env value fo) (hl : RP C d env lower lo) (hu : RP C d env upper hi)
    (ht : ∀ o r, letTemporaryGo value o r = pure () := by intro _ _; rfl) : RE C d env (.Subscript value (.Slice lower upper none p) pos) (dSliceI c fo lo hi) := by
  intro me mh mv mh' h ρ A s Q E ao I so F hQ
  unfold dSliceI at h
  split at h
  · rename_i i mh1 h1
    split at h
    · rename_i l mh2 h2
      split at h
      · rename_i u mh3 h3
        split at h
        · rename_i c' dd vs hi
          split at h
          · rename_i hc
            obtain ⟨rfl, hlen⟩ := hc
            cases h
            rw [eval_Subscript]
            refine wpAny_bind (ho h1 ao I so F fun vo ρ1 s1 x1 I1 so1 v1 => ?_)
            refine wpAny_bind (wpAny_holding (wpAny_Slice (part_ok hl h2 ao I1 so1 (F.ext0 x1) fun vl ρ2 s2 ll x2 I2 so2 _ _ pl => part_ok hu h3 ao I2 so2 (F.ext0 (x1.trans x2)) fun vu ρ3 s3 lu x3 I3 so3 _ _ pu => ?_)))
            rw [evalPart_none]
            refine wpAny_pure ?_
            refine wpAny_bind (wpAny_standAt ?_)
            obtain ⟨a, ha, rfl⟩ := (v1.mono (x2.trans x3).pre).ref_
            have kp : ∀ b o', s3.heap.get? b = some o' → (s3.heap.push { cls := .type "slice", data := .fields #[vl, vu, .none] }).get? b = some o' := fun b o' e => Heap.get?_push_of_some _ e
            have I4 := I3.junk kp
            obtain ⟨o, ea, da, ws, n, hda, rfl, r⟩ := I4.at hi ha
            have X4 : C.K.In (s3.heap.push { cls := .type "slice", data := .fields #[vl, vu, .none] }) := I4.k ok
            have fin : wpAny C.M A (operate [.ref s3.heap.objs.size, .ref a] (getItem (.ref a) (.ref s3.heap.objs.size))) (fun r s₃ => wpAny C.M A (letTemporaryGo value (.ref a) r >>= fun _ => pure r) Q E s₃) E { s3 with heap := s3.heap.push { cls := .type "slice", data := .fields #[vl, vu, .none] } } := by
              refine wpAny_operating (sub_getSlice X4 S SI ea (Heap.IsSliceOf.new ..) pl pu .none (by rw [r.length]; exact hlen) ?_)
              refine wpAny_bind (wpAny_of_eq (ht _ _) (wpAny_pure ?_))
              have e : slicePick ws.toArray l u none = ((sliceRange (sliceBounds l u none vs.length).1 (sliceBounds l u none vs.length).2.1 (sliceBounds l u none vs.length).2.2).filterMap (ws[·]?)).toArray := by
                unfold slicePick
                simp [r.length]
              rw [e]
              exact Post.lst (Q := Q) (fun v ρ' s' x => hQ v ρ' s' ((x1.trans (x2.trans x3)).trans ((Ext.all kp).trans x))) I4 (so3.heap _ _) (r.pick _) s3.toks
            have hS : Looks C.M (s3.heap.push { cls := .type "slice", data := .fields #[vl, vu, .none] }) (specialOf (.ref a) "__getitem__") (some (.builtin "list.__getitem__")) := (subType (C := C) (s := { s3 with heap := s3.heap.push { cls := .type "slice", data := .fields #[vl, vu, .none] } }) ea rfl).andThen (looks_findIn X4 SI.get)
            refine wpAny_bind ?_
            unfold getitemInPython
            refine wpAny_bind (hS.here ?_)
            exact wpAny_pure (wpAny_bind fin)
          · cases h
        · cases h
      · cases h
    · cases h
  · cases h
theorem VRs.takeN {ρ : Wd} {ms : List MV} {ws : List Value} (r : VRs ρ ms ws) : ∀ k : Nat, VRs ρ (ms.take k) (ws.take k) := by
  induction r with
  | nil => intro k; rw [List.take_nil, List.take_nil]; exact .nil
  | cons h _ ih =>
    intro k
    cases k with
    | zero => exact .nil
    | succ k => exact .cons h (ih k)
noncomputable def dAsgSliceI (c : Addr) (fv fo fl : D) : DS := fun me mh => match fv me mh with
  | some (.lst [], mh1) => (match fo me mh1 with
    | some (.ref i, mh2) => (match fl me mh2 with
      | some (.int (.ofNat k), mh3) => (match mh3[i]? with
        | some (.inst c' dd (some vs)) => if c' = c ∧ vs.length ≤ 100000 then some (.next, me, mh3.set i (.inst c dd (some (vs.take k)))) else none
        | _ => none)
      | _ => none)
    | _ => none)
  | _ => none
set_option tactic.hygienic true in
theorem RS_asgSliceI (ok : C.Ok) {c : Addr} (S : SubList C.K c) (SI : SubItems C.K c) {o lower value : PySem.Expr} {p pos' pos : Pos} {fv fo fl : D} (hv : RE C d env value fv) (ho : RE C d env o fo) (hl : RE C d env lower fl)
    (hs : swapsWith value (some (.Subscript o (.Slice (some lower) none none p) pos')) pos.line env = pure false := by rfl) : RS C d env (exec (.Assign [.Subscript o (.Slice (some lower) none none p) pos'] value pos) env) (dAsgSliceI c fv fo fl) := by
  intro me mh flw me' mh' h ρ A s Q E ao I so F hQ
  unfold dAsgSliceI at h
  split at h
  · rename_i mh1 h1
    split at h
    · rename_i i mh2 h2
      split at h
      · rename_i k mh3 h3
        split at h
        · rename_i c' dd vs hi
          split at h
          · rename_i hc
            obtain ⟨rfl, hlen⟩ := hc
            cases h
            refine wpAny_Assign_Subscript (hv h1 ao I so F fun v ρ1 s1 x1 I1 so1 v1 => ho h2 ao I1 so1 (F.ext0 x1) fun vo ρ2 s2 x2 I2 so2 v2 => ?_) hs
            refine wpAny_Slice ?_
            rw [evalPart_some]
            refine hl h3 ao I2 so2 (F.ext0 (x1.trans x2)) fun vl ρ3 s3 x3 I3 so3 v3 => ?_
            rw [evalPart_none]
            refine wpAny_pure (wpAny_pure ?_)
            obtain ⟨tl, rfl⟩ := v3.int_
            obtain ⟨a, ha, rfl⟩ := (v2.mono x3.pre).ref_
            obtain ⟨b, wb, nb, eb, rfl, rb⟩ := (v1.mono (x2.trans x3).pre).lst_
            cases rb
            have kp : ∀ b o', s3.heap.get? b = some o' → (s3.heap.push { cls := .type "slice", data := .fields #[.int (Int.ofNat k) tl, .none, .none] }).get? b = some o' := fun b o' e => Heap.get?_push_of_some _ e
            have I4 := I3.junk kp
            obtain ⟨ob, ea, da, ws, n, hda, rfl, r⟩ := I4.at hi ha
            have hm := List.mem_of_getElem? ha
            have X4 : C.K.In (s3.heap.push { cls := .type "slice", data := .fields #[.int (Int.ofNat k) tl, .none, .none] }) := I4.k ok
            have hne : a ≠ b := fun e => I4.sep _ eb (e ▸ hm)
            refine sub_cutSlice X4 S SI ea (I4.fz _ eb) hne (Heap.IsSliceOf.new ..) (IsPart.int _ _) .none .none (by rw [r.length]; exact hlen) fun h' n' hg hb => ?_
            have xx : Ext C ρ [] s.heap ρ3 h' := (x1.trans (x2.trans x3)).trans ((Ext.all kp).trans (Ext.set hm hb ⟨_, hg⟩))
            exact hQ _ ρ3 { s3 with heap := h' } xx.wide (I4.set (mh_lt hi) ha hb.extBut hg ⟨da, _, n', hda, rfl, r.takeN k⟩) (so3.heap _ _) (F.ext0 xx) rfl
          · cases h
        · cases h
      · cases h
    · cases h
  · cases h
end Mine

namespace Mine
variable {C : Cx} {d : Nat} {env : Env}

noncomputable def isI : MV → Bool
  | .int _ => true
  | _ => false
noncomputable def toI : MV → Int
  | .int x => x
  | _ => 0
theorem isI_some {v : MV} (h : isI v = true) : v = .int (toI v) := by cases v <;> first | rfl | cases h
theorem preSum_ints (vs : List MV) : ∀ n, n ≤ vs.length → preSum (fun j => match vs[j]? with | some v => toI v | none => 0) n = ((vs.take n).map toI).sum
  | 0, _ => by simp [preSum]
  | n + 1, h => by
    have hn : n < vs.length := h
    unfold preSum
    rw [preSum_ints vs n (Nat.le_of_lt hn), List.getElem?_eq_getElem hn, List.take_succ_eq_append_getElem hn, List.map_append, List.sum_append]
    simp
theorem sum_list {ρ : Wd} {mh : MH} {A : Around} {s : Shared} {Q : Value → Shared → Prop} {E : Value → Shared → Prop} {a : Addr} {vs : List MV} {ws : List Value} (ao : Aok d A) (I : Inv C ρ mh s.heap) (so : SOk C s) (hl : s.heap.IsList a ws.toArray) (r : VRs ρ vs ws) (hv : vs.all isI = true)
    (hQ : ∀ v ρ' s', Ext C ρ [] s.heap ρ' s'.heap → Inv C ρ' mh s'.heap → SOk C s' → VR ρ' (.int ((vs.map toI).sum)) v → Q v s') : wpAny C.M A (call (.builtin "sum") [.ref a]) Q E s := by
  refine call_sum_walkAnyS (wpAny_pyIter_list hl ?_)
  have L0 : s.heap.get? s.heap.objs.size = none := get_size _
  have hne : a ≠ s.heap.objs.size := fun e => by
    obtain ⟨o, ho, _⟩ := hl
    rw [e, L0] at ho; cases ho
  have kp : ∀ b o', s.heap.get? b = some o' → (s.heap.push { cls := .type "list_iterator", data := .fields #[.ref a, .int 0 0] }).get? b = some o' := fun b o' e => Heap.get?_push_of_some _ e
  have hll : ws.toArray.size = vs.length := r.length
  refine ⟨_, [s.heap.objs.size, a], [s.heap.objs.size], fun a b => b = a, ws.toArray.size, _, _, fun j => match vs[j]? with | some v => toI v | none => 0, rfl, (Walks.list (show A.in1.handled = none from ao.handled) s.heap.objs.size a hne ws.toArray).toS, ?_, ?_, ?_, ?_⟩
  · exact ⟨⟨_, Heap.get?_push_size _ rfl, rfl, rfl⟩, hl.at fun o e => kp _ _ e⟩
  · intro b hb
    have hsz : (s.heap.push { cls := .type "list_iterator", data := .fields #[.ref a, .int 0 0] }).objs.size = s.heap.objs.size + 1 := Heap.size_push ..
    show b < (s.heap.push _).objs.size
    rw [hsz]
    rcases List.mem_cons.mp hb with rfl | hb
    · exact Nat.lt_succ_self _
    · rw [List.mem_singleton.mp hb]
      obtain ⟨o, ho, _⟩ := hl
      exact Nat.lt_succ_of_lt (Heap.lt_size ho)
  · intro i v hi
    have hi' : ws[i]? = some v := by simpa using hi
    have hlt : i < vs.length := by
      have := (List.getElem?_eq_some_iff.mp hi').1
      rw [← r.length]; exact this
    have hx : vs[i]? = some vs[i] := List.getElem?_eq_getElem hlt
    have hint := isI_some (List.all_eq_true.mp hv _ (List.getElem_mem hlt))
    obtain ⟨rv, e1, e2⟩ := r.get hx
    rw [hi'] at e1
    cases e1
    rw [hint] at e2
    obtain ⟨t, rfl⟩ := e2.int_
    exact ⟨t, by simp only [hx]⟩
  · intro s' t' hm
    have kk : ∀ b o, s.heap.get? b = some o → s'.heap.get? b = some o := fun b o e => hm.heap b o (fun hb => by
      rw [List.mem_singleton.mp hb, L0] at e; cases e) (kp b o e)
    rw [hll, preSum_ints vs _ (Nat.le_refl _), List.take_length]
    exact hQ _ ρ s' (Ext.all kk) (I.junk kk) ⟨hm.os.trans so.os, by rw [show s'.gens = s.gens from hm.gens]; exact so.gens⟩ .int'
noncomputable def fSum : DF := fun mvs mh => match mvs with
  | [.lst vs] => if vs.all isI = true then some (.int ((vs.map toI).sum), mh) else none
  | [.ref i] => (match mh[i]? with
    | some (.list vs) => if vs.all isI = true then some (.int ((vs.map toI).sum), mh) else none
    | _ => none)
  | _ => none
set_option tactic.hygienic true in
theorem vSum : RV C d (.builtin "sum") fSum := by
  intro mvs mh mv mh' h ρ A s vs Q E ao I so hv hQ
  unfold fSum at h
  split at h
  · rename_i ms
    split at h
    · rename_i hi
      cases h
      cases hv with
      | cons h1 h2 =>
        cases h2
        obtain ⟨a, ws, n, ea, rfl, r⟩ := h1.lst_
        exact sum_list ao I so (isList_of (I.fz _ ea)) r hi hQ
    · cases h
  · rename_i i
    split at h
    · rename_i ms hm
      split at h
      · rename_i hi
        cases h
        cases hv with
        | cons h1 h2 =>
          cases h2
          obtain ⟨a, ea, rfl⟩ := h1.ref_
          obtain ⟨o, ho, ws, n, rfl, r⟩ := I.at hm ea
          exact sum_list ao I so (isList_of ho) r hi hQ
      · cases h
    · cases h
  · cases h
theorem call_cellsB {prog : Program} {w : World} {A : Around} {s : Shared} {R : Result → Shared → Prop} {a : Addr} {o : Obj} {fd : FuncData} {body : List Stmt} {vals : List Value} {binds : List (Str × Value)}
    (hroom : A.depth < recursionLimit) (ho : s.heap.get? a = some o) (hdata : o.data = .func fd) (hlim : s.heap.NoLimit) (hcd : s.heap.CodeRec fd.code fd.qualname)
    (hbody : fd.body = .stmts body) (hbind : BindsTo s fd ⟨vals, []⟩ binds) (hclo : fd.closure = [])
    (hkind : ∀ x ∈ binds, fd.scope.names.lookup x.1 = some .local ∨ (fd.scope.names.lookup x.1 = some .cell ∧ ((cellsFrom (s.heap.objs.size + 1) fd.scope.names []).lookup x.1).isSome = true))
    (h : ∀ s₁, InCallC s (callEnvC fd s.heap.objs.size a).locals (bindL (callEnvC fd s.heap.objs.size a).kindOf binds fun _ => none) (callEnvC fd s.heap.objs.size a).cells
        (bindC (callEnvC fd s.heap.objs.size a).kindOf binds fun _ => none) s₁ →
      wpAny (model prog w) (A.deeper (callEnvC fd s.heap.objs.size a)) (execs body (callEnvC fd s.heap.objs.size a)) (fun f s' => R (.ok (.ret (match f with | .ret v => v | _ => .none))) s')
        (fun e s' => wpAny (model prog w) (A.deeper (callEnvC fd s.heap.objs.size a)) (leaving (callEnvC fd s.heap.objs.size a) e) (fun _ s'' => R (.error e) s'') (fun e' s'' => R (.error e') s'') s') s₁)
    (hco : fd.scope.isCoroutine = false) (hgen : fd.scope.isGenerator = false) (hk : fd.scope.kind = .function) : codeAny (model prog w) A (.call (.ref a) ⟨vals, []⟩) R s := by
  refine codeAny_call_function hroom ho hdata hco hgen hbody hcd (hbind _ _ _ _ ?_)
  rw [hclo]
  refine wpAny_newFunctionEnv_cells hk hkind fun env he s' x => ?_
  subst he
  exact ⟨hlim.keeps x.toInCall.keep, codeAny_func (h s' x)⟩
set_option tactic.hygienic true in
theorem RF_defD (ok : C.Ok) {f : Addr} {oc : Value} {od : Option Addr} {osl : Array (Option Value)} {name qual : Str} {params : Arguments} {body : List Stmt} {scope : Scope} {dV kV doc pm cdv ct : Value} {an : Option Addr}
    {xs : List Nat} {ns : List Str} {F : DS}
    (hK : C.K.lookup f = some ⟨oc, od, .func (fnOf name qual params body scope dV kV doc pm an cdv ct), osl⟩) (hcd : codeIn C.K cdv qual = true)
    (hp : PNames C xs ns) (hnn : ns.Nodup)
    (hbind : ∀ (s : Shared) (vs : List Value), C.K.In s.heap → vs.length = ns.length → BindsTo s (fnOf name qual params body scope dV kV doc pm an cdv ct) ⟨vs, []⟩ (ns.zip vs))
    (hkind : ∀ n ∈ ns, scope.names.lookup n = some .local ∨ scope.names.lookup n = some .cell)
    (hnd : ((cellsFrom 0 scope.names []).map (·.1)).Nodup) (hfr : ∀ n, scope.names.lookup n ≠ some .free) (hk : scope.kind = .function) (hco : scope.isCoroutine = false) (hgen : scope.isGenerator = false)
    (hb : ∀ L, RS C d (callEnvC (fnOf name qual params body scope dV kV doc pm an cdv ct) L f) (execs body (callEnvC (fnOf name qual params body scope dV kV doc pm an cdv ct) L f)) F) :
    RF C (d + 1) f (dFn xs F) := by
  intro mvs mh mv mh' hf ρ A s vs R ao I so hv hR
  unfold dFn at hf
  split at hf
  · rename_i hlen
    have hvl : vs.length = ns.length := by rw [hv.length, hlen, hp.len]
    have ho := (I.k ok) _ _ hK
    refine call_cellsB ao.room ho rfl (I.nolimit ok) (codeRec_of (I.k ok) hcd) rfl (hbind s vs (I.k ok) hvl) rfl (fun x hx => ?_) (fun s₁ x => ?_) hco hgen hk
    · have hx1 : x.1 ∈ ns := by
        have := List.mem_map_of_mem (f := Prod.fst) hx
        rw [List.map_fst_zip (by lia)] at this
        exact this
      rcases hkind x.1 hx1 with q | q
      · exact .inl q
      · exact .inr ⟨q, cellsFrom_has _ _ _ _ (.inl q)⟩
    · have hnd' : ((cellsFrom (s.heap.objs.size + 1) scope.names []).map (·.1)).Nodup := by
        rw [cellsFrom_names scope.names _ 0 [] [] rfl]; exact hnd
      have hkeep := x.toInCall.keep
      have I1 : Inv C ρ mh s₁.heap := I.junk hkeep
      have so1 : SOk C s₁ := by obtain ⟨h', tk, rfl⟩ := x.toInCall.same; exact so.heap _ _
      have hfresh : ∀ a ∈ fa (callEnvC (fnOf name qual params body scope dV kV doc pm an cdv ct) s.heap.objs.size f), s.heap.get? a = none := by
        intro a ha
        have hge : s.heap.objs.size ≤ a := by
          unfold fa at ha
          rcases List.mem_cons.mp ha with rfl | ha
          · exact Nat.le_refl _
          · obtain ⟨⟨n, c⟩, hm, rfl⟩ := List.mem_map.mp ha
            exact Nat.le_of_lt (x.above n c hm)
        cases e : s.heap.get? a with
        | none => rfl
        | some o => exact absurd (Heap.lt_size e) (Nat.not_lt.mpr hge)
      have hzip : (ns.zip vs).map (·.1) = ns := List.map_fst_zip (by lia)
      have F1 : FR C ρ (callEnvC (fnOf name qual params body scope dV kV doc pm an cdv ct) s.heap.objs.size f) (zipE xs mvs) s₁.heap := by
        refine ⟨hk, rfl, rfl, ⟨_, x.toInCall.ns⟩, fun n c hm => ⟨_, x.cell n c (lookup_of_mem_nodup hnd' hm)⟩, fun a ha => I.fresh (hfresh a ha), fun a ha => I.not_x (I.fresh (hfresh a ha)).2, x.apart, fun n c hm => Nat.ne_of_gt (x.above n c hm), fun n hn => ?_, fun n hn => absurd hn (hfr n), fun y my n hy ht => ?_⟩
        · exact Option.isSome_iff_exists.mp (cellsFrom_has _ _ _ _ (.inl hn))
        · obtain ⟨v, h1, h2⟩ := hp.zip hv hy ht
          refine ⟨v, h1, ?_⟩
          have hn1 : n ∈ ns := by have := List.mem_map_of_mem (f := Prod.fst) h2; rw [hzip] at this; exact this
          unfold VarAt
          rcases hkind n hn1 with q | q
          · have q' : (callEnvC (fnOf name qual params body scope dV kV doc pm an cdv ct) s.heap.objs.size f).kindOf n = some .local := q
            rw [q']
            exact ⟨_, x.toInCall.ns, bindL_in _ _ _ (by rw [hzip]; exact hnn) h2 q'⟩
          · have q' : (callEnvC (fnOf name qual params body scope dV kV doc pm an cdv ct) s.heap.objs.size f).kindOf n = some .cell := q
            rw [q']
            obtain ⟨c, hc⟩ := Option.isSome_iff_exists.mp (cellsFrom_has scope.names (s.heap.objs.size + 1) [] n (.inl q))
            refine ⟨c, hc, ?_⟩
            have := x.cell n c hc
            rw [bindC_in _ _ _ (by rw [hzip]; exact hnn) h2 q'] at this
            exact this
      have x0 : Ext C ρ [] s.heap ρ s₁.heap := Ext.all hkeep
      cases hF : F (zipE xs mvs) mh with
      | none => rw [hF] at hf; simp at hf
      | some r =>
        obtain ⟨fl, me', mh1⟩ := r
        rw [hF] at hf
        refine hb s.heap.objs.size hF ao.deeper I1 so1 F1 fun fl' ρ' s' x' I' so' F' r' => ?_
        have xx : Ext C ρ [] s.heap ρ' s'.heap := (x0.wide.trans x').more fun a ha => .inr (hfresh a ha)
        cases fl with
        | ret v => obtain ⟨w, rfl, hw⟩ := r'; cases hf; exact hR _ _ _ xx I' so' hw
        | next => cases r'; cases hf; exact hR _ _ _ xx I' so' .none'
        | brk => simp at hf
        | cont => simp at hf
  · cases hf

end Mine

namespace Mine

noncomputable def F_alen (A : Addr) : DS := (dSeq (dRet (dLenAcc A 0)) dNil)
noncomputable def F_astr (A : Addr) : DS := (dSeq (dRet (dStrAcc A 0)) dNil)
noncomputable def F_give : DS := (dSeq (dAsg 13 (dSliceS (dVar 11) (some (dOp2 oItem (dVar 12) (dC (.int 0)))) (some (dOp2 oAdd (dOp2 oItem (dVar 12) (dC (.int 0))) (dVar 10))))) (dSeq (dAugI (dVar 12) (dC (.int 0)) oIAdd (dCall fLen (dL1 (dVar 13) dL0))) (dSeq (dRet (dVar 13)) dNil)))
noncomputable def F_ninit (N : Addr) : DS := (dSeq (dAsgAttr (setAttrD N "lineno") (dC (.int 1)) (dVar 0)) (dSeq (dAsgAttr (setAttrD N "instream") (dVar 6) (dVar 0)) (dSeq (dAsgAttr (setAttrD N "whitespace") (dC (.str "\n\t\r ")) (dVar 0)) (dSeq (dAsgAttr (setAttrD N "pushback") (dLstM dL0) (dVar 0)) dNil))))
noncomputable def F_read_char (N : Addr) : DS := (dSeq (dAsg 7 (dRead (oRead 10 11 12 F_give) (dOp1 (oAttr N "instream") (dVar 0)) (dC (.int 1)))) (dSeq (dIf (dTru (dOp2 oEq (dVar 7) (dC (.str "\n")))) (dSeq (dAugAttr (oAttr N "lineno") (setAttrD N "lineno") oIAdd (dVar 0) (dC (.int 1))) dNil) dNil) (dSeq (dRet (dVar 7)) dNil)))
noncomputable def F_get_token (N rc : Addr) : DS := (dSeq (dIf (dTru (dOp1 (oAttr N "pushback") (dVar 0))) (dSeq (dRet (dBMeth selList fLpop (dOp1 (oAttr N "pushback") (dVar 0)) (dL1 (dC (.int 0)) dL0))) dNil) dNil) (dSeq (dAsg 8 (dC (.str ""))) (dSeq (dAsg 9 (dIter N rc "_read_char" (dVar 0))) (dSeq (dForC rc (dFn [0] (F_read_char N)) 1000 (dVar 9) (tgV 7) (dSeq (dIf (dTru (dOp2 oIn (dVar 7) (dOp1 (oAttr N "whitespace") (dVar 0)))) (dSeq dCont dNil) dNil) (dSeq (dIf (dTru (dOp2 oEq (dVar 7) (dC (.str "\"")))) (dSeq (dForC rc (dFn [0] (F_read_char N)) 1000 (dVar 9) (tgV 7) (dSeq (dIf (dTru (dOp2 oEq (dVar 7) (dC (.str "\"")))) (dSeq (dRet (dVar 8)) dNil) (dSeq (dIf (dTru (dOp2 oEq (dVar 7) (dC (.str "\\")))) (dSeq (dAsg 7 (dMeth N "_read_char" (dFn [0] (F_read_char N)) (dVar 0) dL0)) dNil) dNil) dNil)) (dSeq (dAugV 8 oIAdd (dVar 7)) dNil))) dNil) (dSeq (dIf (dTru (dOp2 oEq (dVar 7) (dC (.str "\\")))) (dSeq (dAsg 7 (dMeth N "_read_char" (dFn [0] (F_read_char N)) (dVar 0) dL0)) dNil) dNil) (dSeq (dAugV 8 oIAdd (dVar 7)) (dSeq (dForC rc (dFn [0] (F_read_char N)) 1000 (dVar 9) (tgV 7) (dSeq (dIf (dTru (dOp2 oIn (dVar 7) (dOp1 (oAttr N "whitespace") (dVar 0)))) (dSeq (dRet (dVar 8)) dNil) (dSeq (dIf (dTru (dOp2 oEq (dVar 7) (dC (.str "\\")))) (dSeq (dAsg 7 (dMeth N "_read_char" (dFn [0] (F_read_char N)) (dVar 0) dL0)) dNil) dNil) dNil)) (dSeq (dAugV 8 oIAdd (dVar 7)) dNil))) dNil)))) dNil))) (dSeq (dRet (dVar 8)) dNil)))))
noncomputable def F_push_token (N : Addr) : DS := (dSeq (dExprN (dBMeth selList fAppend (dOp1 (oAttr N "pushback") (dVar 0)) (dL1 (dVar 8) dL0))) dNil)
noncomputable def F_push (A : Addr) : DS := (dSeq (dExprN (dBMeth (selInst A "append") (fAppendI A) (dVar 0) (dL1 (dTup (dL1 (dVar 2) (dL1 (dVar 3) dL0))) dL0))) dNil)

noncomputable def giveOf (p : Program) (k : Nat) : Option (Arguments × List Stmt × Scope) := match p.main.body.drop k with
  | .FunctionDef _ _ [_, .FunctionDef _ gp gb _ _ _ gs _ _ _, _, _] _ _ _ _ _ _ _ :: _ => some (gp, gb, gs)
  | _ => none
noncomputable def giveP (p : Program) (k : Nat) (base : Heap) (fd : FuncData) : Prop := ∃ gp gb gs, giveOf p k = some (gp, gb, gs) ∧
  ∃ c1 c2 doc pm cv ctv, c1 ≠ c2 ∧ base.get? c1 = none ∧ base.get? c2 = none ∧ fd = giveFd "_law_lexer.<locals>._law_give" gp gb gs c1 c2 doc pm cv ctv
theorem noFree {l : List (Str × NameKind)} (h : ∀ x ∈ l, x.2 ≠ .free) (n : Str) : l.lookup n ≠ some .free := fun e => h (n, .free) (mem_of_lookup e) rfl
theorem subNone {C : Cx} : SubIter C none := True.intro
theorem RP_some {C : Cx} {d : Nat} {env : Env} {e : PySem.Expr} {f : D} (h : RE C d env e f) : RP C d env (some e) (some f) := h
theorem RP_none {C : Cx} {d : Nat} {env : Env} : RP C d env none none := by unfold RP; first | trivial | exact rfl
theorem compOk {C : Cx} {env : Env} {scope : Scope} {own : List Nat} (h1 : scope.kind = .function) (h2 : scope.names.all (fun x => x.2 != .cell) = true) (h3 : (scope.names.map (·.1)).Nodup)
    (h4 : scope.names.all (fun x => x.2 != .free || env.kindOf x.1 == some .cell || env.kindOf x.1 == some .free) = true)
    (h5 : (List.range C.tbl.length).all (fun x => match C.tbl[x]? with | some n => scope.names.lookup n != some .local || own.contains x | none => true) = true) : CompOk C env scope own := by
  refine ⟨h1, fun x hx => ?_, h3, fun n hn => ?_, fun x n hx hn => ?_⟩
  · simpa using List.all_eq_true.mp h2 x hx
  · have := List.all_eq_true.mp h4 _ hn
    simpa using this
  · have hl : x < C.tbl.length := (List.getElem?_eq_some_iff.mp hx).1
    have := List.all_eq_true.mp h5 x (List.mem_range.mpr hl)
    rw [hx] at this
    simpa [hn] using this
end Mine

namespace Mine

noncomputable def isWs (c : Nat) : Bool := c == 10 || c == 9 || c == 13 || c == 32
noncomputable abbrev ch1 (c : Nat) : Str := ⟨#[c]⟩
noncomputable abbrev txt (l : List Nat) : Str := ⟨l.toArray⟩
theorem s_nl : ("\n" : Str) = ch1 10 := by kernel_rfl
theorem s_q : ("\"" : Str) = ch1 34 := by kernel_rfl
theorem s_bs : ("\\" : Str) = ch1 92 := by kernel_rfl
theorem s_nil : ("" : Str) = txt [] := by kernel_rfl
theorem occ_ws : ∀ c : Fin 128, (Builtin.Str.occurrences ("\n\t\r " : Str) ⟨#[c.1]⟩ 0 ("\n\t\r " : Str).length 1).isEmpty = !isWs c.1 := by decide +kernel
theorem txt_len (l : List Nat) : (txt l).length = l.length := by simp [Str.length]
theorem shp {l : List Nat} (h : ∀ c ∈ l, c < 128) : SeqAt.shaped (.str (txt l)) = true := by
  simp only [SeqAt.shaped, PyData.canLay0, PyData.depth]
  simp [PyData.strOk]
  intro i hi
  have := h _ hi
  lia

noncomputable def rdc (l : List Nat) (p : Nat) : Str := match l[p]? with | some c => ch1 c | none => txt []
theorem mm_id {p n : Nat} (h : p ≤ n) : max (0 : Int) (min (p : Int) n) = p := by
  rw [Int.min_eq_left (Int.ofNat_le.mpr h), Int.max_eq_right (Int.natCast_nonneg p)]
theorem mm_top {p n : Nat} (h : n ≤ p) : max (0 : Int) (min (p : Int) n) = n := by
  rw [Int.min_eq_right (Int.ofNat_le.mpr h), Int.max_eq_right (Int.natCast_nonneg n)]
theorem sub_one {a b : Nat} (h : b + 1 ≤ a) : a - (b + 1) + 1 = a - b := Nat.succ_pred_eq_of_pos (Nat.sub_pos_of_lt h)
theorem sidx (p n : Nat) (hp : p ≤ n) : Builtin.Str.strSliceIndices (some (p : Int)) (some ((p : Int) + 1)) 1 n = if p < n then [p] else [] := by
  unfold Builtin.Str.strSliceIndices sliceRange
  have h0 : ¬ ((p : Int) < 0) := Int.not_lt.mpr (Int.natCast_nonneg p)
  have h1 : ¬ ((p : Int) + 1 < 0) := Int.not_lt.mpr (Int.natCast_nonneg (p + 1))
  simp only [h0, h1, if_false, show (1 : Int) > 0 by decide, if_true]
  by_cases h : p < n
  · rw [if_pos h]
    have e2 : max (0 : Int) (min ((p : Int) + 1) n) = p + 1 := mm_id (p := p + 1) h
    rw [mm_id hp, e2, if_pos (Int.lt_succ p)]
    have e3 : ((p : Int) + 1 - p + 1 - 1) / 1 = 1 := by rw [Int.ediv_one]; lia
    rw [e3]
    simp
  · rw [if_neg h]
    have e : p = n := Nat.le_antisymm hp (Nat.not_lt.mp h)
    subst e
    have e2 : max (0 : Int) (min ((p : Int) + 1) p) = p := mm_top (p := p + 1) (Nat.le_succ p)
    rw [mm_id hp, e2, if_neg (Int.lt_irrefl _)]
    simp
set_option tactic.hygienic true in
theorem slice1 (l : List Nat) (p : Nat) (hp : p ≤ l.length) : Txt.slice (txt l) (some (p : Int)) (some ((p : Int) + 1)) = rdc l p := by
  unfold Txt.slice rdc
  rw [txt_len, sidx p _ hp]
  by_cases h : p < l.length
  · have hs : l[p]? = some l[p] := List.getElem?_eq_getElem h
    rw [if_pos h, hs]
    split
    · rename_i h1
      match l, h1, h with
      | [x], _, h =>
        have : p = 0 := by simp at h; exact h
        subst this
        rfl
      | [], h1, h => simp at h
      | x :: y :: r, h1, h => simp at h1
    · simp [hs]
  · have hs : l[p]? = none := List.getElem?_eq_none (by lia)
    rw [if_neg h, hs]
    split
    · rename_i h1
      match l, h1 with
      | [], _ => rfl
      | x :: r, h1 => simp at h1
    · rfl
set_option tactic.hygienic true in
theorem rdc_len (l : List Nat) (p : Nat) (hp : p ≤ l.length) : p + (rdc l p).length ≤ l.length := by
  unfold rdc
  split
  · rename_i c h
    have := (List.getElem?_eq_some_iff.mp h).1
    rw [show (ch1 c).length = 1 from rfl]
    lia
  · rw [txt_len]; simpa using hp

theorem read_raw {l : List Nat} {p t : Nat} {mh : MH} (hp : p ≤ l.length) (hT : l.length ≤ 1000) (ht : mh[t]? = some (.list [.int (p : Int)])) :
    oRead 10 11 12 F_give (.strm (txt l) t) (.int 1) mh = some (.str (rdc l p), mh.set t (.list [.int ((p : Int) + ((rdc l p).length : Nat))])) := by
  have hs : sizeLine = 16777216 := rfl
  have h1 : l.length ≤ 16777216 := by lia
  have h2 : (rdc l p).length ≤ 16777216 := by have := rdc_len l p hp; lia
  simp [oRead, ht, F_give, dSeq, dAsg, dSliceS, dPart, dVar, dC, dOp2, dAugI, dCall, dL1, dL0, dRet, dNil, oItem, oAdd, oIAdd, itemAt, place, setI, fLen, upd, List.lookup, txt_len, hs, h1, h2, slice1 l p hp]

noncomputable def lexA (T : Str) (t pb : Nat) (L : Int) : List (Str × MV) := [("lineno", .int L), ("instream", .strm T t), ("whitespace", .str ("\n\t\r " : Str)), ("pushback", .ref pb)]
theorem lexA_lineno {T : Str} {t pb : Nat} {L : Int} : (lexA T t pb L).lookup ("lineno" : Str) = some (.int L) := by kernel_rfl
theorem lexA_instream {T : Str} {t pb : Nat} {L : Int} : (lexA T t pb L).lookup ("instream" : Str) = some (.strm T t) := by kernel_rfl
theorem lexA_ws {T : Str} {t pb : Nat} {L : Int} : (lexA T t pb L).lookup ("whitespace" : Str) = some (.str ("\n\t\r " : Str)) := by kernel_rfl
theorem lexA_pb {T : Str} {t pb : Nat} {L : Int} : (lexA T t pb L).lookup ("pushback" : Str) = some (.ref pb) := by kernel_rfl
theorem lexA_rc {T : Str} {t pb : Nat} {L : Int} : (lexA T t pb L).lookup ("_read_char" : Str) = none := by kernel_rfl
theorem lexA_gt {T : Str} {t pb : Nat} {L : Int} : (lexA T t pb L).lookup ("get_token" : Str) = none := by kernel_rfl
theorem lexA_pt {T : Str} {t pb : Nat} {L : Int} : (lexA T t pb L).lookup ("push_token" : Str) = none := by kernel_rfl
theorem lexA_upd {T : Str} {t pb : Nat} {L L' : Int} : updA (lexA T t pb L) "lineno" (.int L') = lexA T t pb L' := by kernel_rfl

structure LexAt (N : Addr) (mh : MH) (i dd t pb : Nat) (T : Str) (p : Nat) (L : Int) : Prop where
  inst : mh[i]? = some (.inst N dd none)
  attrs : mh[dd]? = some (.attrs (lexA T t pb L))
  at_ : mh[t]? = some (.list [.int (p : Int)])
  i1 : i ≠ dd
  i2 : i ≠ t
  i3 : dd ≠ t

noncomputable def lexSet (mh : MH) (dd t pb : Nat) (T : Str) (p : Nat) (L : Int) : MH := (mh.set t (.list [.int (p : Int)])).set dd (.attrs (lexA T t pb L))
theorem LexAt.lt {N : Addr} {mh : MH} {i dd t pb p : Nat} {T : Str} {L : Int} (h : LexAt N mh i dd t pb T p L) : i < mh.length ∧ dd < mh.length ∧ t < mh.length := ⟨mh_lt h.inst, mh_lt h.attrs, mh_lt h.at_⟩
theorem LexAt.set {N : Addr} {mh : MH} {i dd t pb p : Nat} {T : Str} {L : Int} (h : LexAt N mh i dd t pb T p L) (p' : Nat) (L' : Int) : LexAt N (lexSet mh dd t pb T p' L') i dd t pb T p' L' := by
  obtain ⟨h1, h2, h3⟩ := h.lt
  refine ⟨?_, ?_, ?_, h.i1, h.i2, h.i3⟩
  · unfold lexSet
    rw [List.getElem?_set_ne h.i1.symm, List.getElem?_set_ne h.i2.symm]
    exact h.inst
  · unfold lexSet
    rw [List.getElem?_set_self (by simpa using h2)]
  · unfold lexSet
    rw [List.getElem?_set_ne h.i3, List.getElem?_set_self h3]
theorem LexAt.app {N : Addr} {mh : MH} {i dd t pb p : Nat} {T : Str} {L : Int} (h : LexAt N mh i dd t pb T p L) (r : MH) : LexAt N (mh ++ r) i dd t pb T p L := by
  obtain ⟨h1, h2, h3⟩ := h.lt
  exact ⟨by rw [List.getElem?_append_left h1]; exact h.inst, by rw [List.getElem?_append_left h2]; exact h.attrs, by rw [List.getElem?_append_left h3]; exact h.at_, h.i1, h.i2, h.i3⟩
theorem lexSet_set {mh : MH} {dd t pb p p' : Nat} {T : Str} {L L' : Int} (h : dd ≠ t) : lexSet (lexSet mh dd t pb T p L) dd t pb T p' L' = lexSet mh dd t pb T p' L' := by
  unfold lexSet
  rw [List.set_comm _ _ h, List.set_set, List.set_set]
theorem lexSet_app {mh r : MH} {dd t pb p : Nat} {T : Str} {L : Int} (h1 : dd < mh.length) (h2 : t < mh.length) : lexSet (mh ++ r) dd t pb T p L = lexSet mh dd t pb T p L ++ r := by
  unfold lexSet
  rw [List.set_append_left _ _ h2, List.set_append_left _ _ (by simpa using h1)]
theorem LexAt.same {N : Addr} {mh : MH} {i dd t pb p : Nat} {T : Str} {L : Int} (h : LexAt N mh i dd t pb T p L) : lexSet mh dd t pb T p L = mh := by
  unfold lexSet
  rw [set_same h.at_, set_same h.attrs]
theorem lexSet_len {mh : MH} {dd t pb p : Nat} {T : Str} {L : Int} : (lexSet mh dd t pb T p L).length = mh.length := by simp [lexSet]

theorem me_dVar {me : ME} {mh : MH} {x : Nat} {v : MV} (h : me.lookup x = some v) : dVar x me mh = some (v, mh) := by simp [dVar, h]
theorem attr_ev {N : Addr} {mh : MH} {i dd t pb p : Nat} {T : Str} {L : Int} (h : LexAt N mh i dd t pb T p L) {name : Str} {v : MV} (hn : (lexA T t pb L).lookup name = some v) : oAttr N name (.ref i) mh = some (v, mh) := by
  simp [oAttr, h.inst, h.attrs, hn]

noncomputable def nl1 (s : Str) : Int := if s = ch1 10 then 1 else 0
theorem eq_ev {a b : Str} {mh : MH} (ha : SeqAt.shaped (.str a) = true) (hb : SeqAt.shaped (.str b) = true) : oEq (.str a) (.str b) mh = some (.bool (a == b), mh) := by
  simp [oEq, toD, ha, hb, PyData.eqv]
theorem shp1 {c : Nat} (h : c < 128) : SeqAt.shaped (.str (ch1 c)) = true := shp (l := [c]) (by simpa using h)
set_option tactic.hygienic true in
theorem rdc_shp {l : List Nat} {p : Nat} (h : ∀ c ∈ l, c < 128) : SeqAt.shaped (.str (rdc l p)) = true := by
  unfold rdc
  split
  · rename_i c hc
    exact shp1 (h c (List.mem_of_getElem? hc))
  · exact shp (by simp)
theorem read_ev {N : Addr} {mh : MH} {i dd t pb p : Nat} {l : List Nat} {L : Int} (h : LexAt N mh i dd t pb (txt l) p L) (hp : p ≤ l.length) (hT : l.length ≤ 1000) (hc : ∀ c ∈ l, c < 128) :
    dFn [0] (F_read_char N) [.ref i] mh = some (.str (rdc l p), lexSet mh dd t pb (txt l) (p + (rdc l p).length) (L + nl1 (rdc l p))) := by
  have e1 : oAttr N "instream" (.ref i) mh = some (.strm (txt l) t, mh) := attr_ev h lexA_instream
  have e2 := read_raw hp hT h.at_
  have e3 : ∀ mh, oEq (.str (rdc l p)) (.str ("\n" : Str)) mh = some (.bool (rdc l p == ch1 10), mh) := fun mh => by rw [s_nl]; exact eq_ev (rdc_shp hc) (shp1 (by decide))
  have hd : (mh.set t (.list [.int ((p : Int) + ((rdc l p).length : Nat))]))[dd]? = some (.attrs (lexA (txt l) t pb L)) := by rw [List.getElem?_set_ne h.i3.symm]; exact h.attrs
  have hi : (mh.set t (.list [.int ((p : Int) + ((rdc l p).length : Nat))]))[i]? = some (.inst N dd none) := by rw [List.getElem?_set_ne h.i2.symm]; exact h.inst
  have hcast : (((p + (rdc l p).length : Nat)) : Int) = (p : Int) + ((rdc l p).length : Nat) := by lia
  by_cases hn : rdc l p = ch1 10
  · have e5 : oAttr N "lineno" (.ref i) (mh.set t (.list [.int ((p : Int) + ((rdc l p).length : Nat))])) = some (.int L, mh.set t (.list [.int ((p : Int) + ((rdc l p).length : Nat))])) := by simp [oAttr, hi, hd, lexA_lineno]
    have e6 : setAttrD N "lineno" (.ref i) (.int (L + 1)) (mh.set t (.list [.int ((p : Int) + ((rdc l p).length : Nat))])) = some (lexSet mh dd t pb (txt l) (p + (rdc l p).length) (L + 1)) := by
      simp only [setAttrD, hi, hd, if_true, lexA_upd]
      rw [if_pos (by simp [lexA])]
      rw [lexSet, hcast]
    have e4 : (rdc l p == ch1 10) = true := by simp [hn]
    have e7 : nl1 (rdc l p) = 1 := by simp [nl1, hn]
    rw [e7]
    rw [e4] at e3
    simp [dFn, F_read_char, dSeq, dAsg, dRead, dOp1, dVar, dC, zipE, List.lookup, e1, e2, upd, dIf, dTru, dOp2, e3, tru, dAugAttr, e5, oIAdd, e6, dNil, dRet]
  · have e4 : (rdc l p == ch1 10) = false := by simp [hn]
    have e7 : nl1 (rdc l p) = 0 := by simp [nl1, hn]
    have e8 : lexSet mh dd t pb (txt l) (p + (rdc l p).length) (L + 0) = mh.set t (.list [.int ((p : Int) + ((rdc l p).length : Nat))]) := by
      rw [lexSet, hcast, Int.add_zero, set_same hd]
    rw [e7, e8]
    rw [e4] at e3
    simp [dFn, F_read_char, dSeq, dAsg, dRead, dOp1, dVar, dC, zipE, List.lookup, e1, e2, upd, dIf, dTru, dOp2, e3, tru, dNil, dRet]

noncomputable def bQ (N : Addr) : DS := (dSeq (dIf (dTru (dOp2 oEq (dVar 7) (dC (.str "\"")))) (dSeq (dRet (dVar 8)) dNil) (dSeq (dIf (dTru (dOp2 oEq (dVar 7) (dC (.str "\\")))) (dSeq (dAsg 7 (dMeth N "_read_char" (dFn [0] (F_read_char N)) (dVar 0) dL0)) dNil) dNil) dNil)) (dSeq (dAugV 8 oIAdd (dVar 7)) dNil))
noncomputable def bW (N : Addr) : DS := (dSeq (dIf (dTru (dOp2 oIn (dVar 7) (dOp1 (oAttr N "whitespace") (dVar 0)))) (dSeq (dRet (dVar 8)) dNil) (dSeq (dIf (dTru (dOp2 oEq (dVar 7) (dC (.str "\\")))) (dSeq (dAsg 7 (dMeth N "_read_char" (dFn [0] (F_read_char N)) (dVar 0) dL0)) dNil) dNil) dNil)) (dSeq (dAugV 8 oIAdd (dVar 7)) dNil))
noncomputable def bT (N rc : Addr) : DS := (dSeq (dIf (dTru (dOp2 oIn (dVar 7) (dOp1 (oAttr N "whitespace") (dVar 0)))) (dSeq dCont dNil) dNil) (dSeq (dIf (dTru (dOp2 oEq (dVar 7) (dC (.str "\"")))) (dSeq (dForC rc (dFn [0] (F_read_char N)) 1000 (dVar 9) (tgV 7) (bQ N)) dNil) (dSeq (dIf (dTru (dOp2 oEq (dVar 7) (dC (.str "\\")))) (dSeq (dAsg 7 (dMeth N "_read_char" (dFn [0] (F_read_char N)) (dVar 0) dL0)) dNil) dNil) (dSeq (dAugV 8 oIAdd (dVar 7)) (dSeq (dForC rc (dFn [0] (F_read_char N)) 1000 (dVar 9) (tgV 7) (bW N)) dNil)))) dNil))
theorem get_token_eq (N rc : Addr) : F_get_token N rc = (dSeq (dIf (dTru (dOp1 (oAttr N "pushback") (dVar 0))) (dSeq (dRet (dBMeth selList fLpop (dOp1 (oAttr N "pushback") (dVar 0)) (dL1 (dC (.int 0)) dL0))) dNil) dNil) (dSeq (dAsg 8 (dC (.str ""))) (dSeq (dAsg 9 (dIter N rc "_read_char" (dVar 0))) (dSeq (dForC rc (dFn [0] (F_read_char N)) 1000 (dVar 9) (tgV 7) (bT N rc)) (dSeq (dRet (dVar 8)) dNil))))) := rfl

noncomputable def nls (l : List Nat) : Int := (l.count 10 : Nat)
noncomputable def nlc (c : Nat) : Int := if c = 10 then 1 else 0
theorem nls_cons (c : Nat) (r : List Nat) : nls (c :: r) = nlc c + nls r := by
  unfold nls nlc
  by_cases h : c = 10
  · subst h; simp; lia
  · simp [h, List.count_cons]
theorem nl1_ch (c : Nat) : nl1 (ch1 c) = nlc c := by
  unfold nl1 nlc
  by_cases h : c = 10
  · subst h; rfl
  · have : ch1 c ≠ ch1 10 := fun e => h (by injection e with e; simpa using e)
    simp [h, this]
theorem nl1_nil : nl1 (txt []) = 0 := rfl

noncomputable def hp (mh : MH) (dd t pb : Nat) (l0 : List Nat) (rc : Addr) (l : List Nat) (L : Int) (cs : Option Nat) : MH := lexSet mh dd t pb (txt l0) (l0.length - l.length) L ++ [.citer rc cs]

theorem o1_e {o : Op1} {f : D} {me : ME} {mh mh1 : MH} {a : MV} {r : MV × MH} (h : f me mh = some (a, mh1)) (h2 : o a mh1 = some r) : dOp1 o f me mh = some r := by simp only [dOp1, h, h2]
theorem o2_e {o : Op2} {f g : D} {me : ME} {mh mh1 mh2 : MH} {a b : MV} (h : f me mh = some (a, mh1)) (h2 : g me mh1 = some (b, mh2)) : dOp2 o f g me mh = o a b mh2 := by simp only [dOp2, h, h2]
theorem tr_b {f : D} {me : ME} {mh mh1 : MH} {b : Bool} (h : f me mh = some (.bool b, mh1)) : dTru f me mh = some (b, mh1) := by simp only [dTru, h, tru]
theorem sq_n {f g : DS} {me me1 : ME} {mh mh1 : MH} (h : f me mh = some (.next, me1, mh1)) : dSeq f g me mh = g me1 mh1 := by simp only [dSeq, h]
theorem sq_c {f g : DS} {me me1 : ME} {mh mh1 : MH} (h : f me mh = some (.cont, me1, mh1)) : dSeq f g me mh = some (.cont, me1, mh1) := by simp only [dSeq, h]
theorem sq_nil {f : DS} {me : ME} {mh : MH} {r : Fl × ME × MH} (h : f me mh = some r) : dSeq f dNil me mh = some r := by
  obtain ⟨fl, me1, mh1⟩ := r
  cases fl <;> simp only [dSeq, h, dNil]
theorem if_t {c : DB} {f g : DS} {me : ME} {mh mh1 : MH} {b : Bool} (h : c me mh = some (b, mh1)) (hb : b = true) : dIf c f g me mh = f me mh1 := by subst hb; simp only [dIf, h, if_true]
theorem if_n {c : DB} {f g : DS} {me : ME} {mh mh1 : MH} {b : Bool} (h : c me mh = some (b, mh1)) (hb : b = false) : dIf c f g me mh = g me mh1 := by subst hb; simp only [dIf, h, Bool.false_eq_true, if_false]
theorem asg_e {x : Nat} {f : D} {me : ME} {mh mh1 : MH} {v : MV} (h : f me mh = some (v, mh1)) : dAsg x f me mh = some (.next, upd me x v, mh1) := by simp only [dAsg, h]
theorem forC_e {rc : Addr} {den : DF} {n x ci : Nat} {tg : Tg} {f : DS} {me : ME} {mh : MH} {cs : Option Nat} (h : me.lookup x = some (.ref ci)) (hi : mh[ci]? = some (.citer rc cs)) : dForC rc den n (dVar x) tg f me mh = dForCLoop (dCNext rc den ci) tg f n me mh := by
  simp only [dForC, dVar, h, hi, if_true]
section
variable {N rc : Addr} {mh : MH} {i dd t pb p0 : Nat} {l0 : List Nat} {L0 : Int} (h : LexAt N mh i dd t pb (txt l0) p0 L0)
include h
theorem hp_at {l : List Nat} {L : Int} {cs : Option Nat} : LexAt N (hp mh dd t pb l0 rc l L cs) i dd t pb (txt l0) (l0.length - l.length) L := (h.set _ _).app _
omit h in
theorem hp_ci {l : List Nat} {L : Int} {cs : Option Nat} : (hp mh dd t pb l0 rc l L cs)[mh.length]? = some (.citer rc cs) := by
  unfold hp
  rw [List.getElem?_append_right (by rw [lexSet_len]; exact Nat.le_refl _), lexSet_len]
  simp
theorem hp_set {l l' : List Nat} {L L' : Int} {cs : Option Nat} : lexSet (hp mh dd t pb l0 rc l L cs) dd t pb (txt l0) (l0.length - l'.length) L' = hp mh dd t pb l0 rc l' L' cs := by
  obtain ⟨h1, h2, h3⟩ := h.lt
  unfold hp
  rw [lexSet_app (by rw [lexSet_len]; exact h2) (by rw [lexSet_len]; exact h3), lexSet_set h.i3]
omit h in
theorem hp_end {l : List Nat} {L : Int} {cs cs' : Option Nat} : (hp mh dd t pb l0 rc l L cs).set mh.length (.citer rc cs') = hp mh dd t pb l0 rc l L cs' := by
  unfold hp
  rw [List.set_append_right _ _ (by rw [lexSet_len]; exact Nat.le_refl _), lexSet_len]
  simp
omit h in
theorem rdc_suf {l : List Nat} (hs : l <:+ l0) : rdc l0 (l0.length - l.length) = match l with | c :: _ => ch1 c | [] => txt [] := by
  obtain ⟨pre, rfl⟩ := hs
  unfold rdc
  rw [List.length_append, Nat.add_sub_cancel]
  rw [List.getElem?_append_right (Nat.le_refl _), Nat.sub_self]
  cases l with
  | nil => rfl
  | cons c r => rfl
theorem rc_ev {c : Nat} {r : List Nat} {L : Int} {cs : Option Nat} (hs : c :: r <:+ l0) (hT : l0.length ≤ 900) (hc : ∀ c ∈ l0, c < 128) :
    dFn [0] (F_read_char N) [.ref i] (hp mh dd t pb l0 rc (c :: r) L cs) = some (.str (ch1 c), hp mh dd t pb l0 rc r (L + nlc c) cs) := by
  have hlen := hs.length_le
  have e := read_ev (hp_at (rc := rc) (l := c :: r) (L := L) (cs := cs) h) (by lia) (by lia) hc
  rw [rdc_suf hs] at e
  rw [e]
  have : l0.length - (c :: r).length + (ch1 c).length = l0.length - r.length := sub_one hlen
  rw [this, hp_set h, nl1_ch]
theorem rc_ev0 {L : Int} {cs : Option Nat} (hT : l0.length ≤ 900) (hc : ∀ c ∈ l0, c < 128) :
    dFn [0] (F_read_char N) [.ref i] (hp mh dd t pb l0 rc [] L cs) = some (.str (txt []), hp mh dd t pb l0 rc [] L cs) := by
  have e := read_ev (hp_at (rc := rc) (l := []) (L := L) (cs := cs) h) (by lia) (by lia) hc
  rw [rdc_suf (List.nil_suffix)] at e
  rw [e]
  have : l0.length - ([] : List Nat).length + (txt []).length = l0.length - ([] : List Nat).length := by simp [Str.length]
  rw [this, hp_set h, nl1_nil, Int.add_zero]
theorem nx_ev {c : Nat} {r : List Nat} {L : Int} (hs : c :: r <:+ l0) (hT : l0.length ≤ 900) (hc : ∀ c ∈ l0, c < 128) :
    dCNext rc (dFn [0] (F_read_char N)) mh.length (hp mh dd t pb l0 rc (c :: r) L (some i)) = some (some (.str (ch1 c)), hp mh dd t pb l0 rc r (L + nlc c) (some i)) := by
  have hne : ch1 c ≠ ("" : Str) := by rw [s_nil]; intro e; injection e with e; simp at e
  simp only [dCNext, hp_ci, if_true, rc_ev h hs hT hc, and_self, hne, if_false]
theorem nx_ev0 {L : Int} (hT : l0.length ≤ 900) (hc : ∀ c ∈ l0, c < 128) :
    dCNext rc (dFn [0] (F_read_char N)) mh.length (hp mh dd t pb l0 rc [] L (some i)) = some (none, hp mh dd t pb l0 rc [] L none) := by
  simp only [dCNext, hp_ci, if_true, rc_ev0 h hT hc, and_self, s_nil, hp_end]
omit h in
theorem nx_dead {l : List Nat} {L : Int} {den : DF} : dCNext rc den mh.length (hp mh dd t pb l0 rc l L none) = some (none, hp mh dd t pb l0 rc l L none) := by
  simp only [dCNext, hp_ci]

noncomputable abbrev M1 (i ci : Nat) (tok : List Nat) (c : Str) : ME := [(0, .ref i), (8, .str (txt tok)), (9, .ref ci), (7, .str c)]
omit h in
theorem ch_eq {c k : Nat} {mh : MH} (hc : c < 128) (hk : k < 128) : oEq (.str (ch1 c)) (.str (ch1 k)) mh = some (.bool (c == k), mh) := by
  rw [eq_ev (shp1 hc) (shp1 hk)]
  have : (ch1 c == ch1 k) = (c == k) := by
    by_cases e : c = k
    · subst e; simp
    · have : ch1 c ≠ ch1 k := fun e' => e (by injection e' with e'; simpa using e')
      rw [beq_eq_false_iff_ne.mpr this, beq_eq_false_iff_ne.mpr e]
  rw [this]
omit h in
theorem tok_add {tok : List Nat} {c : Nat} {mh : MH} (hl : tok.length ≤ 5000) : oIAdd (.str (txt tok)) (.str (ch1 c)) mh = some (.str (txt (tok ++ [c])), mh) := by
  have hs : sizeLine = 16777216 := rfl
  simp only [oIAdd]
  rw [if_pos (by rw [txt_len, show (ch1 c).length = 1 from rfl, hs]; lia)]
  congr 2
  show MV.str (txt tok ++ ch1 c) = _
  congr 1
  show (⟨tok.toArray ++ #[c]⟩ : Str) = ⟨(tok ++ [c]).toArray⟩
  simp
omit h in
theorem bQ_close {ci : Nat} {tok : List Nat} {mh : MH} : bQ N (M1 i ci tok (ch1 34)) mh = some (.ret (.str (txt tok)), M1 i ci tok (ch1 34), mh) := by
  simp [bQ, dSeq, dIf, dTru, dOp2, dVar, dC, List.lookup, s_q, s_bs, ch_eq, tru, dRet]
omit h in
theorem bQ_plain {ci : Nat} {tok : List Nat} {mh : MH} {c : Nat} (hc : c < 128) (h1 : c ≠ 34) (h2 : c ≠ 92) (hl : tok.length ≤ 5000) : bQ N (M1 i ci tok (ch1 c)) mh = some (.next, M1 i ci (tok ++ [c]) (ch1 c), mh) := by
  have e1 : (c == 34) = false := by simpa using h1
  have e2 : (c == 92) = false := by simpa using h2
  simp [bQ, dSeq, dIf, dTru, dOp2, dVar, dC, List.lookup, s_q, s_bs, ch_eq hc, tru, dRet, e1, e2, dNil, dAugV, dAsg, tok_add hl, upd]
theorem meth_rc {d : Nat} {r tok : List Nat} {L : Int} {cs : Option Nat} {c : Str} {ci : Nat} (hs : d :: r <:+ l0) (hT : l0.length ≤ 900) (hc : ∀ c ∈ l0, c < 128) :
    dMeth N "_read_char" (dFn [0] (F_read_char N)) (dVar 0) dL0 (M1 i ci tok c) (hp mh dd t pb l0 rc (d :: r) L cs) = some (.str (ch1 d), hp mh dd t pb l0 rc r (L + nlc d) cs) := by
  have hh := hp_at (rc := rc) (l := d :: r) (L := L) (cs := cs) h
  simp [dMeth, dVar, List.lookup, hh.inst, hh.attrs, lexA_rc, dL0, rc_ev h hs hT hc]
theorem bQ_esc {d : Nat} {r tok : List Nat} {L : Int} {cs : Option Nat} {ci : Nat} (hs : d :: r <:+ l0) (hT : l0.length ≤ 900) (hc : ∀ c ∈ l0, c < 128) (hl : tok.length ≤ 5000) :
    bQ N (M1 i ci tok (ch1 92)) (hp mh dd t pb l0 rc (d :: r) L cs) = some (.next, M1 i ci (tok ++ [d]) (ch1 d), hp mh dd t pb l0 rc r (L + nlc d) cs) := by
  have hm := meth_rc (rc := rc) (c := ch1 92) (ci := ci) (tok := tok) (L := L) (cs := cs) h hs hT hc
  simp [bQ, dSeq, dIf, dTru, dOp2, dVar, dC, List.lookup, s_q, s_bs, ch_eq, tru, dRet, dNil, dAugV, dAsg, tok_add hl, upd, hm]
omit h in
theorem ws_ev {c : Nat} {mh : MH} (hc : c < 128) : oIn (.str (ch1 c)) (.str ("\n\t\r " : Str)) mh = some (.bool (isWs c), mh) := by
  have := occ_ws ⟨c, hc⟩
  simp only at this
  simp only [oIn]
  rw [this, Bool.not_not]
theorem bW_close {ci c : Nat} {tok l : List Nat} {L : Int} {cs : Option Nat} (hc : c < 128) (hw : isWs c = true) : bW N (M1 i ci tok (ch1 c)) (hp mh dd t pb l0 rc l L cs) = some (.ret (.str (txt tok)), M1 i ci tok (ch1 c), hp mh dd t pb l0 rc l L cs) := by
  have ha := attr_ev (hp_at (rc := rc) (l := l) (L := L) (cs := cs) h) lexA_ws
  simp [bW, dSeq, dIf, dTru, dOp2, dOp1, dVar, dC, List.lookup, ha, ws_ev hc, hw, tru, dRet]
theorem bW_plain {ci c : Nat} {tok l : List Nat} {L : Int} {cs : Option Nat} (hc : c < 128) (hw : isWs c = false) (h2 : c ≠ 92) (hl : tok.length ≤ 5000) :
    bW N (M1 i ci tok (ch1 c)) (hp mh dd t pb l0 rc l L cs) = some (.next, M1 i ci (tok ++ [c]) (ch1 c), hp mh dd t pb l0 rc l L cs) := by
  have ha := attr_ev (hp_at (rc := rc) (l := l) (L := L) (cs := cs) h) lexA_ws
  have e2 : (c == 92) = false := by simpa using h2
  simp [bW, dSeq, dIf, dTru, dOp2, dOp1, dVar, dC, List.lookup, ha, ws_ev hc, hw, s_bs, ch_eq hc, e2, tru, dRet, dNil, dAugV, dAsg, tok_add hl, upd]
theorem bW_esc {d : Nat} {r tok : List Nat} {L : Int} {cs : Option Nat} {ci : Nat} (hs : d :: r <:+ l0) (hT : l0.length ≤ 900) (hc : ∀ c ∈ l0, c < 128) (hl : tok.length ≤ 5000) :
    bW N (M1 i ci tok (ch1 92)) (hp mh dd t pb l0 rc (d :: r) L cs) = some (.next, M1 i ci (tok ++ [d]) (ch1 d), hp mh dd t pb l0 rc r (L + nlc d) cs) := by
  have ha := attr_ev (hp_at (rc := rc) (l := d :: r) (L := L) (cs := cs) h) lexA_ws
  have hm := meth_rc (rc := rc) (c := ch1 92) (ci := ci) (tok := tok) (L := L) (cs := cs) h hs hT hc
  simp [bW, dSeq, dIf, dTru, dOp2, dOp1, dVar, dC, List.lookup, ha, ws_ev, show isWs 92 = false from rfl, s_bs, ch_eq, tru, dRet, dNil, dAugV, dAsg, tok_add hl, upd, hm]
end

inductive LexQ : List Nat → List Nat → List Nat → List Nat → Prop where
  | close {r tok} : LexQ (34 :: r) tok tok r
  | esc {d r tok tok' r'} : LexQ r (tok ++ [d]) tok' r' → LexQ (92 :: d :: r) tok tok' r'
  | plain {c r tok tok' r'} : c ≠ 34 → c ≠ 92 → LexQ r (tok ++ [c]) tok' r' → LexQ (c :: r) tok tok' r'
inductive LexW : List Nat → List Nat → List Nat → List Nat → Bool → Prop where
  | eof {tok} : LexW [] tok tok [] true
  | close {c r tok} : isWs c = true → LexW (c :: r) tok tok r false
  | esc {d r tok tok' r' b} : LexW r (tok ++ [d]) tok' r' b → LexW (92 :: d :: r) tok tok' r' b
  | plain {c r tok tok' r' b} : isWs c = false → c ≠ 92 → LexW r (tok ++ [c]) tok' r' b → LexW (c :: r) tok tok' r' b
inductive LexT : List Nat → List Nat → List Nat → Prop where
  | eof : LexT [] [] []
  | ws {c r tok r'} : isWs c = true → LexT r tok r' → LexT (c :: r) tok r'
  | quote {r tok r'} : LexQ r [] tok r' → LexT (34 :: r) tok r'
  | esc {d r tok r' b} : LexW r [d] tok r' b → LexT (92 :: d :: r) tok r'
  | word {c r tok r' b} : isWs c = false → c ≠ 34 → c ≠ 92 → LexW r [c] tok r' b → LexT (c :: r) tok r'

section
variable {N rc : Addr} {mh : MH} {i dd t pb p0 : Nat} {l0 : List Nat} {L0 : Int} (h : LexAt N mh i dd t pb (txt l0) p0 L0) (hT : l0.length ≤ 900) (hc : ∀ c ∈ l0, c < 128)
include h hT hc
theorem suf1 {c : Nat} {r : List Nat} (hs : c :: r <:+ l0) : r <:+ l0 ∧ c < 128 := ⟨(List.suffix_cons c r).trans hs, hc c (hs.subset (by simp))⟩
theorem loopQ {l tok tok' l' : List Nat} (hx : LexQ l tok tok' l') : ∀ {L : Int} {n : Nat} {me : ME}, l.length < n → (∀ v, upd me 7 (.str v) = M1 i mh.length tok v) → l <:+ l0 → tok.length + l.length ≤ 2000 →
    l' <:+ l0 ∧ ∃ me', dForCLoop (dCNext rc (dFn [0] (F_read_char N)) mh.length) (tgV 7) (bQ N) n me (hp mh dd t pb l0 rc l L (some i)) = some (.ret (.str (txt tok')), me', hp mh dd t pb l0 rc l' (L + nls l - nls l') (some i)) := by
  induction hx with
  | @close r tok =>
    intro L n me hn hme hs hl
    cases n with
    | zero => lia
    | succ n =>
      obtain ⟨s1, c1⟩ := suf1 h hT hc hs
      refine ⟨s1, M1 i mh.length tok (ch1 34), ?_⟩
      simp only [dForCLoop, nx_ev h hs hT hc, tgV, hme, bQ_close]
      rw [nls_cons, show L + (nlc 34 + nls r) - nls r = L + nlc 34 by lia]
  | @esc d r tok tok' r' _ ih =>
    intro L n me hn hme hs hl
    cases n with
    | zero => lia
    | succ n =>
      obtain ⟨s1, c1⟩ := suf1 h hT hc hs
      obtain ⟨s2, c2⟩ := suf1 h hT hc s1
      simp only [List.length_cons] at hn hl
      obtain ⟨q, me', e⟩ := ih (L := L + nlc 92 + nlc d) (n := n) (me := M1 i mh.length (tok ++ [d]) (ch1 d)) (by lia) (fun v => rfl) s2 (by simp; lia)
      refine ⟨q, me', ?_⟩
      simp only [dForCLoop, nx_ev h hs hT hc, tgV, hme, bQ_esc h s1 hT hc (show tok.length ≤ 5000 by lia)]
      rw [e, nls_cons, nls_cons, show L + nlc 92 + nlc d + nls r - nls r' = L + (nlc 92 + (nlc d + nls r)) - nls r' by lia]
  | @plain c r tok tok' r' h1 h2 _ ih =>
    intro L n me hn hme hs hl
    cases n with
    | zero => lia
    | succ n =>
      obtain ⟨s1, c1⟩ := suf1 h hT hc hs
      simp only [List.length_cons] at hn hl
      obtain ⟨q, me', e⟩ := ih (L := L + nlc c) (n := n) (me := M1 i mh.length (tok ++ [c]) (ch1 c)) (by lia) (fun v => rfl) s1 (by simp; lia)
      refine ⟨q, me', ?_⟩
      simp only [dForCLoop, nx_ev h hs hT hc, tgV, hme, bQ_plain c1 h1 h2 (show tok.length ≤ 5000 by lia)]
      rw [e, nls_cons, show L + nlc c + nls r - nls r' = L + (nlc c + nls r) - nls r' by lia]
theorem loopW {l tok tok' l' : List Nat} {b : Bool} (hx : LexW l tok tok' l' b) : ∀ {L : Int} {n : Nat} {me : ME}, l.length < n → (∀ v, upd me 7 (.str v) = M1 i mh.length tok v) → me.lookup 8 = some (.str (txt tok)) → l <:+ l0 → tok.length + l.length ≤ 2000 →
    l' <:+ l0 ∧ (b = true → l' = []) ∧ ∃ me', me'.lookup 8 = some (.str (txt tok')) ∧ dForCLoop (dCNext rc (dFn [0] (F_read_char N)) mh.length) (tgV 7) (bW N) n me (hp mh dd t pb l0 rc l L (some i)) =
      some (if b then .next else .ret (.str (txt tok')), me', hp mh dd t pb l0 rc l' (L + nls l - nls l') (if b then none else some i)) := by
  induction hx with
  | @eof tok =>
    intro L n me hn hme hm8 hs hl
    cases n with
    | zero => lia
    | succ n =>
      refine ⟨hs, fun _ => rfl, me, hm8, ?_⟩
      simp only [dForCLoop, nx_ev0 h hT hc, if_true]
      rw [show L + nls [] - nls [] = L by lia]
  | @close c r tok hw =>
    intro L n me hn hme hm8 hs hl
    cases n with
    | zero => lia
    | succ n =>
      obtain ⟨s1, c1⟩ := suf1 h hT hc hs
      refine ⟨s1, (fun e => by cases e), M1 i mh.length tok (ch1 c), rfl, ?_⟩
      simp only [dForCLoop, nx_ev h hs hT hc, tgV, hme, bW_close h c1 hw]
      rw [nls_cons, show L + (nlc c + nls r) - nls r = L + nlc c by lia]
      rfl
  | @esc d r tok tok' r' b _ ih =>
    intro L n me hn hme hm8 hs hl
    cases n with
    | zero => lia
    | succ n =>
      obtain ⟨s1, c1⟩ := suf1 h hT hc hs
      obtain ⟨s2, c2⟩ := suf1 h hT hc s1
      simp only [List.length_cons] at hn hl
      obtain ⟨q, q2, me', m8, e⟩ := ih (L := L + nlc 92 + nlc d) (n := n) (me := M1 i mh.length (tok ++ [d]) (ch1 d)) (by lia) (fun v => rfl) rfl s2 (by simp; lia)
      refine ⟨q, q2, me', m8, ?_⟩
      simp only [dForCLoop, nx_ev h hs hT hc, tgV, hme, bW_esc h s1 hT hc (show tok.length ≤ 5000 by lia)]
      rw [e, nls_cons, nls_cons, show L + nlc 92 + nlc d + nls r - nls r' = L + (nlc 92 + (nlc d + nls r)) - nls r' by lia]
  | @plain c r tok tok' r' b h1 h2 _ ih =>
    intro L n me hn hme hm8 hs hl
    cases n with
    | zero => lia
    | succ n =>
      obtain ⟨s1, c1⟩ := suf1 h hT hc hs
      simp only [List.length_cons] at hn hl
      obtain ⟨q, q2, me', m8, e⟩ := ih (L := L + nlc c) (n := n) (me := M1 i mh.length (tok ++ [c]) (ch1 c)) (by lia) (fun v => rfl) rfl s1 (by simp; lia)
      refine ⟨q, q2, me', m8, ?_⟩
      simp only [dForCLoop, nx_ev h hs hT hc, tgV, hme, bW_plain h c1 h1 h2 (show tok.length ≤ 5000 by lia)]
      rw [e, nls_cons, show L + nlc c + nls r - nls r' = L + (nlc c + nls r) - nls r' by lia]

omit hT hc in
theorem isws_M {c ci : Nat} {tok l : List Nat} {L : Int} {cs : Option Nat} (c1 : c < 128) : dTru (dOp2 oIn (dVar 7) (dOp1 (oAttr N "whitespace") (dVar 0))) (M1 i ci tok (ch1 c)) (hp mh dd t pb l0 rc l L cs) = some (isWs c, hp mh dd t pb l0 rc l L cs) := by
  have ha := attr_ev (hp_at (rc := rc) (l := l) (L := L) (cs := cs) h) lexA_ws
  exact tr_b ((o2_e (me_dVar rfl) (o1_e (me_dVar rfl) ha)).trans (ws_ev c1))
omit h hT hc in
theorem iseq_M {c k ci : Nat} {tok : List Nat} {s : Str} {H : MH} (hs : s = ch1 k) (c1 : c < 128) (k1 : k < 128) : dTru (dOp2 oEq (dVar 7) (dC (.str s))) (M1 i ci tok (ch1 c)) H = some (c == k, H) := by
  rw [hs]
  exact tr_b ((o2_e (me_dVar rfl) rfl).trans (ch_eq c1 k1))
theorem loopT {l tok' l' : List Nat} (hx : LexT l tok' l') : ∀ {L : Int} {n : Nat} {me : ME}, l.length + 1 < n → (∀ v, upd me 7 (.str v) = M1 i mh.length [] v) → me.lookup 8 = some (.str (txt [])) → l <:+ l0 → l.length ≤ 900 →
    l' <:+ l0 ∧ ∃ me' fl cs, (fl = .ret (.str (txt tok')) ∨ (fl = .next ∧ me'.lookup 8 = some (.str (txt tok')))) ∧ dForCLoop (dCNext rc (dFn [0] (F_read_char N)) mh.length) (tgV 7) (bT N rc) n me (hp mh dd t pb l0 rc l L (some i)) =
      some (fl, me', hp mh dd t pb l0 rc l' (L + nls l - nls l') cs) := by
  induction hx with
  | eof =>
    intro L n me hn hme hm8 hs hl
    cases n with
    | zero => lia
    | succ n =>
      refine ⟨hs, me, .next, none, .inr ⟨rfl, hm8⟩, ?_⟩
      simp only [dForCLoop, nx_ev0 h hT hc]
      rw [show L + nls [] - nls [] = L by lia]
  | @ws c r tok' r' hw _ ih =>
    intro L n me hn hme hm8 hs hl
    cases n with
    | zero => lia
    | succ n =>
      obtain ⟨s1, c1⟩ := suf1 h hT hc hs
      simp only [List.length_cons] at hn hl
      obtain ⟨q, me', fl, cs, hfl, e⟩ := ih (L := L + nlc c) (n := n) (me := M1 i mh.length [] (ch1 c)) (by lia) (fun v => rfl) rfl s1 (by lia)
      refine ⟨q, me', fl, cs, hfl, ?_⟩
      have hb : bT N rc (M1 i mh.length [] (ch1 c)) (hp mh dd t pb l0 rc r (L + nlc c) (some i)) = some (.cont, M1 i mh.length [] (ch1 c), hp mh dd t pb l0 rc r (L + nlc c) (some i)) :=
        sq_c ((if_t (isws_M h c1) hw).trans rfl)
      simp only [dForCLoop, nx_ev h hs hT hc, tgV, hme, hb]
      rw [e, nls_cons, show L + nlc c + nls r - nls r' = L + (nlc c + nls r) - nls r' by lia]
  | @quote r tok' r' hq =>
    intro L n me hn hme hm8 hs hl
    cases n with
    | zero => lia
    | succ n =>
      obtain ⟨s1, c1⟩ := suf1 h hT hc hs
      simp only [List.length_cons] at hn hl
      obtain ⟨q, me', e⟩ := loopQ (rc := rc) h hT hc hq (L := L + nlc 34) (n := 1000) (me := M1 i mh.length [] (ch1 34)) (by lia) (fun v => rfl) s1 (by simp; lia)
      refine ⟨q, me', .ret (.str (txt tok')), some i, .inl rfl, ?_⟩
      have hb : bT N rc (M1 i mh.length [] (ch1 34)) (hp mh dd t pb l0 rc r (L + nlc 34) (some i)) = some (.ret (.str (txt tok')), me', hp mh dd t pb l0 rc r' (L + nlc 34 + nls r - nls r') (some i)) := by
        exact (sq_n ((if_n (isws_M h c1) rfl).trans rfl)).trans (sq_nil ((if_t (iseq_M s_q c1 (by decide)) rfl).trans (sq_nil ((forC_e rfl hp_ci).trans e))))
      simp only [dForCLoop, nx_ev h hs hT hc, tgV, hme, hb]
      rw [nls_cons, show L + nlc 34 + nls r - nls r' = L + (nlc 34 + nls r) - nls r' by lia]
  | @esc d r tok' r' b hw =>
    intro L n me hn hme hm8 hs hl
    cases n with
    | zero => lia
    | succ n =>
      obtain ⟨s1, c1⟩ := suf1 h hT hc hs
      obtain ⟨s2, c2⟩ := suf1 h hT hc s1
      simp only [List.length_cons] at hn hl
      obtain ⟨q, q2, me', m8, e⟩ := loopW (rc := rc) h hT hc hw (L := L + nlc 92 + nlc d) (n := 1000) (me := M1 i mh.length [d] (ch1 d)) (by lia) (fun v => rfl) rfl s2 (by simp; lia)
      have hm := meth_rc (rc := rc) (c := ch1 92) (ci := mh.length) (tok := []) (L := L + nlc 92) (cs := some i) h s1 hT hc
      have hta := tok_add (tok := []) (c := d) (mh := hp mh dd t pb l0 rc r (L + nlc 92 + nlc d) (some i)) (by simp)
      have hta' : oIAdd (.str (txt [])) (.str (ch1 d)) (hp mh dd t pb l0 rc r (L + nlc 92 + nlc d) (some i)) = some (.str (txt [d]), hp mh dd t pb l0 rc r (L + nlc 92 + nlc d) (some i)) := hta
      have hb : bT N rc (M1 i mh.length [] (ch1 92)) (hp mh dd t pb l0 rc (d :: r) (L + nlc 92) (some i)) = some (if b then .next else .ret (.str (txt tok')), me', hp mh dd t pb l0 rc r' (L + nlc 92 + nlc d + nls r - nls r') (if b then none else some i)) := by
        refine (sq_n ((if_n (isws_M h c1) rfl).trans rfl)).trans (sq_nil ((if_n (iseq_M s_q c1 (by decide)) rfl).trans ((sq_n ((if_t (iseq_M s_bs c1 (by decide)) rfl).trans (sq_nil (asg_e hm)))).trans ((sq_n (asg_e ((o2_e (me_dVar rfl) (me_dVar rfl)).trans hta'))).trans (sq_nil ((forC_e rfl hp_ci).trans (e.trans ?_)))))))
        cases b <;> rfl
      cases b with
      | false =>
        refine ⟨q, me', .ret (.str (txt tok')), some i, .inl rfl, ?_⟩
        simp only [dForCLoop, nx_ev h hs hT hc, tgV, hme, hb, Bool.false_eq_true, if_false]
        rw [nls_cons, nls_cons, show L + nlc 92 + nlc d + nls r - nls r' = L + (nlc 92 + (nlc d + nls r)) - nls r' by lia]
      | true =>
        refine ⟨q, me', .next, none, .inr ⟨rfl, m8⟩, ?_⟩
        simp only [dForCLoop, nx_ev h hs hT hc, tgV, hme, hb, if_true]
        cases n with
        | zero => lia
        | succ n =>
          simp only [dForCLoop, nx_dead]
          rw [nls_cons, nls_cons, show L + nlc 92 + nlc d + nls r - nls r' = L + (nlc 92 + (nlc d + nls r)) - nls r' by lia]
  | @word c r tok' r' b h1 h2 h3 hw =>
    intro L n me hn hme hm8 hs hl
    cases n with
    | zero => lia
    | succ n =>
      obtain ⟨s1, c1⟩ := suf1 h hT hc hs
      simp only [List.length_cons] at hn hl
      obtain ⟨q, q2, me', m8, e⟩ := loopW (rc := rc) h hT hc hw (L := L + nlc c) (n := 1000) (me := M1 i mh.length [c] (ch1 c)) (by lia) (fun v => rfl) rfl s1 (by simp; lia)
      have hta' : oIAdd (.str (txt [])) (.str (ch1 c)) (hp mh dd t pb l0 rc r (L + nlc c) (some i)) = some (.str (txt [c]), hp mh dd t pb l0 rc r (L + nlc c) (some i)) := tok_add (tok := []) (by simp)
      have e1 : (c == 34) = false := by simpa using h2
      have e2 : (c == 92) = false := by simpa using h3
      have hb : bT N rc (M1 i mh.length [] (ch1 c)) (hp mh dd t pb l0 rc r (L + nlc c) (some i)) = some (if b then .next else .ret (.str (txt tok')), me', hp mh dd t pb l0 rc r' (L + nlc c + nls r - nls r') (if b then none else some i)) := by
        refine (sq_n ((if_n (isws_M h c1) h1).trans rfl)).trans (sq_nil ((if_n (iseq_M s_q c1 (by decide)) e1).trans ((sq_n ((if_n (iseq_M s_bs c1 (by decide)) e2).trans rfl)).trans ((sq_n (asg_e (me := M1 i mh.length [] (ch1 c)) ((o2_e (me_dVar rfl) (me_dVar rfl)).trans hta'))).trans (sq_nil ((forC_e rfl hp_ci).trans (e.trans ?_)))))))
        cases b <;> rfl
      cases b with
      | false =>
        refine ⟨q, me', .ret (.str (txt tok')), some i, .inl rfl, ?_⟩
        simp only [dForCLoop, nx_ev h hs hT hc, tgV, hme, hb, Bool.false_eq_true, if_false]
        rw [nls_cons, show L + nlc c + nls r - nls r' = L + (nlc c + nls r) - nls r' by lia]
      | true =>
        refine ⟨q, me', .next, none, .inr ⟨rfl, m8⟩, ?_⟩
        simp only [dForCLoop, nx_ev h hs hT hc, tgV, hme, hb, if_true]
        cases n with
        | zero => lia
        | succ n =>
          simp only [dForCLoop, nx_dead]
          rw [nls_cons, show L + nlc c + nls r - nls r' = L + (nlc c + nls r) - nls r' by lia]
end

theorem get_token_ev {N rc : Addr} {mh : MH} {i dd t pb : Nat} {l0 l tok l' : List Nat} {L : Int} (h : LexAt N mh i dd t pb (txt l0) (l0.length - l.length) L) (hT : l0.length ≤ 900) (hc : ∀ c ∈ l0, c < 128) (hs : l <:+ l0)
    (hpb : mh[pb]? = some (.list [])) (hx : LexT l tok l') :
    l' <:+ l0 ∧ ∃ cs, dFn [0] (F_get_token N rc) [.ref i] mh = some (.str (txt tok), lexSet mh dd t pb (txt l0) (l0.length - l'.length) (L + nls l - nls l') ++ [.citer rc cs]) := by
  have hlen := hs.length_le
  obtain ⟨q, me', fl, cs, hfl, e⟩ := loopT (rc := rc) h hT hc hx (L := L) (n := 1000) (me := [(0, .ref i), (8, .str (txt [])), (9, .ref mh.length)]) (by lia) (fun v => rfl) rfl hs (by lia)
  have e0 : hp mh dd t pb l0 rc l L (some i) = mh ++ [.citer rc (some i)] := by unfold hp; rw [h.same]
  rw [e0] at e
  have ha := attr_ev h lexA_pb
  refine ⟨q, cs, ?_⟩
  rw [get_token_eq]
  simp only [dFn, List.length_cons, List.length_nil, if_true, zipE, dSeq, dIf, dTru, dOp1, dVar, List.lookup, beq_self_eq_true, ha, tru, hpb, List.isEmpty_nil, Bool.not_true, Bool.false_eq_true, if_false, dNil, dAsg, dC, s_nil, upd,
    show ((0 : Nat) == 8) = false from rfl, show ((0 : Nat) == 9) = false from rfl, show ((8 : Nat) == 9) = false from rfl, show ((9 : Nat) == 0) = false from rfl, show ((9 : Nat) == 8) = false from rfl, dIter, h.inst, h.attrs, lexA_rc, dForC, List.getElem?_concat_length, e, show (0 : Nat) < 1000000000 by decide]
  rcases hfl with rfl | ⟨rfl, m8⟩
  · rfl
  · simp only [dRet, dVar, m8]
    rfl
theorem get_token_pb {N rc : Addr} {mh : MH} {i dd t pb : Nat} {T : Str} {p : Nat} {L : Int} (h : LexAt N mh i dd t pb T p L) {v : MV} {vs : List MV} (hpb : mh[pb]? = some (.list (v :: vs))) (hl : vs.length < 1000) :
    dFn [0] (F_get_token N rc) [.ref i] mh = some (v, mh.set pb (.list vs)) := by
  have ha := attr_ev h lexA_pb
  have h1 : Builtin.List.listFitsIndex 0 = true := by decide
  have h2 : seqIndex? 0 (vs.length + 1) = some 0 := by simp [seqIndex?]
  have h3 : vs.length + 1 < 1000000000 := by lia
  have h4 : vs.length + 1 ≤ 100000 := by lia
  rw [get_token_eq]
  simp [dFn, zipE, dSeq, dIf, dTru, dOp1, dVar, List.lookup, ha, tru, hpb, h3, dRet, dBMeth, selList, dL1, dL0, dC, fLpop, h1, h2, h4]
theorem push_token_ev {N : Addr} {mh : MH} {i dd t pb : Nat} {T : Str} {p : Nat} {L : Int} (h : LexAt N mh i dd t pb T p L) {v : MV} {vs : List MV} (hpb : mh[pb]? = some (.list vs)) (hl : vs.length < 1000) :
    dFn [0, 8] (F_push_token N) [.ref i, v] mh = some (.none, mh.set pb (.list (vs ++ [v]))) := by
  have ha := attr_ev h lexA_pb
  have h4 : vs.length ≤ 100000 := by lia
  simp [dFn, F_push_token, zipE, dSeq, dExprN, dOp1, dVar, List.lookup, ha, hpb, dBMeth, selList, dL1, dL0, fAppend, h4, dNil]
end Mine

namespace Mine

theorem seq_asg {x : Nat} {f : D} {g : DS} {me : ME} {mh mh1 : MH} {v : MV} (h : f me mh = some (v, mh1)) : dSeq (dAsg x f) g me mh = g (upd me x v) mh1 := by simp [dSeq, dAsg, h]
theorem seq_next {s g : DS} {me me1 : ME} {mh mh1 : MH} (h : s me mh = some (.next, me1, mh1)) : dSeq s g me mh = g me1 mh1 := by simp [dSeq, h]
theorem seq_if_f {c : DB} {f g k : DS} {me : ME} {mh mh1 : MH} (h : c me mh = some (false, mh1)) : dSeq (dIf c f dNil) k me mh = k me mh1 := by simp [dSeq, dIf, h, dNil]
theorem seq_ret {f : D} {g : DS} {me : ME} {mh mh1 : MH} {v : MV} (h : f me mh = some (v, mh1)) : dSeq (dRet f) g me mh = some (.ret v, me, mh1) := by simp [dSeq, dRet, h]
theorem l1 {f : D} {g : DL} {me : ME} {mh mh1 mh2 : MH} {v : MV} {vs : List MV} (h : f me mh = some (v, mh1)) (h2 : g me mh1 = some (vs, mh2)) : dL1 f g me mh = some (v :: vs, mh2) := by simp [dL1, h, h2]
theorem call_ev {den : DF} {g : DL} {me : ME} {mh mh1 : MH} {vs : List MV} (h : g me mh = some (vs, mh1)) : dCall den g me mh = den vs mh1 := by simp [dCall, h]
theorem op2_ev {o : Op2} {f g : D} {me : ME} {mh mh1 mh2 : MH} {a b : MV} (h : f me mh = some (a, mh1)) (h2 : g me mh1 = some (b, mh2)) : dOp2 o f g me mh = o a b mh2 := by simp [dOp2, h, h2]
theorem tru_bool {f : D} {me : ME} {mh mh1 : MH} {b : Bool} (h : f me mh = some (.bool b, mh1)) : dTru f me mh = some (b, mh1) := by simp [dTru, h, tru]

theorem str_app (a b : List Nat) : (txt a : Str) ++ (txt b : Str) = txt (a ++ b) := by
  show (⟨a.toArray ++ b.toArray⟩ : Str) = ⟨(a ++ b).toArray⟩
  simp
theorem join_flat : ∀ ls : List (List Nat), Txt.join (txt []) (ls.map txt) = txt ls.flatten := by
  intro ls
  show Builtin.Str.glued _ _ = _
  rw [StrLaws.glued_eq_join]
  induction ls with
  | nil => rfl
  | cons x r ih =>
    cases r with
    | nil => simp [Str.join]
    | cons y r =>
      show txt x ++ txt [] ++ Str.join (txt []) ((y :: r).map txt) = _
      rw [ih, str_app, str_app]
      simp
theorem join_ok {ls : List (List Nat)} (h : ls.flatten.length ≤ 1000) : JoinOk (txt []) (ls.map txt) = true := by
  unfold JoinOk
  rw [StrLaws.joinTotal]
  have e : ((ls.map txt).map (·.length)).sum = ls.flatten.length := by
    clear h
    induction ls with
    | nil => rfl
    | cons x r ih => simp [txt_len] at ih ⊢; exact ih
  rw [e]
  have hz : (txt []).length = 0 := rfl
  rw [hz]
  have hs : sizeLine = 16777216 := rfl
  generalize ls.flatten.length = n at h ⊢
  simp [Builtin.Str.tooLong, hs]
  lia
theorem oAdd_str {a b : List Nat} {mh : MH} (h : a.length + b.length ≤ 1000) : oAdd (.str (txt a)) (.str (txt b)) mh = some (.str (txt (a ++ b)), mh) := by
  have hs : sizeLine = 16777216 := rfl
  simp only [oAdd]
  rw [if_pos (by rw [txt_len, txt_len, hs]; lia), str_app]
theorem cnt_count (c : Nat) (l : List Nat) : cnt c l = (l.count c : Nat) := by
  induction l with
  | nil => rfl
  | cons x r ih =>
    rw [cnt_cons, ih, List.count_cons]
    by_cases e : x = c
    · subst e; simp; lia
    · simp [e]
theorem count_ev {l : List Nat} {mh : MH} : fCount [.str (txt l), .str ("\n" : Str)] mh = some (.int (nls l), mh) := by
  simp only [fCount, s_nl]
  rw [count_cnt, cnt_count]
  rfl

noncomputable def accA : List (Str × MV) := [(("_initial_size" : Str), .int 0)]
theorem makeA_ev {A : Addr} {mh : MH} : fMakeL A (fInitAcc A) [] mh = some (.ref (mh.length + 1), mh ++ [.attrs accA, .inst A mh.length (some [])]) := by
  have h1 : (mh ++ [MO.attrs [], MO.inst A mh.length (some [])])[mh.length + 1]? = some (MO.inst A mh.length (some [])) := by
    rw [List.getElem?_append_right (Nat.le_succ _)]; simp
  have h2 : (mh ++ [MO.attrs [], MO.inst A mh.length (some [])])[mh.length]? = some (MO.attrs []) := by
    rw [List.getElem?_append_right (Nat.le_refl _)]; simp
  have h3 : mh.length ≠ mh.length + 1 := by lia
  have h4 : (mh ++ [MO.attrs [], MO.inst A mh.length (some [])]).set mh.length (.attrs accA) = mh ++ [.attrs accA, .inst A mh.length (some [])] := by
    rw [List.set_append_right _ _ (Nat.le_refl _)]; simp
  have h5 : updA [] ("_initial_size" : Str) (.int 0) = accA := rfl
  simp only [fMakeL, fInitAcc, h1, setAttrD, h2, if_true, List.length_nil, Nat.zero_le, h5, h4, ne_eq, h3, not_false_eq_true]
theorem accA_ap : accA.lookup ("append" : Str) = none := by kernel_rfl
theorem accA_push : accA.lookup ("push" : Str) = none := by kernel_rfl
theorem accA_pc : accA.lookup ("part_count" : Str) = none := by kernel_rfl
theorem accA_pf : accA.lookup ("pop_from" : Str) = none := by kernel_rfl
theorem accA_is : accA.lookup ("_initial_size" : Str) = some (.int 0) := by kernel_rfl
theorem push_ev {A : Addr} {mh : MH} {i dd : Nat} {vs : List MV} {a b : MV} (hi : mh[i]? = some (.inst A dd (some vs))) (hd : mh[dd]? = some (.attrs accA)) (hl : vs.length ≤ 1000) :
    dFn [0, 2, 3] (F_push A) [.ref i, a, b] mh = some (.none, mh.set i (.inst A dd (some (vs ++ [.tup [a, b]])))) := by
  have h1 : vs.length ≤ 100000 := by lia
  simp [dFn, F_push, zipE, dSeq, dExprN, dBMeth, dVar, List.lookup, selInst, hi, hd, accA_ap, dL1, dL0, dTup, fAppendI, h1, isAttrs, dNil]
noncomputable def rowM (ab : List Nat × List Nat) : MV := .tup [.str (txt ab.1), .str (txt ab.2)]
theorem rowsOf_map (rows : List (List Nat × List Nat)) : rowsOf (rows.map rowM) = some (rows.map fun ab => (txt ab.1, txt ab.2)) := by
  induction rows with
  | nil => rfl
  | cons x r ih => simp [rowsOf, rowM] at ih ⊢; rw [ih]
noncomputable def rowsT (rows : List (List Nat × List Nat)) : List Nat := (rows.map fun ab => ab.1 ++ ab.2).flatten
theorem strRows_ev (rows : List (List Nat × List Nat)) : strRows (rows.map fun ab => (txt ab.1, txt ab.2)) = txt (rowsT rows) := by
  unfold strRows rowsT
  rw [← join_flat]
  congr 1
  simp only [List.map_map]
  apply List.map_congr_left
  intro ab _
  show txtJ (txt ab.1) (txt ab.2) = txt (ab.1 ++ ab.2)
  have := join_flat [ab.1, ab.2]
  simpa [txtJ] using this
theorem row_le {rows : List (List Nat × List Nat)} {ab : List Nat × List Nat} (h : ab ∈ rows) : ab.1.length + ab.2.length ≤ (rowsT rows).length := by
  induction rows with
  | nil => cases h
  | cons x r ih =>
    simp only [rowsT, List.map_cons, List.flatten_cons, List.length_append] at ih ⊢
    rcases List.mem_cons.mp h with rfl | h
    · lia
    · have := ih h
      lia
theorem astr_ev {A : Addr} {mh : MH} {i dd : Nat} {rows : List (List Nat × List Nat)} (hi : mh[i]? = some (.inst A dd (some (rows.map rowM)))) (hd : mh[dd]? = some (.attrs accA)) (hl : rows.length ≤ 1000) (hT : (rowsT rows).length ≤ 1000) :
    fStrI A (dFn [0] (F_astr A)) [.ref i] mh = some (.str (txt (rowsT rows)), mh) := by
  have h1 : rows.length ≤ 100000 := by lia
  have h2 : ((rows.map fun ab => (txt ab.1, txt ab.2)).all fun ab => decide (ab.1.length + ab.2.length ≤ 16777216)) = true := by
    simp only [List.all_map, List.all_eq_true, Function.comp, decide_eq_true_eq]
    intro ab hab
    have := row_le hab
    rw [txt_len, txt_len]; lia
  have h3 : JoinOk ⟨#[]⟩ ((rows.map fun ab => (txt ab.1, txt ab.2)).map fun ab => txtJ ab.1 ab.2) = true := by
    have := join_ok (ls := rows.map fun ab : List Nat × List Nat => ab.1 ++ ab.2) hT
    rw [List.map_map] at this
    rw [List.map_map]
    have e : (fun ab => txtJ ab.1 ab.2) ∘ (fun ab : List Nat × List Nat => (txt ab.1, txt ab.2)) = txt ∘ fun ab => ab.1 ++ ab.2 := by
      funext ab
      have := join_flat [ab.1, ab.2]
      simpa [txtJ] using this
    rw [e]; exact this
  simp only [fStrI, hi, isAttrs, hd, and_self, if_true, dFn, F_astr, List.length_cons, List.length_nil, zipE, dSeq, dRet, dStrAcc, List.lookup, beq_self_eq_true, rowsOf_map, List.length_map, h1, h2, h3, strRows_ev]
theorem lenRows_ev (rows : List (List Nat × List Nat)) : lenRows (rows.map fun ab => (txt ab.1, txt ab.2)) = ((rowsT rows).length : Nat) := by
  unfold lenRows rowsT
  induction rows with
  | nil => rfl
  | cons x r ih =>
    simp only [List.map_cons, List.sum_cons, List.flatten_cons, List.length_append] at ih ⊢
    rw [ih, txt_len, txt_len]
    lia
theorem alen_ev {A : Addr} {mh : MH} {i dd : Nat} {rows : List (List Nat × List Nat)} (hi : mh[i]? = some (.inst A dd (some (rows.map rowM)))) (hd : mh[dd]? = some (.attrs accA)) (hl : rows.length ≤ 1000) (hT : (rowsT rows).length ≤ 1000) :
    fLenX A (dFn [0] (F_alen A)) [.ref i] mh = some (.int ((rowsT rows).length : Nat), mh) := by
  have h1 : rows.length ≤ 100000 := by lia
  have hs : sizeLine = 16777216 := rfl
  have h2 : ((rows.map fun ab => (txt ab.1, txt ab.2)).all fun ab => decide (ab.1.length ≤ sizeLine) && decide (ab.2.length ≤ sizeLine)) = true := by
    rw [List.all_map, List.all_eq_true]
    intro ab hab
    simp only [Function.comp, decide_eq_true_eq, Bool.and_eq_true, hs]
    have := row_le hab
    rw [txt_len, txt_len]; lia
  have h3 : (0 : Int) ≤ ((rowsT rows).length : Nat) ∧ (((rowsT rows).length : Nat) : Int) < 1000000000 := by lia
  simp only [fLenX, hi, isAttrs, hd, and_self, if_true, dFn, F_alen, List.length_cons, List.length_nil, zipE, dSeq, dRet, dLenAcc, List.lookup, beq_self_eq_true, rowsOf_map, accA_is, List.length_map, h1, h2, lenRows_ev, h3]

theorem setAttr_ev {N : Addr} {mh r : MH} {l : List (Str × MV)} {it : Option (List MV)} {name : Str} {v : MV} (hl : l.length ≤ 100) :
    setAttrD N name (.ref (mh.length + 1)) v (mh ++ .attrs l :: .inst N mh.length it :: r) = some (mh ++ .attrs (updA l name v) :: .inst N mh.length it :: r) := by
  have h1 : (mh ++ MO.attrs l :: MO.inst N mh.length it :: r)[mh.length + 1]? = some (MO.inst N mh.length it) := by
    rw [List.getElem?_append_right (Nat.le_succ _)]; simp
  have h2 : (mh ++ MO.attrs l :: MO.inst N mh.length it :: r)[mh.length]? = some (MO.attrs l) := by
    rw [List.getElem?_append_right (Nat.le_refl _)]; simp
  have h4 : ∀ b, (mh ++ MO.attrs l :: MO.inst N mh.length it :: r).set mh.length b = mh ++ b :: MO.inst N mh.length it :: r := fun b => by
    rw [List.set_append_right _ _ (Nat.le_refl _)]; simp
  simp [setAttrD, h1, h2, h4, hl]
theorem lexer_ev {N : Addr} {mh : MH} {x : Str} {t : Nat} : fLexer (fMakeP N (dFn [0, 6] (F_ninit N))) [.str x, .ref t] mh = some (.ref (mh.length + 1), mh ++ [.attrs (lexA x t (mh.length + 2) 1), .inst N mh.length none, .list []]) := by
  have u4 : ∀ p, updA (updA (updA (updA [] ("lineno" : Str) (.int 1)) ("instream" : Str) (.strm x t)) ("whitespace" : Str) (.str ("\n\t\r " : Str))) ("pushback" : Str) (.ref p) = lexA x t p 1 := fun p => by kernel_rfl
  have l1 : (updA [] ("lineno" : Str) (.int 1)).length ≤ 100 := by decide
  have l2 : (updA (updA [] ("lineno" : Str) (.int 1)) ("instream" : Str) (.strm x t)).length ≤ 100 := Nat.le_trans upd_len (by decide)
  have l3 : (updA (updA (updA [] ("lineno" : Str) (.int 1)) ("instream" : Str) (.strm x t)) ("whitespace" : Str) (.str ("\n\t\r " : Str))).length ≤ 100 := Nat.le_trans upd_len (Nat.le_trans (Nat.succ_le_succ upd_len) (by decide))
  have e : ∀ a b : MO, (mh ++ [a, b]) ++ [MO.list []] = mh ++ a :: b :: [.list []] := fun a b => by simp
  have hl : ∀ a b : MO, (mh ++ [a, b]).length = mh.length + 2 := fun a b => by simp
  simp only [fLexer, fMakeP, dFn, F_ninit, List.length_cons, List.length_nil, if_true, zipE, dSeq, dAsgAttr, dC, dVar, List.lookup, beq_self_eq_true, show ((6 : Nat) == 0) = false from rfl, setAttr_ev (r := []) (l := []) (by simp), setAttr_ev (r := []) l1, setAttr_ev (r := []) l2,
    dLstM, dL0, List.length_nil, Nat.zero_le, e, hl, setAttr_ev (r := [.list []]) l3, u4, dNil]

theorem fLen_lst {vs : List MV} {mh : MH} (h : vs.length ≤ 1000) : fLen [.lst vs] mh = some (.int vs.length, mh) := by
  have h1 : vs.length < 1000000 := by omega
  simp only [fLen, h1, if_true]
theorem it_rng {a b : Int} {mh : MH} (h : -1000 < a ∧ a < 1000 ∧ -1000 < b ∧ b < 1000) : itOf none (.rng a b) mh = some (.rng a b) := by
  have h2 : -1000000000 < a ∧ a < 1000000000 ∧ -1000000000 < b ∧ b < 1000000000 := by omega
  simp only [itOf, h2, and_self, if_true]
theorem for_rng {n : Nat} {g : DL} {tg : Tg} {f : DS} {me : ME} {mh mh1 : MH} {a b : Int} (hg : dCall fRange g me mh = some (.rng a b, mh1)) (h : -1000 < a ∧ a < 1000 ∧ -1000 < b ∧ b < 1000) :
    dFor none n (dCall fRange g) tg f me mh = dForLoop tg f (.rng a b) n 0 me mh1 := by
  simp only [dFor, hg, it_rng h]

theorem lookup_dropV' {own : List Nat} {x : Nat} (h : x ∉ own) : ∀ me : ME, (dropV own me).lookup x = me.lookup x
  | [] => rfl
  | (y, v) :: r => by
    unfold dropV
    rw [List.filter_cons]
    have ih := lookup_dropV' h r
    unfold dropV at ih
    by_cases e : x = y
    · subst e
      have : own.contains x = false := by simpa using h
      simp only [this, Bool.not_false, if_true, List.lookup_cons, beq_self_eq_true]
    · have hb : (x == y) = false := by simpa using e
      split
      · simp only [List.lookup_cons, hb]; exact ih
      · simp only [List.lookup_cons, hb]; exact ih
noncomputable def Sees (xs : List Nat) (me me1 : ME) : Prop := ∀ y, y ∉ xs → me1.lookup y = me.lookup y
theorem Sees.refl (xs : List Nat) (me : ME) : Sees xs me me := fun _ _ => rfl
theorem Sees.drop {xs own : List Nat} (me : ME) (h : ∀ x ∈ own, x ∈ xs) : Sees xs me (dropV own me) := fun y hy => lookup_dropV' (fun hm => hy (h y hm)) me
theorem Sees.upd {xs : List Nat} {me me1 : ME} (h : Sees xs me me1) {x : Nat} {v : MV} (hx : x ∈ xs) : Sees xs me (upd me1 x v) := fun y hy => by
  rw [lookup_upd]
  have : y ≠ x := fun e => hy (e ▸ hx)
  simp [this, h y hy]
theorem lk_self {me : ME} {x : Nat} {v : MV} : (upd me x v).lookup x = some v := by rw [lookup_upd]; simp
theorem lk_ne {me : ME} {x y : Nat} {v : MV} (h : y ≠ x) : (upd me x v).lookup y = me.lookup y := by rw [lookup_upd]; simp [h]

theorem compLoop_pure {tg : Tg} {cond : DB} {elt : D} {k : ItK} {mh : MH} {items : List MV} (hk : ∀ j, nextOf k mh j = some items[j]?) (sel : MV → Bool) (val : MV → MV) (P : ME → Prop)
    (hturn : ∀ (j : Nat) (it : MV) (me : ME), items[j]? = some it → P me → ∃ me1, tg me mh it = some me1 ∧ P me1 ∧ cond me1 mh = some (sel it, mh) ∧ (sel it = true → elt me1 mh = some (val it, mh))) :
    ∀ (n j : Nat) (acc : List MV) (me : ME), items.length - j < n → P me → items.length ≤ 1000 → j ≤ items.length → acc.length ≤ j →
      ∃ me', P me' ∧ dCompLoop tg cond (aEmit elt) k n j acc me mh = some (acc ++ ((items.drop j).filter sel).map val, me', mh) := by
  intro n
  induction n with
  | zero => intro j acc me h; lia
  | succ n ih =>
    intro j acc me hn hP hl hj ha
    by_cases hj' : j < items.length
    · have hx : items[j]? = some items[j] := List.getElem?_eq_getElem hj'
      obtain ⟨me1, t1, p1, c1, e1⟩ := hturn j _ me hx hP
      have hd : items.drop j = items[j] :: items.drop (j + 1) := List.drop_eq_getElem_cons hj'
      cases hs : sel items[j] with
      | false =>
        obtain ⟨me', p', e⟩ := ih (j + 1) acc me1 (by lia) p1 hl hj' (by lia)
        refine ⟨me', p', ?_⟩
        simp only [dCompLoop, hk, hx, t1, c1, hs, e]
        rw [hd, List.filter_cons_of_neg (by simp [hs])]
      | true =>
        have hA : acc.length ≤ 100000 := by lia
        obtain ⟨me', p', e⟩ := ih (j + 1) (acc ++ [val items[j]]) me1 (by lia) p1 hl hj' (by simp; lia)
        refine ⟨me', p', ?_⟩
        simp only [dCompLoop, hk, hx, t1, c1, hs, aEmit, e1 hs, hA, if_true, e]
        rw [hd, List.filter_cons_of_pos hs]
        simp
    · have hx : items[j]? = none := List.getElem?_eq_none (by lia)
      refine ⟨me, hP, ?_⟩
      simp only [dCompLoop, hk, hx]
      rw [List.drop_eq_nil_of_le (by lia)]
      simp
theorem comp_pure {own : List Nat} {c0 : Option Addr} {it : D} {tg : Tg} {cond : DB} {elt : D} {me : ME} {mh mh0 : MH} {v : MV} {k : ItK} {items : List MV} (hi : it me mh0 = some (v, mh)) (hit : itOf c0 v mh = some k) (hk : ∀ j, nextOf k mh j = some items[j]?)
    (sel : MV → Bool) (val : MV → MV) (P : ME → Prop) (h0 : P (dropV own me)) (hl : items.length ≤ 1000) {N : Nat} (hN : items.length < N)
    (hturn : ∀ (j : Nat) (it : MV) (me : ME), items[j]? = some it → P me → ∃ me1, tg me mh it = some me1 ∧ P me1 ∧ cond me1 mh = some (sel it, mh) ∧ (sel it = true → elt me1 mh = some (val it, mh))) :
    dComp own c0 N it tg cond (aEmit elt) me mh0 = some (.lst ((items.filter sel).map val), mh) := by
  obtain ⟨me', _, e⟩ := compLoop_pure hk sel val P hturn N 0 [] (dropV own me) (by omega) h0 hl (by omega) (by simp)
  simp only [dComp, hi, hit, e, List.nil_append, List.drop_zero]
noncomputable def rngI (n : Nat) : List MV := (List.range n).map fun k : Nat => .int (k : Int)
theorem nx_rng {n : Nat} {mh : MH} (j : Nat) : nextOf (.rng 0 (n : Int)) mh j = some (rngI n)[j]? := by
  simp only [nextOf, rngI, Int.zero_add, List.getElem?_map]
  by_cases h : j < n
  · rw [if_pos (by lia), List.getElem?_range h]; rfl
  · rw [if_neg (by lia), List.getElem?_eq_none (by simp; lia)]; rfl
theorem rngI_len (n : Nat) : (rngI n).length = n := by simp [rngI]
theorem rngI_get {n j : Nat} {it : MV} (h : (rngI n)[j]? = some it) : j < n ∧ it = .int (j : Int) := by
  have hj : j < n := by have := (List.getElem?_eq_some_iff.mp h).1; simpa [rngI] using this
  refine ⟨hj, ?_⟩
  simp [rngI, hj] at h
  exact h.symm
end Mine

namespace Mine

structure Good (v : MV) (D : PyData) (k : Nat) : Prop where
  d : toD v = some D
  lay : D.canLay0 = true
  dep : D.depth ≤ k
structure GoodL (vs : List MV) (Ds : List PyData) (k : Nat) : Prop where
  d : toDs vs = some Ds
  lay : PyData.canLayAll0 Ds = true
  dep : PyData.depthAll Ds ≤ k
theorem strOk_txt {l : List Nat} (h : ∀ c ∈ l, c < 128) : PyData.strOk (txt l) = true := by
  simp [PyData.strOk]
  intro i hi
  have := h _ hi
  lia
theorem Good.str {l : List Nat} {k : Nat} (h : ∀ c ∈ l, c < 128) : Good (.str (txt l)) (.str (txt l)) k := ⟨by simp [toD], by simpa [PyData.canLay0] using strOk_txt h, by simp [PyData.depth]⟩
theorem Good.int {i : Int} {k : Nat} : Good (.int i) (.int i) k := ⟨by simp [toD], by simp [PyData.canLay0], by simp [PyData.depth]⟩
theorem GoodL.nil {k : Nat} : GoodL [] [] k := ⟨by simp [toDs], by simp [PyData.canLayAll0], by simp [PyData.depthAll]⟩
theorem GoodL.cons {v : MV} {vs : List MV} {D : PyData} {Ds : List PyData} {k : Nat} (h : Good v D k) (t : GoodL vs Ds k) : GoodL (v :: vs) (D :: Ds) k :=
  ⟨by simp [toDs, h.d, t.d], by simp [PyData.canLayAll0, h.lay, t.lay], by have := h.dep; have := t.dep; simp only [PyData.depthAll]; lia⟩
theorem GoodL.map {α : Type} {f : α → MV} {g : α → PyData} {k : Nat} : ∀ {xs : List α}, (∀ x ∈ xs, Good (f x) (g x) k) → GoodL (xs.map f) (xs.map g) k
  | [], _ => .nil
  | x :: r, h => .cons (h x (by simp)) (GoodL.map fun y hy => h y (by simp [hy]))
theorem Good.tup {vs : List MV} {Ds : List PyData} {k : Nat} (h : GoodL vs Ds k) : Good (.tup vs) (.tuple Ds) (k + 1) := ⟨by simp [toD, h.d], by simpa [PyData.canLay0] using h.lay, by have := h.dep; simp only [PyData.depth]; lia⟩
theorem Good.lst {vs : List MV} {Ds : List PyData} {k : Nat} (h : GoodL vs Ds k) : Good (.lst vs) (.list Ds) (k + 1) := ⟨by simp [toD, h.d], by simpa [PyData.canLay0] using h.lay, by have := h.dep; simp only [PyData.depth]; lia⟩
theorem Good.shaped {v : MV} {D : PyData} {k : Nat} (h : Good v D k) (hk : k ≤ 64) : SeqAt.shaped D = true := by
  have := h.dep
  simp only [SeqAt.shaped, h.lay, Bool.true_and, decide_eq_true_eq]
  lia
theorem Good.eq {a b : MV} {A B : PyData} {k k' : Nat} {mh : MH} (h : Good a A k) (h' : Good b B k') (hk : k ≤ 64 := by decide) (hk' : k' ≤ 64 := by decide) : oEq a b mh = some (.bool (PyData.eqv A B), mh) := by
  simp only [oEq, h.d, h'.d, h.shaped hk, h'.shaped hk', Bool.and_self, if_true]
theorem Good.ne {a b : MV} {A B : PyData} {k k' : Nat} {mh : MH} (h : Good a A k) (h' : Good b B k') (hk : k ≤ 64 := by decide) (hk' : k' ≤ 64 := by decide) : oNe a b mh = some (.bool (!PyData.eqv A B), mh) := by
  simp only [oNe, h.d, h'.d, h.shaped hk, h'.shaped hk', Bool.and_self, if_true]
theorem eqv_str (a b : List Nat) : PyData.eqv (.str (txt a)) (.str (txt b)) = (a == b) := by
  simp only [PyData.eqv]
  by_cases e : a = b
  · subst e; simp
  · have : txt a ≠ txt b := fun q => e (by injection q with q; simpa using q)
    rw [beq_eq_false_iff_ne.mpr this, beq_eq_false_iff_ne.mpr e]
theorem eqv_list (a b : List PyData) : PyData.eqv (.list a) (.list b) = PyData.eqvAll a b := by simp [PyData.eqv]
theorem eqv_tuple (a b : List PyData) : PyData.eqv (.tuple a) (.tuple b) = PyData.eqvAll a b := by simp [PyData.eqv]
theorem filterMap_range {α : Type} (vs : List α) : ∀ c, (List.range c).filterMap (vs[·]?) = vs.take c
  | 0 => rfl
  | c + 1 => by
    rw [List.range_succ, List.filterMap_append, filterMap_range vs c]
    by_cases h : c < vs.length
    · rw [List.take_succ_eq_append_getElem h]; simp [h]
    · rw [List.take_of_length_le (by lia), List.take_of_length_le (by lia)]
      have : vs[c]? = none := List.getElem?_eq_none (by lia)
      simp [this]
theorem pick_drop {vs : List MV} {c : Nat} (h : c ≤ vs.length) : pickL vs (some (c : Int)) none = vs.drop c := by
  have h1 : ¬ ((c : Int) < 0) := Int.not_lt.mpr (Int.natCast_nonneg c)
  simp only [pickL, sliceBounds, Option.getD_none, show (1 : Int) > 0 by decide, if_true, h1, if_false, mm_id h]
  rw [sliceRange_one, List.filterMap_map, show ((vs[·]?) ∘ (c + ·)) = fun k => (vs.drop c)[k]? by funext k; simp, filterMap_range, List.take_of_length_le (by simp)]

theorem lexSet_get {mh : MH} {dd t pb p k : Nat} {T : Str} {L : Int} (h1 : k ≠ dd) (h2 : k ≠ t) : (lexSet mh dd t pb T p L)[k]? = mh[k]? := by
  unfold lexSet
  rw [List.getElem?_set_ne (Ne.symm h1), List.getElem?_set_ne (Ne.symm h2)]
theorem meth_gt {N rc : Addr} {mh : MH} {i dd t pb : Nat} {T : Str} {p : Nat} {L : Int} (h : LexAt N mh i dd t pb T p L) {y : Nat} {me : ME} (hy : me.lookup y = some (.ref i)) :
    dMeth N "get_token" (dFn [0] (F_get_token N rc)) (dVar y) dL0 me mh = dFn [0] (F_get_token N rc) [.ref i] mh := by
  simp only [dMeth, dVar, hy, h.inst, h.attrs, if_true, lexA_gt, dL0]
theorem get_token_at {N rc : Addr} {mh : MH} {i dd t pb p0 : Nat} {l0 l tok l' : List Nat} {L L0 : Int} {junk : MH} (h : LexAt N mh i dd t pb (txt l0) p0 L0) (h1 : pb ≠ dd) (h2 : pb ≠ t) (hT : l0.length ≤ 900) (hc : ∀ c ∈ l0, c < 128) (hs : l <:+ l0)
    (hpb : mh[pb]? = some (.list [])) (hx : LexT l tok l') :
    l' <:+ l0 ∧ ∃ cs, dFn [0] (F_get_token N rc) [.ref i] (lexSet mh dd t pb (txt l0) (l0.length - l.length) L ++ junk) = some (.str (txt tok), lexSet mh dd t pb (txt l0) (l0.length - l'.length) (L + nls l - nls l') ++ (junk ++ [.citer rc cs])) := by
  have hb : ((lexSet mh dd t pb (txt l0) (l0.length - l.length) L) ++ junk)[pb]? = some (.list []) := by
    have : pb < mh.length := mh_lt hpb
    rw [List.getElem?_append_left (by rw [lexSet_len]; exact this), lexSet_get h1 h2, hpb]
  obtain ⟨q, cs, e⟩ := get_token_ev (rc := rc) ((h.set (l0.length - l.length) L).app junk) hT hc hs hb hx
  refine ⟨q, cs, ?_⟩
  obtain ⟨q1, q2, q3⟩ := h.lt
  rw [e, lexSet_app (by rw [lexSet_len]; exact q2) (by rw [lexSet_len]; exact q3), lexSet_set h.i3, List.append_assoc]
theorem lex_comp {N rc : Addr} {mh : MH} {i dd t pb p0 : Nat} {l0 : List Nat} {L0 : Int} (h : LexAt N mh i dd t pb (txt l0) p0 L0) (h1 : pb ≠ dd) (h2 : pb ≠ t) (hT : l0.length ≤ 900) (hc : ∀ c ∈ l0, c < 128) (hpb : mh[pb]? = some (.list [])) {x y m : Nat} (hxy : y ≠ x) (tail : List Nat) :
    ∀ (ps : List (List Nat × List Nat)), (∀ p ∈ ps, ∀ r, LexT (p.1 ++ r) p.2 r) → ∀ (n j : Nat) (acc : List MV) (me : ME) (junk : MH) (L : Int), ((ps.map (·.1)).flatten ++ tail) <:+ l0 → ps.length < n → j + ps.length = m → acc.length + ps.length ≤ 1000 → me.lookup y = some (.ref i) →
      ∃ me' junk', dCompLoop (tgV x) dBt (aEmit (dMeth N "get_token" (dFn [0] (F_get_token N rc)) (dVar y) dL0)) (.rng 0 (m : Int)) n j acc me (lexSet mh dd t pb (txt l0) (l0.length - ((ps.map (·.1)).flatten ++ tail).length) L ++ junk) =
        some (acc ++ ps.map (fun p => .str (txt p.2)), me', lexSet mh dd t pb (txt l0) (l0.length - tail.length) (L + nls ((ps.map (·.1)).flatten ++ tail) - nls tail) ++ (junk ++ junk')) ∧ ∃ css : List (Option Nat), junk' = css.map (MO.citer rc) ∧ css.length = ps.length
  | [], _, n, j, acc, me, junk, L, hs, hn, hj, hl, hy => by
    cases n with
    | zero => lia
    | succ n =>
      refine ⟨me, [], ?_, [], rfl, rfl⟩
      have : nextOf (.rng 0 (m : Int)) (lexSet mh dd t pb (txt l0) (l0.length - (((([] : List (List Nat × List Nat)).map (·.1)).flatten) ++ tail).length) L ++ junk) j = some none := by
        simp only [nextOf, Int.zero_add]
        simp only [List.length_nil] at hj
        rw [if_neg (by lia)]
      simp only [dCompLoop, this]
      simp only [List.map_nil, List.flatten_nil, List.nil_append, List.append_nil]
      rw [show L + nls tail - nls tail = L by lia]
  | p :: ps, hp, n, j, acc, me, junk, L, hs, hn, hj, hl, hy => by
    cases n with
    | zero => lia
    | succ n =>
      simp only [List.map_cons, List.flatten_cons, List.append_assoc, List.length_cons] at hs hj hn hl ⊢
      have hx := hp p (by simp) ((ps.map (·.1)).flatten ++ tail)
      obtain ⟨q, cs, e⟩ := get_token_at (rc := rc) (junk := junk) (L := L) h h1 h2 hT hc hs hpb hx
      have hnx : nextOf (.rng 0 (m : Int)) (lexSet mh dd t pb (txt l0) (l0.length - (p.1 ++ ((ps.map (·.1)).flatten ++ tail)).length) L ++ junk) j = some (some (.int (j : Int))) := by
        simp only [nextOf, Int.zero_add]
        rw [if_pos (by lia)]
      have hy' : (upd me x (.int (j : Int))).lookup y = some (.ref i) := by rw [lk_ne hxy]; exact hy
      obtain ⟨me', junk', e2, css, e3, e4⟩ := lex_comp (rc := rc) (m := m) h h1 h2 hT hc hpb hxy tail ps (fun p hm => hp p (by simp [hm])) n (j + 1) (acc ++ [.str (txt p.2)]) (upd me x (.int (j : Int))) (junk ++ [.citer rc cs]) (L + nls (p.1 ++ ((ps.map (·.1)).flatten ++ tail)) - nls ((ps.map (·.1)).flatten ++ tail)) q (by lia) (by lia) (by simp; lia) hy'
      refine ⟨me', .citer rc cs :: junk', ?_, cs :: css, by simp [e3], by simp [e4]⟩
      have hg := meth_gt (rc := rc) ((h.set (l0.length - (p.1 ++ ((ps.map (·.1)).flatten ++ tail)).length) L).app junk) hy'
      have hA : acc.length ≤ 100000 := by lia
      simp only [dCompLoop, hnx, tgV, dBt, aEmit, hg, e, hA, if_true]
      rw [e2]
      have e5 : L + nls (p.1 ++ ((ps.map (·.1)).flatten ++ tail)) - nls ((ps.map (·.1)).flatten ++ tail) + nls ((ps.map (·.1)).flatten ++ tail) - nls tail = L + nls (p.1 ++ ((ps.map (·.1)).flatten ++ tail)) - nls tail := by lia
      rw [e5]
      simp
end Mine

namespace Mine
theorem forLoop_ix {tg : Tg} {f : DS} {k : ItK} {items : List MV} (H : Nat → MH) (P : Nat → ME → Prop) (hk : ∀ j, j ≤ items.length → nextOf k (H j) j = some items[j]?)
    (hturn : ∀ (j : Nat) (it : MV) (me : ME), items[j]? = some it → P j me → ∃ me1 me2, tg me (H j) it = some me1 ∧ (f me1 (H j) = some (.next, me2, H (j + 1)) ∨ f me1 (H j) = some (.cont, me2, H (j + 1))) ∧ P (j + 1) me2) :
    ∀ (n j : Nat) (me : ME), items.length - j < n → j ≤ items.length → P j me → ∃ me', P items.length me' ∧ dForLoop tg f k n j me (H j) = some (.next, me', H items.length) := by
  intro n
  induction n with
  | zero => intro j me h; omega
  | succ n ih =>
    intro j me hn hj hP
    by_cases hj' : j < items.length
    · have hx : items[j]? = some items[j] := List.getElem?_eq_getElem hj'
      obtain ⟨me1, me2, t1, f1, p2⟩ := hturn j _ me hx hP
      obtain ⟨me', p', e⟩ := ih (j + 1) me2 (by omega) hj' p2
      refine ⟨me', p', ?_⟩
      rcases f1 with f1 | f1 <;> simp only [dForLoop, hk j (by omega), hx, t1, f1, e]
    · have hx : items[j]? = none := List.getElem?_eq_none (by omega)
      have : j = items.length := by omega
      subst this
      refine ⟨me, hP, ?_⟩
      simp only [dForLoop, hk _ (Nat.le_refl _), hx]

mutual
theorem eqv_self : ∀ D : PyData, D.canLay0 = true → PyData.eqv D D = true
  | .none, _ => by simp [PyData.eqv]
  | .bool _, _ => by simp [PyData.eqv]
  | .int _, _ => by simp [PyData.eqv]
  | .str _, _ => by simp [PyData.eqv]
  | .list xs, h => by rw [eqv_list]; exact eqvAll_self xs (by simpa [PyData.canLay0] using h)
  | .tuple xs, h => by rw [eqv_tuple]; exact eqvAll_self xs (by simpa [PyData.canLay0] using h)
  | .dict _, h => by simp [PyData.canLay0] at h
theorem eqvAll_self : ∀ Ds : List PyData, PyData.canLayAll0 Ds = true → PyData.eqvAll Ds Ds = true
  | [], _ => by simp [PyData.eqvAll]
  | d :: r, h => by
    simp only [PyData.canLayAll0, Bool.and_eq_true] at h
    simp [PyData.eqvAll, eqv_self d h.1, eqvAll_self r h.2]
end
theorem Good.ne_self {a : MV} {A : PyData} {k : Nat} {mh : MH} (h : Good a A k) (hk : k ≤ 64 := by decide) : oNe a a mh = some (.bool false, mh) := by
  rw [h.ne h hk hk, eqv_self A h.lay]; rfl
theorem Good.eq_self {a : MV} {A : PyData} {k : Nat} {mh : MH} (h : Good a A k) (hk : k ≤ 64 := by decide) : oEq a a mh = some (.bool true, mh) := by
  rw [h.eq h hk hk, eqv_self A h.lay]
theorem l0 {me : ME} {mh : MH} : dL0 me mh = some ([], mh) := rfl
theorem tup_ev {g : DL} {me : ME} {mh mh1 : MH} {vs : List MV} (h : g me mh = some (vs, mh1)) (hl : vs.length ≤ 1000) : dTup g me mh = some (.tup vs, mh1) := by
  simp only [dTup, h, hl, if_true]
theorem strsOf_map (ls : List (List Nat)) : strsOf (ls.map fun l => .str (txt l)) = some (ls.map txt) := by
  induction ls with
  | nil => rfl
  | cons x r ih => simp only [List.map_cons, strsOf, ih, Option.map_some]
theorem join_ev {ls : List (List Nat)} (h : ls.flatten.length ≤ 1000) {mh : MH} : fJoin [.str ("" : Str), .lst (ls.map fun l => .str (txt l))] mh = some (.str (txt ls.flatten), mh) := by
  have e : ("" : Str) = txt [] := s_nil
  rw [e]
  simp only [fJoin, strsOf_map, join_ok h, if_true, join_flat]
end Mine

namespace Mine
noncomputable def partsOf (p : Program) (k : Nat) (j : Option Nat) : Arguments × List Stmt × Scope := match p.main.body.drop k, j with
  | .FunctionDef _ a b _ _ _ s _ _ _ :: _, none => (a, b, s)
  | .ClassDef _ _ _ body _ _ _ _ _ _ _ :: _, some i => (match body.drop i with
    | .FunctionDef _ a b _ _ _ s _ _ _ :: _ => (a, b, s)
    | _ => default)
  | _, _ => default
noncomputable def K04at (p : Program) (P : Params) : Frag := [

  (2, Obj.mk Value.none Option.none (Data.dict #[]) #[]),
  (3, Obj.mk (Value.type "dict") Option.none (Data.dict #[DictEntry.mk (PyData.keyHash P (Str.ofString "__name__")) (Value.str (Str.ofString "__name__") 165) (Value.str (Str.ofString "law_ph0056_04") 354), DictEntry.mk (PyData.keyHash P (Str.ofString "__doc__")) (Value.str (Str.ofString "__doc__") 166) Value.none, DictEntry.mk (PyData.keyHash P (Str.ofString "__package__")) (Value.str (Str.ofString "__package__") 167) Value.none, DictEntry.mk (PyData.keyHash P (Str.ofString "__loader__")) (Value.str (Str.ofString "__loader__") 168) (Value.builtin "__main__.__loader__#opaque"), DictEntry.mk (PyData.keyHash P (Str.ofString "__spec__")) (Value.str (Str.ofString "__spec__") 169) Value.none, DictEntry.mk (PyData.keyHash P (Str.ofString "__annotations__")) (Value.str (Str.ofString "__annotations__") 170) (Value.ref 6), DictEntry.mk (PyData.keyHash P (Str.ofString "__builtins__")) (Value.str (Str.ofString "__builtins__") 171) (Value.ref 4), DictEntry.mk (PyData.keyHash P (Str.ofString "__file__")) (Value.str (Str.ofString "__file__") 173) (Value.str (Str.ofString "/claim/cut.py") 172), DictEntry.mk (PyData.keyHash P (Str.ofString "__cached__")) (Value.str (Str.ofString "__cached__") 174) Value.none, DictEntry.mk (PyData.keyHash P (Str.ofString "_wall")) (Value.str (Str.ofString "_wall") 193) (Value.ref 21), DictEntry.mk (PyData.keyHash P (Str.ofString "EMPTYSTRING")) (Value.str (Str.ofString "EMPTYSTRING") 197) (Value.str (Str.ofString "") 196), DictEntry.mk (PyData.keyHash P (Str.ofString "_Accumulator")) (Value.str (Str.ofString "_Accumulator") 293) (Value.ref 101), DictEntry.mk (PyData.keyHash P (Str.ofString "_netrclex")) (Value.str (Str.ofString "_netrclex") 353) (Value.ref 143), DictEntry.mk (PyData.keyHash P (Str.ofString "_law_numbers")) (Value.str (Str.ofString "_law_numbers") 364) (Value.ref 154), DictEntry.mk (PyData.keyHash P (Str.ofString "_law_written")) (Value.str (Str.ofString "_law_written") 373) (Value.ref 161), DictEntry.mk (PyData.keyHash P (Str.ofString "_law_lexer")) (Value.str (Str.ofString "_law_lexer") 385) (Value.ref 168), DictEntry.mk (PyData.keyHash P (Str.ofString "_law_rises")) (Value.str (Str.ofString "_law_rises") 393) (Value.ref 175), DictEntry.mk (PyData.keyHash P (Str.ofString "_law_block")) (Value.str (Str.ofString "_law_block") 401) (Value.ref 182), DictEntry.mk (PyData.keyHash P (Str.ofString "_law_pile")) (Value.str (Str.ofString "_law_pile") 414) (Value.ref 189), DictEntry.mk (PyData.keyHash P (Str.ofString "_law_round")) (Value.str (Str.ofString "_law_round") 428) (Value.ref 196), DictEntry.mk (PyData.keyHash P (Str.ofString "_law_means")) (Value.str (Str.ofString "_law_means") 442) (Value.ref 203), DictEntry.mk (PyData.keyHash P (Str.ofString "law")) (Value.str (Str.ofString "law") 448) (Value.ref 208)] 22) #[]),
  (20, Obj.mk (Value.type "code") Option.none (Data.fields #[Value.str (Str.ofString "_wall") 187, Value.str (Str.ofString "_wall") 188, Value.str (Str.ofString "/claim/cut.py") 189, Value.int 1 0, Value.int 1 0, Value.int 0 0, Value.int 0 0, Value.int 3 0, Value.ref 15, Value.bool Bool.true, Value.int 181 0, Value.ref 16, Value.none, Value.ref 17, Value.ref 18, Value.ref 19, Value.int 191 0, Value.int 1 0, Value.str (Str.ofString "/claim/cut.py") 192]) #[]),
  (match partsOf p 0 none with | (a, b, s) => (21, Obj.mk (Value.type "function") Option.none (Data.func (FuncData.mk (Str.ofString "_wall") (Str.ofString "_wall") a (.stmts b) s (3) ([]) (Value.none) (Value.none) (Value.none) (Value.str (Str.ofString "__main__") 164) (Option.none) (Value.ref 20) (Value.none) (0))) #[])),
  (25, Obj.mk (Value.type "cell") Option.none (Data.cell (Option.some (Value.ref 101))) #[]),
  (30, Obj.mk (Value.type "tuple") Option.none (Data.seq #[Value.int 0 210]) #[]),
  (37, Obj.mk (Value.type "code") Option.none (Data.fields #[Value.str (Str.ofString "__init__") 211, Value.str (Str.ofString "_Accumulator.__init__") 212, Value.str (Str.ofString "/claim/cut.py") 213, Value.int 8 0, Value.int 2 0, Value.int 0 0, Value.int 0 0, Value.int 3 0, Value.ref 32, Value.bool Bool.true, Value.int 181 0, Value.ref 33, Value.none, Value.ref 34, Value.ref 35, Value.ref 36, Value.int 217 0, Value.int 8 0, Value.str (Str.ofString "/claim/cut.py") 218]) #[]),
  (match partsOf p 3 (some 0) with | (a, b, s) => (38, Obj.mk (Value.type "function") Option.none (Data.func (FuncData.mk (Str.ofString "__init__") (Str.ofString "_Accumulator.__init__") a (.stmts b) s (3) ([(Str.ofString "__class__", 25)]) (Value.ref 30) (Value.none) (Value.none) (Value.str (Str.ofString "cpy313.email.header") 194) (Option.none) (Value.ref 37) (Value.ref 31) (0))) #[])),
  (44, Obj.mk (Value.type "code") Option.none (Data.fields #[Value.str (Str.ofString "push") 220, Value.str (Str.ofString "_Accumulator.push") 221, Value.str (Str.ofString "/claim/cut.py") 222, Value.int 12 0, Value.int 3 0, Value.int 0 0, Value.int 0 0, Value.int 3 0, Value.ref 39, Value.bool Bool.true, Value.int 181 0, Value.ref 40, Value.none, Value.ref 41, Value.ref 42, Value.ref 43, Value.int 226 0, Value.int 12 0, Value.str (Str.ofString "/claim/cut.py") 227]) #[]),
  (match partsOf p 3 (some 1) with | (a, b, s) => (45, Obj.mk (Value.type "function") Option.none (Data.func (FuncData.mk (Str.ofString "push") (Str.ofString "_Accumulator.push") a (.stmts b) s (3) ([]) (Value.none) (Value.none) (Value.none) (Value.str (Str.ofString "cpy313.email.header") 194) (Option.none) (Value.ref 44) (Value.none) (0))) #[])),
  (46, Obj.mk (Value.type "tuple") Option.none (Data.seq #[Value.int 0 229]) #[]),
  (52, Obj.mk (Value.type "code") Option.none (Data.fields #[Value.str (Str.ofString "pop_from") 230, Value.str (Str.ofString "_Accumulator.pop_from") 231, Value.str (Str.ofString "/claim/cut.py") 232, Value.int 15 0, Value.int 2 0, Value.int 0 0, Value.int 0 0, Value.int 3 0, Value.ref 47, Value.bool Bool.true, Value.int 181 0, Value.ref 48, Value.none, Value.ref 49, Value.ref 50, Value.ref 51, Value.int 236 0, Value.int 15 0, Value.str (Str.ofString "/claim/cut.py") 237]) #[]),
  (match partsOf p 3 (some 2) with | (a, b, s) => (53, Obj.mk (Value.type "function") Option.none (Data.func (FuncData.mk (Str.ofString "pop_from") (Str.ofString "_Accumulator.pop_from") a (.stmts b) s (3) ([]) (Value.ref 46) (Value.none) (Value.none) (Value.str (Str.ofString "cpy313.email.header") 194) (Option.none) (Value.ref 52) (Value.none) (0))) #[])),
  (60, Obj.mk (Value.type "code") Option.none (Data.fields #[Value.str (Str.ofString "pop") 239, Value.str (Str.ofString "_Accumulator.pop") 240, Value.str (Str.ofString "/claim/cut.py") 241, Value.int 20 0, Value.int 1 0, Value.int 0 0, Value.int 0 0, Value.int 3 0, Value.ref 55, Value.bool Bool.true, Value.int 181 0, Value.ref 56, Value.none, Value.ref 57, Value.ref 58, Value.ref 59, Value.int 244 0, Value.int 20 0, Value.str (Str.ofString "/claim/cut.py") 245]) #[]),
  (match partsOf p 3 (some 3) with | (a, b, s) => (61, Obj.mk (Value.type "function") Option.none (Data.func (FuncData.mk (Str.ofString "pop") (Str.ofString "_Accumulator.pop") a (.stmts b) s (3) ([(Str.ofString "__class__", 25)]) (Value.none) (Value.none) (Value.none) (Value.str (Str.ofString "cpy313.email.header") 194) (Option.none) (Value.ref 60) (Value.ref 54) (0))) #[])),
  (67, Obj.mk (Value.type "code") Option.none (Data.fields #[Value.str (Str.ofString "__len__") 247, Value.str (Str.ofString "_Accumulator.__len__") 248, Value.str (Str.ofString "/claim/cut.py") 249, Value.int 25 0, Value.int 1 0, Value.int 0 0, Value.int 0 0, Value.int 3 0, Value.ref 62, Value.bool Bool.true, Value.int 181 0, Value.ref 63, Value.none, Value.ref 64, Value.ref 65, Value.ref 66, Value.int 251 0, Value.int 25 0, Value.str (Str.ofString "/claim/cut.py") 252]) #[]),
  (match partsOf p 3 (some 4) with | (a, b, s) => (68, Obj.mk (Value.type "function") Option.none (Data.func (FuncData.mk (Str.ofString "__len__") (Str.ofString "_Accumulator.__len__") a (.stmts b) s (3) ([]) (Value.none) (Value.none) (Value.none) (Value.str (Str.ofString "cpy313.email.header") 194) (Option.none) (Value.ref 67) (Value.none) (0))) #[])),
  (74, Obj.mk (Value.type "code") Option.none (Data.fields #[Value.str (Str.ofString "__str__") 254, Value.str (Str.ofString "_Accumulator.__str__") 255, Value.str (Str.ofString "/claim/cut.py") 256, Value.int 28 0, Value.int 1 0, Value.int 0 0, Value.int 0 0, Value.int 3 0, Value.ref 69, Value.bool Bool.true, Value.int 181 0, Value.ref 70, Value.none, Value.ref 71, Value.ref 72, Value.ref 73, Value.int 258 0, Value.int 28 0, Value.str (Str.ofString "/claim/cut.py") 259]) #[]),
  (match partsOf p 3 (some 5) with | (a, b, s) => (75, Obj.mk (Value.type "function") Option.none (Data.func (FuncData.mk (Str.ofString "__str__") (Str.ofString "_Accumulator.__str__") a (.stmts b) s (3) ([]) (Value.none) (Value.none) (Value.none) (Value.str (Str.ofString "cpy313.email.header") 194) (Option.none) (Value.ref 74) (Value.none) (0))) #[])),
  (76, Obj.mk (Value.type "tuple") Option.none (Data.seq #[Value.none]) #[]),
  (82, Obj.mk (Value.type "code") Option.none (Data.fields #[Value.str (Str.ofString "reset") 261, Value.str (Str.ofString "_Accumulator.reset") 262, Value.str (Str.ofString "/claim/cut.py") 263, Value.int 31 0, Value.int 2 0, Value.int 0 0, Value.int 0 0, Value.int 3 0, Value.ref 77, Value.bool Bool.true, Value.int 181 0, Value.ref 78, Value.none, Value.ref 79, Value.ref 80, Value.ref 81, Value.int 266 0, Value.int 31 0, Value.str (Str.ofString "/claim/cut.py") 267]) #[]),
  (match partsOf p 3 (some 6) with | (a, b, s) => (83, Obj.mk (Value.type "function") Option.none (Data.func (FuncData.mk (Str.ofString "reset") (Str.ofString "_Accumulator.reset") a (.stmts b) s (3) ([]) (Value.ref 76) (Value.none) (Value.none) (Value.str (Str.ofString "cpy313.email.header") 194) (Option.none) (Value.ref 82) (Value.none) (0))) #[])),
  (89, Obj.mk (Value.type "code") Option.none (Data.fields #[Value.str (Str.ofString "is_onlyws") 269, Value.str (Str.ofString "_Accumulator.is_onlyws") 270, Value.str (Str.ofString "/claim/cut.py") 271, Value.int 34 0, Value.int 1 0, Value.int 0 0, Value.int 0 0, Value.int 3 0, Value.ref 84, Value.bool Bool.true, Value.int 181 0, Value.ref 85, Value.none, Value.ref 86, Value.ref 87, Value.ref 88, Value.int 273 0, Value.int 34 0, Value.str (Str.ofString "/claim/cut.py") 274]) #[]),
  (match partsOf p 3 (some 7) with | (a, b, s) => (90, Obj.mk (Value.type "function") Option.none (Data.func (FuncData.mk (Str.ofString "is_onlyws") (Str.ofString "_Accumulator.is_onlyws") a (.stmts b) s (3) ([]) (Value.none) (Value.none) (Value.none) (Value.str (Str.ofString "cpy313.email.header") 194) (Option.none) (Value.ref 89) (Value.none) (0))) #[])),
  (97, Obj.mk (Value.type "code") Option.none (Data.fields #[Value.str (Str.ofString "part_count") 276, Value.str (Str.ofString "_Accumulator.part_count") 277, Value.str (Str.ofString "/claim/cut.py") 278, Value.int 37 0, Value.int 1 0, Value.int 0 0, Value.int 0 0, Value.int 3 0, Value.ref 92, Value.bool Bool.true, Value.int 181 0, Value.ref 93, Value.none, Value.ref 94, Value.ref 95, Value.ref 96, Value.int 281 0, Value.int 37 0, Value.str (Str.ofString "/claim/cut.py") 282]) #[]),
  (match partsOf p 3 (some 8) with | (a, b, s) => (98, Obj.mk (Value.type "function") Option.none (Data.func (FuncData.mk (Str.ofString "part_count") (Str.ofString "_Accumulator.part_count") a (.stmts b) s (3) ([(Str.ofString "__class__", 25)]) (Value.none) (Value.none) (Value.none) (Value.str (Str.ofString "cpy313.email.header") 194) (Option.none) (Value.ref 97) (Value.ref 91) (0))) #[])),
  (100, Obj.mk (Value.type "dict") Option.none (Data.dict #[DictEntry.mk (PyData.keyHash P (Str.ofString "__module__")) (Value.str (Str.ofString "__module__") 205) (Value.str (Str.ofString "cpy313.email.header") 194), DictEntry.mk (PyData.keyHash P (Str.ofString "__firstlineno__")) (Value.str (Str.ofString "__firstlineno__") 209) (Value.int 6 208), DictEntry.mk (PyData.keyHash P (Str.ofString "__init__")) (Value.str (Str.ofString "__init__") 219) (Value.ref 38), DictEntry.mk (PyData.keyHash P (Str.ofString "push")) (Value.str (Str.ofString "push") 228) (Value.ref 45), DictEntry.mk (PyData.keyHash P (Str.ofString "pop_from")) (Value.str (Str.ofString "pop_from") 238) (Value.ref 53), DictEntry.mk (PyData.keyHash P (Str.ofString "pop")) (Value.str (Str.ofString "pop") 246) (Value.ref 61), DictEntry.mk (PyData.keyHash P (Str.ofString "__len__")) (Value.str (Str.ofString "__len__") 253) (Value.ref 68), DictEntry.mk (PyData.keyHash P (Str.ofString "__str__")) (Value.str (Str.ofString "__str__") 260) (Value.ref 75), DictEntry.mk (PyData.keyHash P (Str.ofString "reset")) (Value.str (Str.ofString "reset") 268) (Value.ref 83), DictEntry.mk (PyData.keyHash P (Str.ofString "is_onlyws")) (Value.str (Str.ofString "is_onlyws") 275) (Value.ref 90), DictEntry.mk (PyData.keyHash P (Str.ofString "part_count")) (Value.str (Str.ofString "part_count") 283) (Value.ref 98), DictEntry.mk (PyData.keyHash P (Str.ofString "__static_attributes__")) (Value.str (Str.ofString "__static_attributes__") 285) (Value.ref 99), DictEntry.mk (PyData.keyHash P (Str.ofString "__dict__")) (Value.str (Str.ofString "__dict__") 288) (Value.ref 102), DictEntry.mk (PyData.keyHash P (Str.ofString "__weakref__")) (Value.str (Str.ofString "__weakref__") 290) (Value.ref 103), DictEntry.mk (PyData.keyHash P (Str.ofString "__doc__")) (Value.str (Str.ofString "__doc__") 291) Value.none] 5) #[]),
  (101, Obj.mk (Value.type "type") Option.none (Data.cls (ClassData.mk (Str.ofString "_Accumulator") [Value.type "list"] [Value.ref 101, Value.type "list", Value.type "object"] 100 (Str.ofString "_Accumulator") Bool.true [] [] Bool.false Option.none Bool.false)) #[Option.some (Value.ref 22), Option.none, Option.some (Value.str (Str.ofString "_Accumulator") 198), Option.some (Value.str (Str.ofString "_Accumulator") 206), Option.some (Value.builtin "list.__new__"), Option.some (Value.bool Bool.true)]),
  (118, Obj.mk (Value.type "code") Option.none (Data.fields #[Value.str (Str.ofString "__init__") 308, Value.str (Str.ofString "_netrclex.__init__") 309, Value.str (Str.ofString "/claim/cut.py") 310, Value.int 42 0, Value.int 2 0, Value.int 0 0, Value.int 0 0, Value.int 3 0, Value.ref 113, Value.bool Bool.true, Value.int 181 0, Value.ref 114, Value.none, Value.ref 115, Value.ref 116, Value.ref 117, Value.int 313 0, Value.int 42 0, Value.str (Str.ofString "/claim/cut.py") 314]) #[]),
  (match partsOf p 5 (some 0) with | (a, b, s) => (119, Obj.mk (Value.type "function") Option.none (Data.func (FuncData.mk (Str.ofString "__init__") (Str.ofString "_netrclex.__init__") a (.stmts b) s (3) ([]) (Value.none) (Value.none) (Value.none) (Value.str (Str.ofString "cpy313.netrc") 294) (Option.none) (Value.ref 118) (Value.none) (0))) #[])),
  (125, Obj.mk (Value.type "code") Option.none (Data.fields #[Value.str (Str.ofString "_read_char") 316, Value.str (Str.ofString "_netrclex._read_char") 317, Value.str (Str.ofString "/claim/cut.py") 318, Value.int 48 0, Value.int 1 0, Value.int 0 0, Value.int 0 0, Value.int 3 0, Value.ref 120, Value.bool Bool.true, Value.int 181 0, Value.ref 121, Value.none, Value.ref 122, Value.ref 123, Value.ref 124, Value.int 321 0, Value.int 48 0, Value.str (Str.ofString "/claim/cut.py") 322]) #[]),
  (match partsOf p 5 (some 1) with | (a, b, s) => (126, Obj.mk (Value.type "function") Option.none (Data.func (FuncData.mk (Str.ofString "_read_char") (Str.ofString "_netrclex._read_char") a (.stmts b) s (3) ([]) (Value.none) (Value.none) (Value.none) (Value.str (Str.ofString "cpy313.netrc") 294) (Option.none) (Value.ref 125) (Value.none) (0))) #[])),
  (132, Obj.mk (Value.type "code") Option.none (Data.fields #[Value.str (Str.ofString "get_token") 324, Value.str (Str.ofString "_netrclex.get_token") 325, Value.str (Str.ofString "/claim/cut.py") 326, Value.int 54 0, Value.int 1 0, Value.int 0 0, Value.int 0 0, Value.int 3 0, Value.ref 127, Value.bool Bool.true, Value.int 181 0, Value.ref 128, Value.none, Value.ref 129, Value.ref 130, Value.ref 131, Value.int 331 0, Value.int 54 0, Value.str (Str.ofString "/claim/cut.py") 332]) #[]),
  (match partsOf p 5 (some 2) with | (a, b, s) => (133, Obj.mk (Value.type "function") Option.none (Data.func (FuncData.mk (Str.ofString "get_token") (Str.ofString "_netrclex.get_token") a (.stmts b) s (3) ([]) (Value.none) (Value.none) (Value.none) (Value.str (Str.ofString "cpy313.netrc") 294) (Option.none) (Value.ref 132) (Value.none) (0))) #[])),
  (139, Obj.mk (Value.type "code") Option.none (Data.fields #[Value.str (Str.ofString "push_token") 334, Value.str (Str.ofString "_netrclex.push_token") 335, Value.str (Str.ofString "/claim/cut.py") 336, Value.int 81 0, Value.int 2 0, Value.int 0 0, Value.int 0 0, Value.int 3 0, Value.ref 134, Value.bool Bool.true, Value.int 181 0, Value.ref 135, Value.none, Value.ref 136, Value.ref 137, Value.ref 138, Value.int 339 0, Value.int 81 0, Value.str (Str.ofString "/claim/cut.py") 340]) #[]),
  (match partsOf p 5 (some 3) with | (a, b, s) => (140, Obj.mk (Value.type "function") Option.none (Data.func (FuncData.mk (Str.ofString "push_token") (Str.ofString "_netrclex.push_token") a (.stmts b) s (3) ([]) (Value.none) (Value.none) (Value.none) (Value.str (Str.ofString "cpy313.netrc") 294) (Option.none) (Value.ref 139) (Value.none) (0))) #[])),
  (142, Obj.mk (Value.type "dict") Option.none (Data.dict #[DictEntry.mk (PyData.keyHash P (Str.ofString "__module__")) (Value.str (Str.ofString "__module__") 303) (Value.str (Str.ofString "cpy313.netrc") 294), DictEntry.mk (PyData.keyHash P (Str.ofString "__firstlineno__")) (Value.str (Str.ofString "__firstlineno__") 307) (Value.int 40 306), DictEntry.mk (PyData.keyHash P (Str.ofString "__init__")) (Value.str (Str.ofString "__init__") 315) (Value.ref 119), DictEntry.mk (PyData.keyHash P (Str.ofString "_read_char")) (Value.str (Str.ofString "_read_char") 323) (Value.ref 126), DictEntry.mk (PyData.keyHash P (Str.ofString "get_token")) (Value.str (Str.ofString "get_token") 333) (Value.ref 133), DictEntry.mk (PyData.keyHash P (Str.ofString "push_token")) (Value.str (Str.ofString "push_token") 341) (Value.ref 140), DictEntry.mk (PyData.keyHash P (Str.ofString "__static_attributes__")) (Value.str (Str.ofString "__static_attributes__") 346) (Value.ref 141), DictEntry.mk (PyData.keyHash P (Str.ofString "__dict__")) (Value.str (Str.ofString "__dict__") 348) (Value.ref 144), DictEntry.mk (PyData.keyHash P (Str.ofString "__weakref__")) (Value.str (Str.ofString "__weakref__") 350) (Value.ref 145), DictEntry.mk (PyData.keyHash P (Str.ofString "__doc__")) (Value.str (Str.ofString "__doc__") 351) Value.none] 4) #[]),
  (143, Obj.mk (Value.type "type") Option.none (Data.cls (ClassData.mk (Str.ofString "_netrclex") [Value.type "object"] [Value.ref 143, Value.type "object"] 142 (Str.ofString "_netrclex") Bool.true [] [] Bool.false Option.none Bool.false)) #[Option.none, Option.none, Option.some (Value.str (Str.ofString "_netrclex") 296), Option.some (Value.str (Str.ofString "_netrclex") 304), Option.some (Value.builtin "object.__new__"), Option.some (Value.bool Bool.true)]),
  (153, Obj.mk (Value.type "code") Option.none (Data.fields #[Value.str (Str.ofString "_law_numbers") 356, Value.str (Str.ofString "_law_numbers") 357, Value.str (Str.ofString "/claim/cut.py") 358, Value.int 84 0, Value.int 1 0, Value.int 0 0, Value.int 0 0, Value.int 3 0, Value.ref 148, Value.bool Bool.true, Value.int 181 0, Value.ref 149, Value.none, Value.ref 150, Value.ref 151, Value.ref 152, Value.int 362 0, Value.int 84 0, Value.str (Str.ofString "/claim/cut.py") 363]) #[]),
  (match partsOf p 7 none with | (a, b, s) => (154, Obj.mk (Value.type "function") Option.none (Data.func (FuncData.mk (Str.ofString "_law_numbers") (Str.ofString "_law_numbers") a (.stmts b) s (3) ([]) (Value.none) (Value.none) (Value.none) (Value.str (Str.ofString "law_ph0056_04") 354) (Option.none) (Value.ref 153) (Value.none) (0))) #[])),
  (160, Obj.mk (Value.type "code") Option.none (Data.fields #[Value.str (Str.ofString "_law_written") 365, Value.str (Str.ofString "_law_written") 366, Value.str (Str.ofString "/claim/cut.py") 367, Value.int 89 0, Value.int 3 0, Value.int 0 0, Value.int 0 0, Value.int 3 0, Value.ref 155, Value.bool Bool.true, Value.int 181 0, Value.ref 156, Value.none, Value.ref 157, Value.ref 158, Value.ref 159, Value.int 371 0, Value.int 89 0, Value.str (Str.ofString "/claim/cut.py") 372]) #[]),
  (match partsOf p 8 none with | (a, b, s) => (161, Obj.mk (Value.type "function") Option.none (Data.func (FuncData.mk (Str.ofString "_law_written") (Str.ofString "_law_written") a (.stmts b) s (3) ([]) (Value.none) (Value.none) (Value.none) (Value.str (Str.ofString "law_ph0056_04") 354) (Option.none) (Value.ref 160) (Value.none) (0))) #[])),
  (167, Obj.mk (Value.type "code") Option.none (Data.fields #[Value.str (Str.ofString "_law_lexer") 374, Value.str (Str.ofString "_law_lexer") 375, Value.str (Str.ofString "/claim/cut.py") 376, Value.int 93 0, Value.int 2 0, Value.int 0 0, Value.int 0 0, Value.int 3 0, Value.ref 162, Value.bool Bool.true, Value.int 181 0, Value.ref 163, Value.none, Value.ref 164, Value.ref 165, Value.ref 166, Value.int 383 0, Value.int 93 0, Value.str (Str.ofString "/claim/cut.py") 384]) #[]),
  (match partsOf p 9 none with | (a, b, s) => (168, Obj.mk (Value.type "function") Option.none (Data.func (FuncData.mk (Str.ofString "_law_lexer") (Str.ofString "_law_lexer") a (.stmts b) s (3) ([]) (Value.none) (Value.none) (Value.none) (Value.str (Str.ofString "law_ph0056_04") 354) (Option.none) (Value.ref 167) (Value.none) (0))) #[])),
  (174, Obj.mk (Value.type "code") Option.none (Data.fields #[Value.str (Str.ofString "_law_rises") 386, Value.str (Str.ofString "_law_rises") 387, Value.str (Str.ofString "/claim/cut.py") 388, Value.int 102 0, Value.int 2 0, Value.int 0 0, Value.int 0 0, Value.int 3 0, Value.ref 169, Value.bool Bool.true, Value.int 181 0, Value.ref 170, Value.none, Value.ref 171, Value.ref 172, Value.ref 173, Value.int 391 0, Value.int 102 0, Value.str (Str.ofString "/claim/cut.py") 392]) #[]),
  (match partsOf p 10 none with | (a, b, s) => (175, Obj.mk (Value.type "function") Option.none (Data.func (FuncData.mk (Str.ofString "_law_rises") (Str.ofString "_law_rises") a (.stmts b) s (3) ([]) (Value.none) (Value.none) (Value.none) (Value.str (Str.ofString "law_ph0056_04") 354) (Option.none) (Value.ref 174) (Value.none) (0))) #[])),
  (181, Obj.mk (Value.type "code") Option.none (Data.fields #[Value.str (Str.ofString "_law_block") 394, Value.str (Str.ofString "_law_block") 395, Value.str (Str.ofString "/claim/cut.py") 396, Value.int 104 0, Value.int 1 0, Value.int 0 0, Value.int 0 0, Value.int 3 0, Value.ref 176, Value.bool Bool.true, Value.int 181 0, Value.ref 177, Value.none, Value.ref 178, Value.ref 179, Value.ref 180, Value.int 399 0, Value.int 104 0, Value.str (Str.ofString "/claim/cut.py") 400]) #[]),
  (match partsOf p 11 none with | (a, b, s) => (182, Obj.mk (Value.type "function") Option.none (Data.func (FuncData.mk (Str.ofString "_law_block") (Str.ofString "_law_block") a (.stmts b) s (3) ([]) (Value.none) (Value.none) (Value.none) (Value.str (Str.ofString "law_ph0056_04") 354) (Option.none) (Value.ref 181) (Value.none) (0))) #[])),
  (188, Obj.mk (Value.type "code") Option.none (Data.fields #[Value.str (Str.ofString "_law_pile") 402, Value.str (Str.ofString "_law_pile") 403, Value.str (Str.ofString "/claim/cut.py") 404, Value.int 107 0, Value.int 1 0, Value.int 0 0, Value.int 0 0, Value.int 3 0, Value.ref 183, Value.bool Bool.true, Value.int 181 0, Value.ref 184, Value.none, Value.ref 185, Value.ref 186, Value.ref 187, Value.int 412 0, Value.int 107 0, Value.str (Str.ofString "/claim/cut.py") 413]) #[]),
  (match partsOf p 12 none with | (a, b, s) => (189, Obj.mk (Value.type "function") Option.none (Data.func (FuncData.mk (Str.ofString "_law_pile") (Str.ofString "_law_pile") a (.stmts b) s (3) ([]) (Value.none) (Value.none) (Value.none) (Value.str (Str.ofString "law_ph0056_04") 354) (Option.none) (Value.ref 188) (Value.none) (0))) #[])),
  (195, Obj.mk (Value.type "code") Option.none (Data.fields #[Value.str (Str.ofString "_law_round") 415, Value.str (Str.ofString "_law_round") 416, Value.str (Str.ofString "/claim/cut.py") 417, Value.int 121 0, Value.int 1 0, Value.int 0 0, Value.int 0 0, Value.int 3 0, Value.ref 190, Value.bool Bool.true, Value.int 181 0, Value.ref 191, Value.none, Value.ref 192, Value.ref 193, Value.ref 194, Value.int 426 0, Value.int 121 0, Value.str (Str.ofString "/claim/cut.py") 427]) #[]),
  (match partsOf p 13 none with | (a, b, s) => (196, Obj.mk (Value.type "function") Option.none (Data.func (FuncData.mk (Str.ofString "_law_round") (Str.ofString "_law_round") a (.stmts b) s (3) ([]) (Value.none) (Value.none) (Value.none) (Value.str (Str.ofString "law_ph0056_04") 354) (Option.none) (Value.ref 195) (Value.none) (0))) #[])),
  (202, Obj.mk (Value.type "code") Option.none (Data.fields #[Value.str (Str.ofString "_law_means") 429, Value.str (Str.ofString "_law_means") 430, Value.str (Str.ofString "/claim/cut.py") 431, Value.int 136 0, Value.int 1 0, Value.int 0 0, Value.int 0 0, Value.int 3 0, Value.ref 197, Value.bool Bool.true, Value.int 181 0, Value.ref 198, Value.none, Value.ref 199, Value.ref 200, Value.ref 201, Value.int 440 0, Value.int 136 0, Value.str (Str.ofString "/claim/cut.py") 441]) #[]),
  (match partsOf p 14 none with | (a, b, s) => (203, Obj.mk (Value.type "function") Option.none (Data.func (FuncData.mk (Str.ofString "_law_means") (Str.ofString "_law_means") a (.stmts b) s (3) ([]) (Value.none) (Value.none) (Value.none) (Value.str (Str.ofString "law_ph0056_04") 354) (Option.none) (Value.ref 202) (Value.none) (0))) #[])),
  (207, Obj.mk (Value.type "code") Option.none (Data.fields #[Value.str (Str.ofString "law") 443, Value.str (Str.ofString "law") 444, Value.str (Str.ofString "/claim/cut.py") 445, Value.int 150 0, Value.int 1 0, Value.int 0 0, Value.int 0 0, Value.int 3 0, Value.ref 204, Value.bool Bool.true, Value.int 181 0, Value.ref 205, Value.none, Value.none, Value.none, Value.ref 206, Value.int 446 0, Value.int 150 0, Value.str (Str.ofString "/claim/cut.py") 447]) #[]),
  (match partsOf p 15 none with | (a, b, s) => (208, Obj.mk (Value.type "function") Option.none (Data.func (FuncData.mk (Str.ofString "law") (Str.ofString "law") a (.stmts b) s (3) ([]) (Value.none) (Value.none) (Value.none) (Value.str (Str.ofString "law_ph0056_04") 354) (Option.none) (Value.ref 207) (Value.none) (0))) #[]))]
noncomputable def K04 (P : Params) : Frag := K04at PySem.Challenge.pw_ph0056_04 P
noncomputable def keepB (p : Program) (ks : List Nat) : Program := { p with main := { p.main with body := ks.filterMap fun k => p.main.body[k]? } }
end Mine

namespace Mine

noncomputable def tbl04 : List Str := ["self", "initial_size", "fws", "string", "part", "startval", "fp", "ch", "token", "fiter", "size", "text", "at", "piece", "stream", "i", "popped", "script", "k", "numbers", "value", "sign", "manner", "one", "two", "word", "blanks", "pile", "turn", "ring", "lex", "line", "some", "marks", "other", "values", "means", "most", "j", "least", "mean", "number", "words", "blocks", "whole", "block", "blank"].map Str.ofString
noncomputable def cx04 (w : World) (base : Heap) (os : OsState) (mg mb : Str → Option Value) : Cx :=
  { prog := PySem.Challenge.pw_ph0056_04, w := w, base := base, T := [(67, 63), (74, 70), (167, 163)], os := os, K := K04 w.params, mg := mg, mb := mb, tbl := tbl04,
    give := giveP PySem.Challenge.pw_ph0056_04 9 base,
    gv := fun a => if a = 163 then some (⟨96, 4, 99, 20⟩, "_law_lexer.<locals>._law_give") else none }
structure G04 (mg mb : Str → Option Value) : Prop where
  range : mg "range" = none ∧ mb "range" = some (.type "range")
  len : mg "len" = none ∧ mb "len" = some (.builtin "len")
  sum : mg "sum" = none ∧ mb "sum" = some (.builtin "sum")
  iter : mg "iter" = none ∧ mb "iter" = some (.builtin "iter")
  super : mg "super" = none ∧ mb "super" = some (.type "super")
  str : mg "str" = none ∧ mb "str" = some (.type "str")
  empty : ∃ t, mg "EMPTYSTRING" = some (.str ⟨#[]⟩ t)
  acc : mg "_Accumulator" = some (.ref 101)
  nrc : mg "_netrclex" = some (.ref 143)
  law_numbers : mg "_law_numbers" = some (.ref 154)
  law_written : mg "_law_written" = some (.ref 161)
  law_lexer : mg "_law_lexer" = some (.ref 168)
  law_rises : mg "_law_rises" = some (.ref 175)
  law_block : mg "_law_block" = some (.ref 182)
  law_pile : mg "_law_pile" = some (.ref 189)
  law_round : mg "_law_round" = some (.ref 196)
  law_means : mg "_law_means" = some (.ref 203)
section
variable {w : World} {base : Heap} {os : OsState} {mg mb : Str → Option Value}

theorem pcA : PlainCls (cx04 w base os mg mb).K 101 := ⟨⟨_, by kernel_rfl, .lst (by kernel_rfl)⟩, by kernel_rfl⟩
theorem subA : SubList (cx04 w base os mg mb).K 101 :=
  ⟨pcA, by kernel_rfl, by kernel_rfl, by kernel_rfl, by kernel_rfl, by kernel_rfl⟩
theorem stA : StoreCls (cx04 w base os mg mb).K 101 :=
  ⟨by kernel_rfl, fun self cd h => by cases h; kernel_rfl, ⟨_, rfl, by kernel_rfl, by kernel_rfl⟩, by kernel_rfl⟩
theorem pcN : PlainCls (cx04 w base os mg mb).K 143 := ⟨⟨_, by kernel_rfl, .obj⟩, by kernel_rfl⟩
theorem stN : StoreCls (cx04 w base os mg mb).K 143 :=
  ⟨by kernel_rfl, fun self cd h => by cases h; kernel_rfl, ⟨_, rfl, by kernel_rfl, by kernel_rfl⟩, by kernel_rfl⟩
theorem mvN : MethVal (cx04 w base os mg mb).K 143 126 "_read_char" :=
  ⟨by kernel_rfl, by kernel_rfl, by kernel_rfl, by kernel_rfl, by kernel_rfl, by kernel_rfl, ⟨_, rfl, by kernel_rfl⟩, by decide⟩
theorem fsN : FnStore (cx04 w base os mg mb).K "read" := ⟨by kernel_rfl, by kernel_rfl⟩
end
end Mine

namespace Mine
section
variable {w : World} {base : Heap} {os : OsState} {mg mb : Str → Option Value}

theorem soLen (G : G04 mg mb) : SuperOk (cx04 w base os mg mb) 101 25 "__len__" "list.__len__" "wrapper_descriptor" "method-wrapper" :=
  ⟨⟨_, _, _, rfl⟩, ⟨_, rfl, by kernel_rfl, by kernel_rfl, by kernel_rfl⟩, by kernel_rfl, G.super.1, G.super.2, by kernel_rfl, binds_len, .inr rfl, by decide⟩
theorem soInit (G : G04 mg mb) : SuperOk (cx04 w base os mg mb) 101 25 "__init__" "list.__init__" "wrapper_descriptor" "method-wrapper" :=
  ⟨⟨_, _, _, rfl⟩, ⟨_, rfl, by kernel_rfl, by kernel_rfl, by kernel_rfl⟩, by kernel_rfl, G.super.1, G.super.2, by kernel_rfl, binds_init, .inr rfl, by decide⟩
theorem RF_part_count (ok : (cx04 w base os mg mb).Ok) (G : G04 mg mb) : RF (cx04 w base os mg mb) 1 98 (fPartCount 101) := by
  refine' @RF_partcount (cx04 w base os mg mb) 0 ok 101 25 98 _ _ _ _ _ _ _ _ _ _ _ _ _ _ _ _ _ _ subA (soLen G) ⟨⟨_, _, _, ?hK⟩, ?_, ⟨_, _, _, _, _, _, ?hC, ?hC2, ?_⟩, ?_, ?_, ?_, ?_, ?_, ?_⟩ ?hP ?_ ?_ ?he
  case hK => exact rfl
  case hC => exact rfl
  case hC2 => exact rfl
  case hP => exact rfl
  case he => intros; rfl
  all_goals first | kernel_rfl | rfl | decide | (intro v; rfl)
theorem RF_initA (ok : (cx04 w base os mg mb).Ok) (G : G04 mg mb) : RF (cx04 w base os mg mb) 1 38 (fInitAcc 101) := by
  refine' @RF_initAcc (cx04 w base os mg mb) 0 ok 101 25 38 _ _ _ _ _ _ _ _ _ _ _ _ _ _ _ _ ⟨0, 0, 0, 0⟩ _ _ _ _ _ _ subA stA ?_ (soInit G) ⟨⟨_, _, _, ?hK⟩, ?_, ⟨_, _, _, _, _, _, ?hC, ?hC2, ?_⟩, ?_, ?_, ?_, ?_, ?_, ?_⟩ ?hP ?_ ?_ ?_ ⟨_, ?hB⟩ ?he
  case hK => exact rfl
  case hC => exact rfl
  case hC2 => exact rfl
  case hP => exact rfl
  case he => intros; rfl
  case hB => intro s v X; exact BindsTo.of_defaults rfl (X _ _ rfl) rfl (by with_unfolding_all rfl) (by with_unfolding_all rfl)
  all_goals first | kernel_rfl | rfl | decide | (intro v; rfl)
theorem RF_makeA (ok : (cx04 w base os mg mb).Ok) (G : G04 mg mb) : RF (cx04 w base os mg mb) 2 101 (fMakeL 101 (fInitAcc 101)) :=
  RF_makeL ok (by kernel_rfl) (by kernel_rfl) (by kernel_rfl) (RF_initA ok G)

theorem RF_alen (ok : (cx04 w base os mg mb).Ok) (G : G04 mg mb) : RF (cx04 w base os mg mb) 1 68 (dFn [0] (F_alen 101)) := by
  refine' @RF_def (cx04 w base os mg mb) 0 ok _ _ _ _ _ _ _ _ _ _ _ _ _ _ _ _ [0] ["self"] _ ?hK ?_ (.cons rfl .nil) ?_ ?_ ?_ ?_ ?_ ?_ ?_ ?_ ?_
  case hK => exact rfl
  · kernel_rfl
  · decide
  · intro vs h; obtain ⟨a, rfl⟩ := len1 h; rfl
  · decide
  · decide
  · exact noFree (by decide)
  · rfl
  · rfl
  · rfl
  · intro L
    exact RS_cons (RS_ret (RE_sumAcc (p := (67, 63)) ok subA G.sum.1 G.sum.2 rfl rfl (.head _) rfl rfl rfl rfl (by decide) rfl rfl rfl (by decide) rfl rfl (eltLen rfl rfl rfl rfl (by decide) (by decide) G.len.1 G.len.2) (by kernel_rfl) (by kernel_rfl))) RS_nil
theorem RF_astr (ok : (cx04 w base os mg mb).Ok) (G : G04 mg mb) : RF (cx04 w base os mg mb) 1 75 (dFn [0] (F_astr 101)) := by
  obtain ⟨tg, ht⟩ := G.empty
  refine' @RF_def (cx04 w base os mg mb) 0 ok _ _ _ _ _ _ _ _ _ _ _ _ _ _ _ _ [0] ["self"] _ ?hK ?_ (.cons rfl .nil) ?_ ?_ ?_ ?_ ?_ ?_ ?_ ?_ ?_
  case hK => exact rfl
  · kernel_rfl
  · decide
  · intro vs h; obtain ⟨a, rfl⟩ := len1 h; rfl
  · decide
  · decide
  · exact noFree (by decide)
  · rfl
  · rfl
  · rfl
  · intro L
    exact RS_cons (RS_ret (RE_joinAcc (p := (74, 70)) ok subA ht rfl (by decide) rfl (.tail _ (.head _)) rfl rfl rfl rfl (by decide) rfl rfl rfl (by decide) rfl rfl (eltJoin rfl rfl rfl rfl (by decide) (by decide) (by decide) ht) rfl)) RS_nil
theorem giveL (ok : (cx04 w base os mg mb).Ok) (G : G04 mg mb) (d : Nat) : ∃ gp gb gs, giveOf PySem.Challenge.pw_ph0056_04 9 = some (gp, gb, gs) ∧ (∀ env : Env, env.scope = gs → RSL (cx04 w base os mg mb) d env (execs gb env) F_give) ∧
    (∀ c1 c2 doc pm cv ctv (v : Value), bindArgs (giveFd "_law_lexer.<locals>._law_give" gp gb gs c1 c2 doc pm cv ctv) ⟨[v], []⟩ = pure [(("size" : Str), v)]) ∧
    gs.names.lookup ("size" : Str) = some .local ∧ gs.names.lookup ("text" : Str) = some .free ∧ gs.names.lookup ("at" : Str) = some .free ∧
    (∀ x ∈ gs.names, x.2 ≠ .cell) ∧ (∀ n, gs.names.lookup n = some .free → n = "text" ∨ n = "at") ∧ gs.kind = .function ∧ gs.isCoroutine = false ∧ gs.isGenerator = false := by
  refine ⟨_, _, _, rfl, ?_, ?_, rfl, rfl, rfl, by decide, ?_, rfl, rfl, rfl⟩
  · intro env h
    obtain ⟨⟩ := env
    dsimp only at h
    subst h
    exact RSL_cons (RSL_assign ok rfl rfl (RE_sliceS (RE_Name rfl (by first | exact .inl rfl | exact .inr (.inl rfl) | exact .inr (.inr rfl)) (by decide) (by decide)) (@RP_some _ _ _ _ _ (RE_item (RE_Name rfl (by first | exact .inl rfl | exact .inr (.inl rfl) | exact .inr (.inr rfl)) (by decide) (by decide)) RE_int (fun _ _ => rfl))) (@RP_some _ _ _ _ _ (RE_BinOp (RE_item (RE_Name rfl (by first | exact .inl rfl | exact .inr (.inl rfl) | exact .inr (.inr rfl)) (by decide) (by decide)) RE_int (fun _ _ => rfl)) (RE_Name rfl (by first | exact .inl rfl | exact .inr (.inl rfl) | exact .inr (.inr rfl)) (by decide) (by decide)) rAdd))) rfl)
      (RSL_cons (RSL_augItem (RE_Name rfl (by first | exact .inl rfl | exact .inr (.inl rfl) | exact .inr (.inr rfl)) (by decide) (by decide)) RE_int (RE_bcall ok G.len.1 G.len.2 rfl (by decide) vLen (RL_cons (RE_Name rfl (by first | exact .inl rfl | exact .inr (.inl rfl) | exact .inr (.inr rfl)) (by decide) (by decide)) RL_nil rfl) rfl rfl) rIAdd)
      (RSL_cons (RSL_ret (RE_Name rfl (by first | exact .inl rfl | exact .inr (.inl rfl) | exact .inr (.inr rfl)) (by decide) (by decide))) RSL_nil))
  · intros; rfl
  · intro n hn
    have := mem_of_lookup hn
    simp at this
    rcases this with h | h
    · exact .inr h
    · exact .inl h
theorem RE_readL (ok : (cx04 w base os mg mb).Ok) (G : G04 mg mb) {d : Nat} {env : Env} {o e : PySem.Expr} {apos pos : Pos} {pl : Sem Bool} {f g : D}
    (ho : RE (cx04 w base os mg mb) (d + 1) env o f) (ha : RE (cx04 w base os mg mb) (d + 1) env e g) (hbase : attributeBase o "read" env (eval o env) = eval o env)
    (he : eval (.Call (.Attribute o "read" apos) [e] [] pos) env = (do
      let ov ← attributeBase o "read" env (eval o env)
      standAt apos.atName
      let (f, first) ← holding [ov] (getMethod ov "read" pl)
      callWith pos f first (backTo pos (starEach [e] env)) []) := by rfl)
    (hs : starEach [e] env = (false, eval e env) :: starEach [] env := by rfl) : RE (cx04 w base os mg mb) (d + 1) env (.Call (.Attribute o "read" apos) [e] [] pos) (dRead (oRead 10 11 12 F_give) f g) := by
  obtain ⟨gp, gb, gs, hg, h1, h2, h3, h4, h5, h6, h7, h8, h9, h10⟩ := giveL ok G d
  refine RE_read ok (fun fd hf => ?_) h1 h2 rfl rfl rfl h3 h4 h5 h6 h7 h8 h9 h10 ho ha hbase he hs
  obtain ⟨gp', gb', gs', hg', r⟩ := hf
  rw [hg] at hg'
  cases hg'
  exact r
set_option maxHeartbeats 4000000 in
theorem RF_ninit (ok : (cx04 w base os mg mb).Ok) (G : G04 mg mb) : RF (cx04 w base os mg mb) 1 119 (dFn [0, 6] (F_ninit 143)) := by
  refine' @RF_def (cx04 w base os mg mb) 0 ok _ _ _ _ _ _ _ _ _ _ _ _ _ _ _ _ [0, 6] ["self", "fp"] _ ?hK ?_ (.cons rfl (.cons rfl .nil)) ?_ ?_ ?_ ?_ ?_ ?_ ?_ ?_ ?_
  case hK => exact rfl
  · kernel_rfl
  · decide
  · intro vs h; obtain ⟨a, b, rfl⟩ := len2 h; rfl
  · decide
  · decide
  · exact noFree (by decide)
  · rfl
  · rfl
  · rfl
  · intro L
    exact (RS_cons (RS_asgAttr ok stN (by kernel_rfl) RE_int (RE_Name rfl (by first | exact .inl rfl | exact .inr (.inl rfl) | exact .inr (.inr rfl)) (by decide) (by decide)) rfl) (RS_cons (RS_asgAttr ok stN (by kernel_rfl) (RE_Name rfl (by first | exact .inl rfl | exact .inr (.inl rfl) | exact .inr (.inr rfl)) (by decide) (by decide)) (RE_Name rfl (by first | exact .inl rfl | exact .inr (.inl rfl) | exact .inr (.inr rfl)) (by decide) (by decide)) rfl) (RS_cons (RS_asgAttr ok stN (by kernel_rfl) RE_str (RE_Name rfl (by first | exact .inl rfl | exact .inr (.inl rfl) | exact .inr (.inr rfl)) (by decide) (by decide)) rfl) (RS_cons (RS_asgAttr ok stN (by kernel_rfl) (RE_listM RL_nil) (RE_Name rfl (by first | exact .inl rfl | exact .inr (.inl rfl) | exact .inr (.inr rfl)) (by decide) (by decide)) rfl) RS_nil))))

theorem RF_makeN (ok : (cx04 w base os mg mb).Ok) (G : G04 mg mb) : RF (cx04 w base os mg mb) 2 143 (fMakeP 143 (dFn [0, 6] (F_ninit 143))) :=
  RF_makeP ok (by kernel_rfl) (by kernel_rfl) (by kernel_rfl) (RF_ninit ok G)
theorem RF_lexerL (ok : (cx04 w base os mg mb).Ok) (G : G04 mg mb) : RF (cx04 w base os mg mb) 3 168 (fLexer (fMakeP 143 (dFn [0, 6] (F_ninit 143)))) := by
  refine' @RF_lexer (cx04 w base os mg mb) 2 ok (167, 163) 168 143 _ _ _ _ "_law_lexer.<locals>._law_give" _ _ _ _ _ _ _ _ _ _ _ _ _ _ _ _ _ _ _ _ _ _ _ _ _ _ _ _ ?hK ?_ ?_ ?_ ?_ ?hg G.nrc ?_ (RF_makeN ok G) fsN ?_ ?_ ?_ ?_ ?_ ?_ ?_ ?_ ?_ ?_ ?_ ?_ ?_ ?hc ?_
  case hK => exact rfl
  case hg => exact fun c1 c2 doc pm cv ctv h1 h2 h3 => ⟨_, _, _, rfl, c1, c2, doc, pm, cv, ctv, h1, h2, h3, rfl⟩
  case hc => exact fun L => ⟨_, _, rfl, Nat.ne_of_lt (Nat.lt_succ_self _), rfl, rfl⟩
  all_goals first | kernel_rfl | rfl | decide | (intros; rfl) | exact (.tail _ (.tail _ (.head _))) | exact ⟨rfl, rfl⟩
set_option maxHeartbeats 4000000 in
theorem RF_read_char (ok : (cx04 w base os mg mb).Ok) (G : G04 mg mb) : RF (cx04 w base os mg mb) 2 126 (dFn [0] (F_read_char 143)) := by
  refine' @RF_def (cx04 w base os mg mb) 1 ok _ _ _ _ _ _ _ _ _ _ _ _ _ _ _ _ [0] ["self"] _ ?hK ?_ (.cons rfl .nil) ?_ ?_ ?_ ?_ ?_ ?_ ?_ ?_ ?_
  case hK => exact rfl
  · kernel_rfl
  · decide
  · intro vs h; obtain ⟨a, rfl⟩ := len1 h; rfl
  · decide
  · decide
  · exact noFree (by decide)
  · rfl
  · rfl
  · rfl
  · intro L
    exact (RS_cons (RS_assign ok rfl (by first | exact .inl rfl | exact .inr rfl) (RE_readL ok G (RE_attr (RE_Name rfl (by first | exact .inl rfl | exact .inr (.inl rfl) | exact .inr (.inr rfl)) (by decide) (by decide)) (rAttr ok pcN (by kernel_rfl) (by kernel_rfl))) RE_int rfl) rfl) (RS_cons (RS_if (RB_cmp (RE_Name rfl (by first | exact .inl rfl | exact .inr (.inl rfl) | exact .inr (.inr rfl)) (by decide) (by decide)) RE_str rEq) (RS_cons (RS_augAttr ok stN (by kernel_rfl) (RE_Name rfl (by first | exact .inl rfl | exact .inr (.inl rfl) | exact .inr (.inr rfl)) (by decide) (by decide)) (rAttr ok pcN (by kernel_rfl) (by kernel_rfl)) RE_int rIAdd) RS_nil) RS_nil) (RS_cons (RS_ret (RE_Name rfl (by first | exact .inl rfl | exact .inr (.inl rfl) | exact .inr (.inr rfl)) (by decide) (by decide))) RS_nil)))

set_option maxHeartbeats 4000000 in
theorem RF_get_token (ok : (cx04 w base os mg mb).Ok) (G : G04 mg mb) : RF (cx04 w base os mg mb) 4 133 (dFn [0] (F_get_token 143 126)) := by
  refine' @RF_def (cx04 w base os mg mb) 3 ok _ _ _ _ _ _ _ _ _ _ _ _ _ _ _ _ [0] ["self"] _ ?hK ?_ (.cons rfl .nil) ?_ ?_ ?_ ?_ ?_ ?_ ?_ ?_ ?_
  case hK => exact rfl
  · kernel_rfl
  · decide
  · intro vs h; obtain ⟨a, rfl⟩ := len1 h; rfl
  · decide
  · decide
  · exact noFree (by decide)
  · rfl
  · rfl
  · rfl
  · intro L
    exact (RS_cons (RS_if (RB_value (RE_attr (RE_Name rfl (by first | exact .inl rfl | exact .inr (.inl rfl) | exact .inr (.inr rfl)) (by decide) (by decide)) (rAttr ok pcN (by kernel_rfl) (by kernel_rfl)))) (RS_cons (RS_ret (RE_bmeth (gList PySem.F.slot_list_pop PySem.F.type_list_pop) vLpop (RE_attr (RE_Name rfl (by first | exact .inl rfl | exact .inr (.inl rfl) | exact .inr (.inr rfl)) (by decide) (by decide)) (rAttr ok pcN (by kernel_rfl) (by kernel_rfl))) (RL_cons RE_int RL_nil rfl) rfl rfl rfl rfl)) RS_nil) RS_nil) (RS_cons (RS_assign ok rfl (by first | exact .inl rfl | exact .inr rfl) RE_str rfl) (RS_cons (RS_assign ok rfl (by first | exact .inl rfl | exact .inr rfl) (RE_iter ok G.iter.1 G.iter.2 rfl mvN (RE_Name rfl (by first | exact .inl rfl | exact .inr (.inl rfl) | exact .inr (.inr rfl)) (by decide) (by decide))) rfl) (RS_cons (RS_forC ok 1000 ⟨_, _, rfl, rfl⟩ (RF.up (RF_read_char ok G) (by decide)) (RE_Name rfl (by first | exact .inl rfl | exact .inr (.inl rfl) | exact .inr (.inr rfl)) (by decide) (by decide)) rfl rfl (RS_cons (RS_if (RB_cmp (RE_Name rfl (by first | exact .inl rfl | exact .inr (.inl rfl) | exact .inr (.inr rfl)) (by decide) (by decide)) (RE_attr (RE_Name rfl (by first | exact .inl rfl | exact .inr (.inl rfl) | exact .inr (.inr rfl)) (by decide) (by decide)) (rAttr ok pcN (by kernel_rfl) (by kernel_rfl))) rIn) (RS_cons RS_continue RS_nil) RS_nil) (RS_cons (RS_if (RB_cmp (RE_Name rfl (by first | exact .inl rfl | exact .inr (.inl rfl) | exact .inr (.inr rfl)) (by decide) (by decide)) RE_str rEq) (RS_cons (RS_forC ok 1000 ⟨_, _, rfl, rfl⟩ (RF.up (RF_read_char ok G) (by decide)) (RE_Name rfl (by first | exact .inl rfl | exact .inr (.inl rfl) | exact .inr (.inr rfl)) (by decide) (by decide)) rfl rfl (RS_cons (RS_if (RB_cmp (RE_Name rfl (by first | exact .inl rfl | exact .inr (.inl rfl) | exact .inr (.inr rfl)) (by decide) (by decide)) RE_str rEq) (RS_cons (RS_ret (RE_Name rfl (by first | exact .inl rfl | exact .inr (.inl rfl) | exact .inr (.inr rfl)) (by decide) (by decide))) RS_nil) (RS_cons (RS_if (RB_cmp (RE_Name rfl (by first | exact .inl rfl | exact .inr (.inl rfl) | exact .inr (.inr rfl)) (by decide) (by decide)) RE_str rEq) (RS_cons (RS_assign ok rfl (by first | exact .inl rfl | exact .inr rfl) (RE_meth0 ok pcN (by kernel_rfl) (by kernel_rfl) ⟨_, _, rfl, rfl⟩ (RF.up (RF_read_char ok G) (by decide)) (RE_Name rfl (by first | exact .inl rfl | exact .inr (.inl rfl) | exact .inr (.inr rfl)) (by decide) (by decide)) rfl rfl) rfl) RS_nil) RS_nil) RS_nil)) (RS_cons (RS_augName ok rfl (by first | exact .inl rfl | exact .inr rfl) (RE_Name rfl (by first | exact .inl rfl | exact .inr (.inl rfl) | exact .inr (.inr rfl)) (by decide) (by decide)) rIAdd) RS_nil)) (fun _ => rfl)) RS_nil) (RS_cons (RS_if (RB_cmp (RE_Name rfl (by first | exact .inl rfl | exact .inr (.inl rfl) | exact .inr (.inr rfl)) (by decide) (by decide)) RE_str rEq) (RS_cons (RS_assign ok rfl (by first | exact .inl rfl | exact .inr rfl) (RE_meth0 ok pcN (by kernel_rfl) (by kernel_rfl) ⟨_, _, rfl, rfl⟩ (RF.up (RF_read_char ok G) (by decide)) (RE_Name rfl (by first | exact .inl rfl | exact .inr (.inl rfl) | exact .inr (.inr rfl)) (by decide) (by decide)) rfl rfl) rfl) RS_nil) RS_nil) (RS_cons (RS_augName ok rfl (by first | exact .inl rfl | exact .inr rfl) (RE_Name rfl (by first | exact .inl rfl | exact .inr (.inl rfl) | exact .inr (.inr rfl)) (by decide) (by decide)) rIAdd) (RS_cons (RS_forC ok 1000 ⟨_, _, rfl, rfl⟩ (RF.up (RF_read_char ok G) (by decide)) (RE_Name rfl (by first | exact .inl rfl | exact .inr (.inl rfl) | exact .inr (.inr rfl)) (by decide) (by decide)) rfl rfl (RS_cons (RS_if (RB_cmp (RE_Name rfl (by first | exact .inl rfl | exact .inr (.inl rfl) | exact .inr (.inr rfl)) (by decide) (by decide)) (RE_attr (RE_Name rfl (by first | exact .inl rfl | exact .inr (.inl rfl) | exact .inr (.inr rfl)) (by decide) (by decide)) (rAttr ok pcN (by kernel_rfl) (by kernel_rfl))) rIn) (RS_cons (RS_ret (RE_Name rfl (by first | exact .inl rfl | exact .inr (.inl rfl) | exact .inr (.inr rfl)) (by decide) (by decide))) RS_nil) (RS_cons (RS_if (RB_cmp (RE_Name rfl (by first | exact .inl rfl | exact .inr (.inl rfl) | exact .inr (.inr rfl)) (by decide) (by decide)) RE_str rEq) (RS_cons (RS_assign ok rfl (by first | exact .inl rfl | exact .inr rfl) (RE_meth0 ok pcN (by kernel_rfl) (by kernel_rfl) ⟨_, _, rfl, rfl⟩ (RF.up (RF_read_char ok G) (by decide)) (RE_Name rfl (by first | exact .inl rfl | exact .inr (.inl rfl) | exact .inr (.inr rfl)) (by decide) (by decide)) rfl rfl) rfl) RS_nil) RS_nil) RS_nil)) (RS_cons (RS_augName ok rfl (by first | exact .inl rfl | exact .inr rfl) (RE_Name rfl (by first | exact .inl rfl | exact .inr (.inl rfl) | exact .inr (.inr rfl)) (by decide) (by decide)) rIAdd) RS_nil)) (fun _ => rfl)) RS_nil)))) RS_nil)) (fun _ => rfl)) (RS_cons (RS_ret (RE_Name rfl (by first | exact .inl rfl | exact .inr (.inl rfl) | exact .inr (.inr rfl)) (by decide) (by decide))) RS_nil)))))

set_option maxHeartbeats 4000000 in
theorem RF_push_token (ok : (cx04 w base os mg mb).Ok) (G : G04 mg mb) : RF (cx04 w base os mg mb) 1 140 (dFn [0, 8] (F_push_token 143)) := by
  refine' @RF_def (cx04 w base os mg mb) 0 ok _ _ _ _ _ _ _ _ _ _ _ _ _ _ _ _ [0, 8] ["self", "token"] _ ?hK ?_ (.cons rfl (.cons rfl .nil)) ?_ ?_ ?_ ?_ ?_ ?_ ?_ ?_ ?_
  case hK => exact rfl
  · kernel_rfl
  · decide
  · intro vs h; obtain ⟨a, b, rfl⟩ := len2 h; rfl
  · decide
  · decide
  · exact noFree (by decide)
  · rfl
  · rfl
  · rfl
  · intro L
    exact (RS_cons (RS_expr (RE_bmeth (gList PySem.F.slot_list_append PySem.F.type_list_append) vAppend (RE_attr (RE_Name rfl (by first | exact .inl rfl | exact .inr (.inl rfl) | exact .inr (.inr rfl)) (by decide) (by decide)) (rAttr ok pcN (by kernel_rfl) (by kernel_rfl))) (RL_cons (RE_Name rfl (by first | exact .inl rfl | exact .inr (.inl rfl) | exact .inr (.inr rfl)) (by decide) (by decide)) RL_nil rfl) rfl rfl rfl rfl) rfl rfl) RS_nil)

set_option maxHeartbeats 4000000 in
theorem RF_push (ok : (cx04 w base os mg mb).Ok) (G : G04 mg mb) : RF (cx04 w base os mg mb) 1 45 (dFn [0, 2, 3] (F_push 101)) := by
  refine' @RF_def (cx04 w base os mg mb) 0 ok _ _ _ _ _ _ _ _ _ _ _ _ _ _ _ _ [0, 2, 3] ["self", "fws", "string"] _ ?hK ?_ (.cons rfl (.cons rfl (.cons rfl .nil))) ?_ ?_ ?_ ?_ ?_ ?_ ?_ ?_ ?_
  case hK => exact rfl
  · kernel_rfl
  · decide
  · intro vs h; obtain ⟨a, b, c, rfl⟩ := len3 h; rfl
  · decide
  · decide
  · exact noFree (by decide)
  · rfl
  · rfl
  · rfl
  · intro L
    exact (RS_cons (RS_expr (RE_bmeth (gInst ok pcA (by kernel_rfl) PySem.F.type_list_append) (vAppendI ok subA) (RE_Name rfl (by first | exact .inl rfl | exact .inr (.inl rfl) | exact .inr (.inr rfl)) (by decide) (by decide)) (RL_cons (RE_tuple (RL_cons (RE_Name rfl (by first | exact .inl rfl | exact .inr (.inl rfl) | exact .inr (.inr rfl)) (by decide) (by decide)) (RL_cons (RE_Name rfl (by first | exact .inl rfl | exact .inr (.inl rfl) | exact .inr (.inr rfl)) (by decide) (by decide)) RL_nil rfl) rfl)) RL_nil rfl) rfl rfl rfl rfl) rfl rfl) RS_nil)

end
end Mine

namespace Mine
section
variable {w : World} {base : Heap} {os : OsState} {mg mb : Str → Option Value}
theorem siA : SubItems (cx04 w base os mg mb).K 101 := ⟨by kernel_rfl, by kernel_rfl, by kernel_rfl⟩
noncomputable def F_pop_from : DS := (dSeq (dAsg 16 (dSliceI 101 (dVar 0) (some (dVar 15)) none)) (dSeq (dAsgSliceI 101 (dLst dL0) (dVar 0) (dVar 15)) (dSeq (dRet (dVar 16)) dNil)))
set_option maxHeartbeats 4000000 in
theorem RF_pop_from (ok : (cx04 w base os mg mb).Ok) (G : G04 mg mb) : RF (cx04 w base os mg mb) 1 53 (dFn [0, 15] F_pop_from) := by
  refine' @RF_defD (cx04 w base os mg mb) 0 ok _ _ _ _ _ _ _ _ _ _ _ _ _ _ _ _ [0, 15] ["self", "i"] _ ?hK ?_ (.cons rfl (.cons rfl .nil)) ?_ ?_ ?_ ?_ ?_ ?_ ?_ ?_ ?_
  case hK => exact rfl
  · kernel_rfl
  · decide
  · intro s vs X h; obtain ⟨a, b, rfl⟩ := len2 h; exact BindsTo.of_defaults rfl (X _ _ rfl) rfl (by with_unfolding_all rfl) (by with_unfolding_all rfl)
  · decide
  · decide
  · exact noFree (by decide)
  · rfl
  · rfl
  · rfl
  · intro L
    exact (RS_cons (RS_assign ok rfl (by first | exact .inl rfl | exact .inr rfl) (RE_sliceI ok subA siA (RE_Name rfl (by first | exact .inl rfl | exact .inr (.inl rfl) | exact .inr (.inr rfl)) (by decide) (by decide)) (@RP_some _ _ _ _ _ (RE_Name rfl (by first | exact .inl rfl | exact .inr (.inl rfl) | exact .inr (.inr rfl)) (by decide) (by decide))) RP_none) rfl) (RS_cons (RS_asgSliceI ok subA siA (RE_list RL_nil) (RE_Name rfl (by first | exact .inl rfl | exact .inr (.inl rfl) | exact .inr (.inr rfl)) (by decide) (by decide)) (RE_Name rfl (by first | exact .inl rfl | exact .inr (.inl rfl) | exact .inr (.inr rfl)) (by decide) (by decide)) rfl) (RS_cons (RS_ret (RE_Name rfl (by first | exact .inl rfl | exact .inr (.inl rfl) | exact .inr (.inr rfl)) (by decide) (by decide))) RS_nil)))
noncomputable def F_law_numbers : DS := (dSeq (dAsg 19 (dLstM (dL1 (dC (.int 1)) (dL1 (dC (.int 8)) (dL1 (dC (.int 0)) (dL1 (dC (.int 10)) (dL1 (dC (.int 5)) (dL1 (dC (.int 9)) dL0)))))))) (dSeq (dFor none 100 (dCall fRange (dL1 (dCall fLen (dL1 (dVar 17) dL0)) dL0)) (tgV 18) (dSeq (dAugI (dVar 19) (dOp2 oMod (dVar 18) (dC (.int 6))) oIAdd (dOp2 oItem (dVar 17) (dVar 18))) dNil)) (dSeq (dRet (dVar 19)) dNil)))
set_option maxHeartbeats 4000000 in
theorem RF_law_numbers (ok : (cx04 w base os mg mb).Ok) (G : G04 mg mb) : RF (cx04 w base os mg mb) 1 154 (dFn [17] F_law_numbers) := by
  refine' @RF_def (cx04 w base os mg mb) 0 ok _ _ _ _ _ _ _ _ _ _ _ _ _ _ _ _ [17] ["script"] _ ?hK ?_ (.cons rfl .nil) ?_ ?_ ?_ ?_ ?_ ?_ ?_ ?_ ?_
  case hK => exact rfl
  · kernel_rfl
  · decide
  · intro vs h; obtain ⟨a, rfl⟩ := len1 h; rfl
  · decide
  · decide
  · exact noFree (by decide)
  · rfl
  · rfl
  · rfl
  · intro L
    exact (RS_cons (RS_assign ok rfl (by first | exact .inl rfl | exact .inr rfl) (RE_listM (RL_cons RE_int (RL_cons RE_int (RL_cons RE_int (RL_cons RE_int (RL_cons RE_int (RL_cons RE_int RL_nil rfl) rfl) rfl) rfl) rfl) rfl)) rfl) (RS_cons (RS_for ok subNone 100 (RE_tcall ok G.range.1 G.range.2 rfl (by decide) vRange (RL_cons (RE_bcall ok G.len.1 G.len.2 rfl (by decide) vLen (RL_cons (RE_Name rfl (by first | exact .inl rfl | exact .inr (.inl rfl) | exact .inr (.inr rfl)) (by decide) (by decide)) RL_nil rfl) rfl rfl) RL_nil rfl) rfl rfl) (RTg_name ok rfl (by first | exact .inl ⟨rfl, by simp [fa]⟩ | exact .inr ⟨rfl, fun _ h => h⟩)) goOk_name (RS_cons (RS_augItem (RE_Name rfl (by first | exact .inl rfl | exact .inr (.inl rfl) | exact .inr (.inr rfl)) (by decide) (by decide)) (RE_BinOp (RE_Name rfl (by first | exact .inl rfl | exact .inr (.inl rfl) | exact .inr (.inr rfl)) (by decide) (by decide)) RE_int rMod) (RE_item (RE_Name rfl (by first | exact .inl rfl | exact .inr (.inl rfl) | exact .inr (.inr rfl)) (by decide) (by decide)) (RE_Name rfl (by first | exact .inl rfl | exact .inr (.inl rfl) | exact .inr (.inr rfl)) (by decide) (by decide)) (fun _ _ => rfl)) rIAdd) RS_nil) (fun _ => rfl)) (RS_cons (RS_ret (RE_Name rfl (by first | exact .inl rfl | exact .inr (.inl rfl) | exact .inr (.inr rfl)) (by decide) (by decide))) RS_nil)))
noncomputable def F_law_written : DS := (dSeq (dIf (dTru (dOp2 oEq (dVar 22) (dC (.int 1)))) (dSeq (dRet (dOp2 oAdd (dOp2 oAdd (dC (.str "\\ ")) (dOp2 oMul (dOp2 oAdd (dC (.str "\\")) (dVar 21)) (dVar 20))) (dC (.str "\n")))) dNil) dNil) (dSeq (dRet (dOp2 oAdd (dOp2 oAdd (dC (.str "\" ")) (dOp2 oMul (dIte (dTru (dOp2 oIn (dVar 21) (dC (.str "#x")))) (dVar 21) (dOp2 oAdd (dC (.str "\\")) (dVar 21))) (dVar 20))) (dC (.str "\"")))) dNil))
set_option maxHeartbeats 4000000 in
theorem RF_law_written (ok : (cx04 w base os mg mb).Ok) (G : G04 mg mb) : RF (cx04 w base os mg mb) 1 161 (dFn [20, 21, 22] F_law_written) := by
  refine' @RF_def (cx04 w base os mg mb) 0 ok _ _ _ _ _ _ _ _ _ _ _ _ _ _ _ _ [20, 21, 22] ["value", "sign", "manner"] _ ?hK ?_ (.cons rfl (.cons rfl (.cons rfl .nil))) ?_ ?_ ?_ ?_ ?_ ?_ ?_ ?_ ?_
  case hK => exact rfl
  · kernel_rfl
  · decide
  · intro vs h; obtain ⟨a, b, c, rfl⟩ := len3 h; rfl
  · decide
  · decide
  · exact noFree (by decide)
  · rfl
  · rfl
  · rfl
  · intro L
    exact (RS_cons (RS_if (RB_cmp (RE_Name rfl (by first | exact .inl rfl | exact .inr (.inl rfl) | exact .inr (.inr rfl)) (by decide) (by decide)) RE_int rEq) (RS_cons (RS_ret (RE_BinOp (RE_BinOp RE_str (RE_BinOp (RE_BinOp RE_str (RE_Name rfl (by first | exact .inl rfl | exact .inr (.inl rfl) | exact .inr (.inr rfl)) (by decide) (by decide)) rAdd) (RE_Name rfl (by first | exact .inl rfl | exact .inr (.inl rfl) | exact .inr (.inr rfl)) (by decide) (by decide)) rMul) rAdd) RE_str rAdd)) RS_nil) RS_nil) (RS_cons (RS_ret (RE_BinOp (RE_BinOp RE_str (RE_BinOp (RE_ite (RB_cmp (RE_Name rfl (by first | exact .inl rfl | exact .inr (.inl rfl) | exact .inr (.inr rfl)) (by decide) (by decide)) RE_str rIn) (RE_Name rfl (by first | exact .inl rfl | exact .inr (.inl rfl) | exact .inr (.inr rfl)) (by decide) (by decide)) (RE_BinOp RE_str (RE_Name rfl (by first | exact .inl rfl | exact .inr (.inl rfl) | exact .inr (.inr rfl)) (by decide) (by decide)) rAdd)) (RE_Name rfl (by first | exact .inl rfl | exact .inr (.inl rfl) | exact .inr (.inr rfl)) (by decide) (by decide)) rMul) rAdd) RE_str rAdd)) RS_nil))
noncomputable def F_law_rises : DS := (dSeq (dRet (dOp2 oLt (dOp2 oMul (dCall fLen (dL1 (dOp2 oItem (dVar 23) (dC (.int 1))) dL0)) (dCall fLen (dL1 (dOp2 oItem (dVar 24) (dC (.int 0))) dL0))) (dOp2 oMul (dCall fLen (dL1 (dOp2 oItem (dVar 24) (dC (.int 1))) dL0)) (dCall fLen (dL1 (dOp2 oItem (dVar 23) (dC (.int 0))) dL0))))) dNil)
set_option maxHeartbeats 4000000 in
theorem RF_law_rises (ok : (cx04 w base os mg mb).Ok) (G : G04 mg mb) : RF (cx04 w base os mg mb) 1 175 (dFn [23, 24] F_law_rises) := by
  refine' @RF_def (cx04 w base os mg mb) 0 ok _ _ _ _ _ _ _ _ _ _ _ _ _ _ _ _ [23, 24] ["one", "two"] _ ?hK ?_ (.cons rfl (.cons rfl .nil)) ?_ ?_ ?_ ?_ ?_ ?_ ?_ ?_ ?_
  case hK => exact rfl
  · kernel_rfl
  · decide
  · intro vs h; obtain ⟨a, b, rfl⟩ := len2 h; rfl
  · decide
  · decide
  · exact noFree (by decide)
  · rfl
  · rfl
  · rfl
  · intro L
    exact (RS_cons (RS_ret (RE_Compare (RE_BinOp (RE_bcall ok G.len.1 G.len.2 rfl (by decide) vLen (RL_cons (RE_item (RE_Name rfl (by first | exact .inl rfl | exact .inr (.inl rfl) | exact .inr (.inr rfl)) (by decide) (by decide)) RE_int (fun _ _ => rfl)) RL_nil rfl) rfl rfl) (RE_bcall ok G.len.1 G.len.2 rfl (by decide) vLen (RL_cons (RE_item (RE_Name rfl (by first | exact .inl rfl | exact .inr (.inl rfl) | exact .inr (.inr rfl)) (by decide) (by decide)) RE_int (fun _ _ => rfl)) RL_nil rfl) rfl rfl) rMul) (RE_BinOp (RE_bcall ok G.len.1 G.len.2 rfl (by decide) vLen (RL_cons (RE_item (RE_Name rfl (by first | exact .inl rfl | exact .inr (.inl rfl) | exact .inr (.inr rfl)) (by decide) (by decide)) RE_int (fun _ _ => rfl)) RL_nil rfl) rfl rfl) (RE_bcall ok G.len.1 G.len.2 rfl (by decide) vLen (RL_cons (RE_item (RE_Name rfl (by first | exact .inl rfl | exact .inr (.inl rfl) | exact .inr (.inr rfl)) (by decide) (by decide)) RE_int (fun _ _ => rfl)) RL_nil rfl) rfl rfl) rMul) rLt)) RS_nil)
noncomputable def F_law_block : DS := (dSeq (dAsg 26 (dBMeth selStr fCount (dVar 25) (dL1 (dC (.str " ")) dL0))) (dSeq (dRet (dTup (dL1 (dSliceS (dVar 25) none (some (dVar 26))) (dL1 (dSliceS (dVar 25) (some (dVar 26)) none) dL0)))) dNil))
set_option maxHeartbeats 4000000 in
theorem RF_law_block (ok : (cx04 w base os mg mb).Ok) (G : G04 mg mb) : RF (cx04 w base os mg mb) 1 182 (dFn [25] F_law_block) := by
  refine' @RF_def (cx04 w base os mg mb) 0 ok _ _ _ _ _ _ _ _ _ _ _ _ _ _ _ _ [25] ["word"] _ ?hK ?_ (.cons rfl .nil) ?_ ?_ ?_ ?_ ?_ ?_ ?_ ?_ ?_
  case hK => exact rfl
  · kernel_rfl
  · decide
  · intro vs h; obtain ⟨a, rfl⟩ := len1 h; rfl
  · decide
  · decide
  · exact noFree (by decide)
  · rfl
  · rfl
  · rfl
  · intro L
    exact (RS_cons (RS_assign ok rfl (by first | exact .inl rfl | exact .inr rfl) (RE_bmeth (gStr PySem.F.slot_str_count PySem.F.type_str_count) vCount (RE_Name rfl (by first | exact .inl rfl | exact .inr (.inl rfl) | exact .inr (.inr rfl)) (by decide) (by decide)) (RL_cons RE_str RL_nil rfl) rfl rfl rfl rfl) rfl) (RS_cons (RS_ret (RE_tuple (RL_cons (RE_sliceS (RE_Name rfl (by first | exact .inl rfl | exact .inr (.inl rfl) | exact .inr (.inr rfl)) (by decide) (by decide)) RP_none (@RP_some _ _ _ _ _ (RE_Name rfl (by first | exact .inl rfl | exact .inr (.inl rfl) | exact .inr (.inr rfl)) (by decide) (by decide)))) (RL_cons (RE_sliceS (RE_Name rfl (by first | exact .inl rfl | exact .inr (.inl rfl) | exact .inr (.inr rfl)) (by decide) (by decide)) (@RP_some _ _ _ _ _ (RE_Name rfl (by first | exact .inl rfl | exact .inr (.inl rfl) | exact .inr (.inr rfl)) (by decide) (by decide))) RP_none) RL_nil rfl) rfl))) RS_nil))
noncomputable def F_law_pile : DS := (dSeq (dAsg 27 (dCall (fMakeL 101 (fInitAcc 101)) dL0)) (dSeq (dFor none 100 (dVar 42) (tgV 25) (dSeq (dExprN (dMeth 101 "push" (dFn [0, 2, 3] (F_push 101)) (dVar 27) (dL1 (dSliceS (dVar 25) none (some (dC (.int 1)))) (dL1 (dSliceS (dVar 25) (some (dC (.int 1))) none) dL0)))) (dSeq (dFor none 100 (dCall fRange (dL1 (dC (.int 6)) dL0)) (tgV 28) (dSeq (dIf (dTru (dOp2 oGt (dMeth 101 "part_count" (fPartCount 101) (dVar 27) dL0) (dC (.int 1)))) (dSeq (dAsg 29 (dMeth 101 "pop_from" (dFn [0, 15] F_pop_from) (dVar 27) (dL1 (dOp2 oSub (dMeth 101 "part_count" (fPartCount 101) (dVar 27) dL0) (dC (.int 2))) dL0))) (dSeq (dAsgT (tgTR [23, 24]) (dTup (dL1 (dOp2 oItem (dVar 29) (dC (.int 0))) (dL1 (dOp2 oItem (dVar 29) (dOp1 oNeg (dC (.int 1)))) dL0)))) (dSeq (dIf (dTru (dCall (dFn [23, 24] F_law_rises) (dL1 (dVar 23) (dL1 (dVar 24) dL0)))) (dSeq (dExprN (dMeth 101 "push" (dFn [0, 2, 3] (F_push 101)) (dVar 27) (dL1 (dOp2 oItem (dVar 23) (dC (.int 0))) (dL1 (dOp2 oItem (dVar 23) (dC (.int 1))) dL0)))) (dSeq (dExprN (dMeth 101 "push" (dFn [0, 2, 3] (F_push 101)) (dVar 27) (dL1 (dOp2 oItem (dVar 24) (dC (.int 0))) (dL1 (dOp2 oItem (dVar 24) (dC (.int 1))) dL0)))) (dSeq dBrk dNil))) dNil) (dSeq (dExprN (dMeth 101 "push" (dFn [0, 2, 3] (F_push 101)) (dVar 27) (dL1 (dOp2 oAdd (dOp2 oItem (dVar 23) (dC (.int 0))) (dOp2 oItem (dVar 24) (dC (.int 0)))) (dL1 (dOp2 oAdd (dOp2 oItem (dVar 23) (dC (.int 1))) (dOp2 oItem (dVar 24) (dC (.int 1)))) dL0)))) dNil)))) dNil) dNil)) dNil))) (dSeq (dRet (dVar 27)) dNil)))
set_option maxHeartbeats 4000000 in
theorem RF_law_pile (ok : (cx04 w base os mg mb).Ok) (G : G04 mg mb) : RF (cx04 w base os mg mb) 3 189 (dFn [42] F_law_pile) := by
  refine' @RF_def (cx04 w base os mg mb) 2 ok _ _ _ _ _ _ _ _ _ _ _ _ _ _ _ _ [42] ["words"] _ ?hK ?_ (.cons rfl .nil) ?_ ?_ ?_ ?_ ?_ ?_ ?_ ?_ ?_
  case hK => exact rfl
  · kernel_rfl
  · decide
  · intro vs h; obtain ⟨a, rfl⟩ := len1 h; rfl
  · decide
  · decide
  · exact noFree (by decide)
  · rfl
  · rfl
  · rfl
  · intro L
    exact (RS_cons (RS_assign ok rfl (by first | exact .inl rfl | exact .inr rfl) (RE_ccall0 ok G.acc rfl (by decide) (by kernel_rfl) (RF.up (RF_makeA ok G) (by decide))) rfl) (RS_cons (RS_for ok subNone 100 (RE_Name rfl (by first | exact .inl rfl | exact .inr (.inl rfl) | exact .inr (.inr rfl)) (by decide) (by decide)) (RTg_name ok rfl (by first | exact .inl ⟨rfl, by simp [fa]⟩ | exact .inr ⟨rfl, fun _ h => h⟩)) goOk_name (RS_cons (RS_expr (RE_meth ok pcA (by kernel_rfl) (by kernel_rfl) ⟨_, _, rfl, rfl⟩ (RF.up (RF_push ok G) (by decide)) (RE_Name rfl (by first | exact .inl rfl | exact .inr (.inl rfl) | exact .inr (.inr rfl)) (by decide) (by decide)) (RL_cons (RE_sliceS (RE_Name rfl (by first | exact .inl rfl | exact .inr (.inl rfl) | exact .inr (.inr rfl)) (by decide) (by decide)) RP_none (@RP_some _ _ _ _ _ RE_int)) (RL_cons (RE_sliceS (RE_Name rfl (by first | exact .inl rfl | exact .inr (.inl rfl) | exact .inr (.inr rfl)) (by decide) (by decide)) (@RP_some _ _ _ _ _ RE_int) RP_none) RL_nil rfl) rfl) rfl rfl rfl) rfl rfl) (RS_cons (RS_for ok subNone 100 (RE_tcall ok G.range.1 G.range.2 rfl (by decide) vRange (RL_cons RE_int RL_nil rfl) rfl rfl) (RTg_name ok rfl (by first | exact .inl ⟨rfl, by simp [fa]⟩ | exact .inr ⟨rfl, fun _ h => h⟩)) goOk_name (RS_cons (RS_if (RB_cmp (RE_meth0 ok pcA (by kernel_rfl) (by kernel_rfl) ⟨_, _, rfl, rfl⟩ (RF.up (RF_part_count ok G) (by decide)) (RE_Name rfl (by first | exact .inl rfl | exact .inr (.inl rfl) | exact .inr (.inr rfl)) (by decide) (by decide)) rfl rfl) RE_int rGt) (RS_cons (RS_assign ok rfl (by first | exact .inl rfl | exact .inr rfl) (RE_meth ok pcA (by kernel_rfl) (by kernel_rfl) ⟨_, _, rfl, rfl⟩ (RF.up (RF_pop_from ok G) (by decide)) (RE_Name rfl (by first | exact .inl rfl | exact .inr (.inl rfl) | exact .inr (.inr rfl)) (by decide) (by decide)) (RL_cons (RE_BinOp (RE_meth0 ok pcA (by kernel_rfl) (by kernel_rfl) ⟨_, _, rfl, rfl⟩ (RF.up (RF_part_count ok G) (by decide)) (RE_Name rfl (by first | exact .inl rfl | exact .inr (.inl rfl) | exact .inr (.inr rfl)) (by decide) (by decide)) rfl rfl) RE_int rSub) RL_nil rfl) rfl rfl rfl) rfl) (RS_cons (RS_asgTR ok (RE_tuple (RL_cons (RE_item (RE_Name rfl (by first | exact .inl rfl | exact .inr (.inl rfl) | exact .inr (.inr rfl)) (by decide) (by decide)) RE_int (fun _ _ => rfl)) (RL_cons (RE_item (RE_Name rfl (by first | exact .inl rfl | exact .inr (.inl rfl) | exact .inr (.inr rfl)) (by decide) (by decide)) (RE_neg RE_int) (fun _ _ => rfl)) RL_nil rfl) rfl)) (.cons rfl rfl (.cons rfl rfl .nil)) rfl rfl) (RS_cons (RS_if (RB_value (RE_call ok G.law_rises rfl (by decide) ⟨_, _, rfl, rfl⟩ (RF.up (RF_law_rises ok G) (by decide)) (RL_cons (RE_Name rfl (by first | exact .inl rfl | exact .inr (.inl rfl) | exact .inr (.inr rfl)) (by decide) (by decide)) (RL_cons (RE_Name rfl (by first | exact .inl rfl | exact .inr (.inl rfl) | exact .inr (.inr rfl)) (by decide) (by decide)) RL_nil rfl) rfl) rfl)) (RS_cons (RS_expr (RE_meth ok pcA (by kernel_rfl) (by kernel_rfl) ⟨_, _, rfl, rfl⟩ (RF.up (RF_push ok G) (by decide)) (RE_Name rfl (by first | exact .inl rfl | exact .inr (.inl rfl) | exact .inr (.inr rfl)) (by decide) (by decide)) (RL_cons (RE_item (RE_Name rfl (by first | exact .inl rfl | exact .inr (.inl rfl) | exact .inr (.inr rfl)) (by decide) (by decide)) RE_int (fun _ _ => rfl)) (RL_cons (RE_item (RE_Name rfl (by first | exact .inl rfl | exact .inr (.inl rfl) | exact .inr (.inr rfl)) (by decide) (by decide)) RE_int (fun _ _ => rfl)) RL_nil rfl) rfl) rfl rfl rfl) rfl rfl) (RS_cons (RS_expr (RE_meth ok pcA (by kernel_rfl) (by kernel_rfl) ⟨_, _, rfl, rfl⟩ (RF.up (RF_push ok G) (by decide)) (RE_Name rfl (by first | exact .inl rfl | exact .inr (.inl rfl) | exact .inr (.inr rfl)) (by decide) (by decide)) (RL_cons (RE_item (RE_Name rfl (by first | exact .inl rfl | exact .inr (.inl rfl) | exact .inr (.inr rfl)) (by decide) (by decide)) RE_int (fun _ _ => rfl)) (RL_cons (RE_item (RE_Name rfl (by first | exact .inl rfl | exact .inr (.inl rfl) | exact .inr (.inr rfl)) (by decide) (by decide)) RE_int (fun _ _ => rfl)) RL_nil rfl) rfl) rfl rfl rfl) rfl rfl) (RS_cons RS_break RS_nil))) RS_nil) (RS_cons (RS_expr (RE_meth ok pcA (by kernel_rfl) (by kernel_rfl) ⟨_, _, rfl, rfl⟩ (RF.up (RF_push ok G) (by decide)) (RE_Name rfl (by first | exact .inl rfl | exact .inr (.inl rfl) | exact .inr (.inr rfl)) (by decide) (by decide)) (RL_cons (RE_BinOp (RE_item (RE_Name rfl (by first | exact .inl rfl | exact .inr (.inl rfl) | exact .inr (.inr rfl)) (by decide) (by decide)) RE_int (fun _ _ => rfl)) (RE_item (RE_Name rfl (by first | exact .inl rfl | exact .inr (.inl rfl) | exact .inr (.inr rfl)) (by decide) (by decide)) RE_int (fun _ _ => rfl)) rAdd) (RL_cons (RE_BinOp (RE_item (RE_Name rfl (by first | exact .inl rfl | exact .inr (.inl rfl) | exact .inr (.inr rfl)) (by decide) (by decide)) RE_int (fun _ _ => rfl)) (RE_item (RE_Name rfl (by first | exact .inl rfl | exact .inr (.inl rfl) | exact .inr (.inr rfl)) (by decide) (by decide)) RE_int (fun _ _ => rfl)) rAdd) RL_nil rfl) rfl) rfl rfl rfl) rfl rfl) RS_nil)))) RS_nil) RS_nil) (fun _ => rfl)) RS_nil)) (fun _ => rfl)) (RS_cons (RS_ret (RE_Name rfl (by first | exact .inl rfl | exact .inr (.inl rfl) | exact .inr (.inr rfl)) (by decide) (by decide))) RS_nil)))
noncomputable def F_law_round : DS := (dSeq (dAsgT (tgTR [31, 32]) (dTup (dL1 (dCall (fLexer (fMakeP 143 (dFn [0, 6] (F_ninit 143)))) (dL1 (dC (.str "")) (dL1 (dLstM (dL1 (dC (.int 0)) dL0)) dL0))) (dL1 (dC (.bool false)) dL0)))) (dSeq (dAsgT (tgT [26, 33]) (dCall (dFn [25] F_law_block) (dL1 (dMeth 143 "get_token" (dFn [0] (F_get_token 143 126)) (dVar 30) dL0) dL0))) (dSeq (dFor none 100 (dCall fRange (dL1 (dC (.int 6)) dL0)) (tgV 28) (dSeq (dAsg 25 (dMeth 143 "get_token" (dFn [0] (F_get_token 143 126)) (dVar 30) dL0)) (dSeq (dIf (dTru (dOp2 oEq (dVar 25) (dC (.str "")))) (dSeq dBrk dNil) dNil) (dSeq (dAsg 34 (dCall (dFn [25] F_law_block) (dL1 (dVar 25) dL0))) (dSeq (dIf (dTru (dCall (dFn [23, 24] F_law_rises) (dL1 (dTup (dL1 (dVar 26) (dL1 (dVar 33) dL0))) (dL1 (dVar 34) dL0)))) (dSeq (dExprN (dMeth 143 "push_token" (dFn [0, 8] (F_push_token 143)) (dVar 31) (dL1 (dOp2 oAdd (dVar 26) (dVar 33)) dL0))) (dSeq (dAsgT (tgT [26, 33]) (dVar 34)) dNil)) (dSeq (dAsgT (tgTR [26, 33, 32]) (dTup (dL1 (dOp2 oAdd (dVar 26) (dOp2 oItem (dVar 34) (dC (.int 0)))) (dL1 (dOp2 oAdd (dVar 33) (dOp2 oItem (dVar 34) (dC (.int 1)))) (dL1 (dC (.bool true)) dL0))))) dNil)) dNil))))) (dSeq (dExprN (dMeth 143 "push_token" (dFn [0, 8] (F_push_token 143)) (dVar 31) (dL1 (dOp2 oAdd (dVar 26) (dVar 33)) dL0))) (dSeq (dRet (dTup (dL1 (dVar 31) (dL1 (dVar 32) dL0)))) dNil)))))
set_option maxHeartbeats 4000000 in
theorem RF_law_round (ok : (cx04 w base os mg mb).Ok) (G : G04 mg mb) : RF (cx04 w base os mg mb) 5 196 (dFn [30] F_law_round) := by
  refine' @RF_def (cx04 w base os mg mb) 4 ok _ _ _ _ _ _ _ _ _ _ _ _ _ _ _ _ [30] ["lex"] _ ?hK ?_ (.cons rfl .nil) ?_ ?_ ?_ ?_ ?_ ?_ ?_ ?_ ?_
  case hK => exact rfl
  · kernel_rfl
  · decide
  · intro vs h; obtain ⟨a, rfl⟩ := len1 h; rfl
  · decide
  · decide
  · exact noFree (by decide)
  · rfl
  · rfl
  · rfl
  · intro L
    exact (RS_cons (RS_asgTR ok (RE_tuple (RL_cons (RE_call ok G.law_lexer rfl (by decide) ⟨_, _, rfl, rfl⟩ (RF.up (RF_lexerL ok G) (by decide)) (RL_cons RE_str (RL_cons (RE_listM (RL_cons RE_int RL_nil rfl)) RL_nil rfl) rfl) rfl) (RL_cons RE_bool RL_nil rfl) rfl)) (.cons rfl rfl (.cons rfl rfl .nil)) rfl rfl) (RS_cons (RS_asgT (RE_call ok G.law_block rfl (by decide) ⟨_, _, rfl, rfl⟩ (RF.up (RF_law_block ok G) (by decide)) (RL_cons (RE_meth0 ok pcN (by kernel_rfl) (by kernel_rfl) ⟨_, _, rfl, rfl⟩ (RF.up (RF_get_token ok G) (by decide)) (RE_Name rfl (by first | exact .inl rfl | exact .inr (.inl rfl) | exact .inr (.inr rfl)) (by decide) (by decide)) rfl rfl) RL_nil rfl) rfl) (RTg_tuple ok (.cons rfl (by first | exact .inl ⟨rfl, by simp [fa]⟩ | exact .inr ⟨rfl, fun _ h => h⟩) (.cons rfl (by first | exact .inl ⟨rfl, by simp [fa]⟩ | exact .inr ⟨rfl, fun _ h => h⟩) .nil))) rfl rfl) (RS_cons (RS_for ok subNone 100 (RE_tcall ok G.range.1 G.range.2 rfl (by decide) vRange (RL_cons RE_int RL_nil rfl) rfl rfl) (RTg_name ok rfl (by first | exact .inl ⟨rfl, by simp [fa]⟩ | exact .inr ⟨rfl, fun _ h => h⟩)) goOk_name (RS_cons (RS_assign ok rfl (by first | exact .inl rfl | exact .inr rfl) (RE_meth0 ok pcN (by kernel_rfl) (by kernel_rfl) ⟨_, _, rfl, rfl⟩ (RF.up (RF_get_token ok G) (by decide)) (RE_Name rfl (by first | exact .inl rfl | exact .inr (.inl rfl) | exact .inr (.inr rfl)) (by decide) (by decide)) rfl rfl) rfl) (RS_cons (RS_if (RB_cmp (RE_Name rfl (by first | exact .inl rfl | exact .inr (.inl rfl) | exact .inr (.inr rfl)) (by decide) (by decide)) RE_str rEq) (RS_cons RS_break RS_nil) RS_nil) (RS_cons (RS_assign ok rfl (by first | exact .inl rfl | exact .inr rfl) (RE_call ok G.law_block rfl (by decide) ⟨_, _, rfl, rfl⟩ (RF.up (RF_law_block ok G) (by decide)) (RL_cons (RE_Name rfl (by first | exact .inl rfl | exact .inr (.inl rfl) | exact .inr (.inr rfl)) (by decide) (by decide)) RL_nil rfl) rfl) rfl) (RS_cons (RS_if (RB_value (RE_call ok G.law_rises rfl (by decide) ⟨_, _, rfl, rfl⟩ (RF.up (RF_law_rises ok G) (by decide)) (RL_cons (RE_tuple (RL_cons (RE_Name rfl (by first | exact .inl rfl | exact .inr (.inl rfl) | exact .inr (.inr rfl)) (by decide) (by decide)) (RL_cons (RE_Name rfl (by first | exact .inl rfl | exact .inr (.inl rfl) | exact .inr (.inr rfl)) (by decide) (by decide)) RL_nil rfl) rfl)) (RL_cons (RE_Name rfl (by first | exact .inl rfl | exact .inr (.inl rfl) | exact .inr (.inr rfl)) (by decide) (by decide)) RL_nil rfl) rfl) rfl)) (RS_cons (RS_expr (RE_meth ok pcN (by kernel_rfl) (by kernel_rfl) ⟨_, _, rfl, rfl⟩ (RF.up (RF_push_token ok G) (by decide)) (RE_Name rfl (by first | exact .inl rfl | exact .inr (.inl rfl) | exact .inr (.inr rfl)) (by decide) (by decide)) (RL_cons (RE_BinOp (RE_Name rfl (by first | exact .inl rfl | exact .inr (.inl rfl) | exact .inr (.inr rfl)) (by decide) (by decide)) (RE_Name rfl (by first | exact .inl rfl | exact .inr (.inl rfl) | exact .inr (.inr rfl)) (by decide) (by decide)) rAdd) RL_nil rfl) rfl rfl rfl) rfl rfl) (RS_cons (RS_asgT (RE_Name rfl (by first | exact .inl rfl | exact .inr (.inl rfl) | exact .inr (.inr rfl)) (by decide) (by decide)) (RTg_tuple ok (.cons rfl (by first | exact .inl ⟨rfl, by simp [fa]⟩ | exact .inr ⟨rfl, fun _ h => h⟩) (.cons rfl (by first | exact .inl ⟨rfl, by simp [fa]⟩ | exact .inr ⟨rfl, fun _ h => h⟩) .nil))) rfl rfl) RS_nil)) (RS_cons (RS_asgTR ok (RE_tuple (RL_cons (RE_BinOp (RE_Name rfl (by first | exact .inl rfl | exact .inr (.inl rfl) | exact .inr (.inr rfl)) (by decide) (by decide)) (RE_item (RE_Name rfl (by first | exact .inl rfl | exact .inr (.inl rfl) | exact .inr (.inr rfl)) (by decide) (by decide)) RE_int (fun _ _ => rfl)) rAdd) (RL_cons (RE_BinOp (RE_Name rfl (by first | exact .inl rfl | exact .inr (.inl rfl) | exact .inr (.inr rfl)) (by decide) (by decide)) (RE_item (RE_Name rfl (by first | exact .inl rfl | exact .inr (.inl rfl) | exact .inr (.inr rfl)) (by decide) (by decide)) RE_int (fun _ _ => rfl)) rAdd) (RL_cons RE_bool RL_nil rfl) rfl) rfl)) (.cons rfl rfl (.cons rfl rfl (.cons rfl rfl .nil))) rfl rfl) RS_nil)) RS_nil)))) (fun _ => rfl)) (RS_cons (RS_expr (RE_meth ok pcN (by kernel_rfl) (by kernel_rfl) ⟨_, _, rfl, rfl⟩ (RF.up (RF_push_token ok G) (by decide)) (RE_Name rfl (by first | exact .inl rfl | exact .inr (.inl rfl) | exact .inr (.inr rfl)) (by decide) (by decide)) (RL_cons (RE_BinOp (RE_Name rfl (by first | exact .inl rfl | exact .inr (.inl rfl) | exact .inr (.inr rfl)) (by decide) (by decide)) (RE_Name rfl (by first | exact .inl rfl | exact .inr (.inl rfl) | exact .inr (.inr rfl)) (by decide) (by decide)) rAdd) RL_nil rfl) rfl rfl rfl) rfl rfl) (RS_cons (RS_ret (RE_tuple (RL_cons (RE_Name rfl (by first | exact .inl rfl | exact .inr (.inl rfl) | exact .inr (.inr rfl)) (by decide) (by decide)) (RL_cons (RE_Name rfl (by first | exact .inl rfl | exact .inr (.inl rfl) | exact .inr (.inr rfl)) (by decide) (by decide)) RL_nil rfl) rfl))) RS_nil)))))
noncomputable def F_law_means : DS := (dSeq (dAsg 36 (dLstM dL0)) (dSeq (dFor none 100 (dCall fRange (dL1 (dC (.int 6)) dL0)) (tgV 15) (dSeq (dAsg 37 (dTup (dL1 (dC (.int 0)) (dL1 (dC (.int 1)) dL0)))) (dSeq (dFor none 100 (dCall fRange (dL1 (dOp2 oAdd (dVar 15) (dC (.int 1))) dL0)) (tgV 38) (dSeq (dAsg 39 (dTup (dL1 (dCall fSum (dL1 (dSliceL (dVar 35) (some (dVar 38)) none) dL0)) (dL1 (dOp2 oSub (dC (.int 6)) (dVar 38)) dL0)))) (dSeq (dFor none 100 (dCall fRange (dL1 (dVar 15) (dL1 (dC (.int 6)) dL0))) (tgV 18) (dSeq (dAsg 40 (dTup (dL1 (dCall fSum (dL1 (dSliceL (dVar 35) (some (dVar 38)) (some (dOp2 oAdd (dVar 18) (dC (.int 1))))) dL0)) (dL1 (dOp2 oSub (dOp2 oAdd (dVar 18) (dC (.int 1))) (dVar 38)) dL0)))) (dSeq (dIf (dTru (dOp2 oLt (dOp2 oMul (dOp2 oItem (dVar 40) (dC (.int 0))) (dOp2 oItem (dVar 39) (dC (.int 1)))) (dOp2 oMul (dOp2 oItem (dVar 39) (dC (.int 0))) (dOp2 oItem (dVar 40) (dC (.int 1)))))) (dSeq (dAsg 39 (dVar 40)) dNil) dNil) dNil))) (dSeq (dIf (dTru (dOp2 oLt (dOp2 oMul (dOp2 oItem (dVar 37) (dC (.int 0))) (dOp2 oItem (dVar 39) (dC (.int 1)))) (dOp2 oMul (dOp2 oItem (dVar 39) (dC (.int 0))) (dOp2 oItem (dVar 37) (dC (.int 1)))))) (dSeq (dAsg 37 (dVar 39)) dNil) dNil) dNil)))) (dSeq (dExprN (dBMeth selList fAppend (dVar 36) (dL1 (dVar 37) dL0))) dNil)))) (dSeq (dRet (dVar 36)) dNil)))
set_option maxHeartbeats 4000000 in
theorem RF_law_means (ok : (cx04 w base os mg mb).Ok) (G : G04 mg mb) : RF (cx04 w base os mg mb) 1 203 (dFn [35] F_law_means) := by
  refine' @RF_def (cx04 w base os mg mb) 0 ok _ _ _ _ _ _ _ _ _ _ _ _ _ _ _ _ [35] ["values"] _ ?hK ?_ (.cons rfl .nil) ?_ ?_ ?_ ?_ ?_ ?_ ?_ ?_ ?_
  case hK => exact rfl
  · kernel_rfl
  · decide
  · intro vs h; obtain ⟨a, rfl⟩ := len1 h; rfl
  · decide
  · decide
  · exact noFree (by decide)
  · rfl
  · rfl
  · rfl
  · intro L
    exact (RS_cons (RS_assign ok rfl (by first | exact .inl rfl | exact .inr rfl) (RE_listM RL_nil) rfl) (RS_cons (RS_for ok subNone 100 (RE_tcall ok G.range.1 G.range.2 rfl (by decide) vRange (RL_cons RE_int RL_nil rfl) rfl rfl) (RTg_name ok rfl (by first | exact .inl ⟨rfl, by simp [fa]⟩ | exact .inr ⟨rfl, fun _ h => h⟩)) goOk_name (RS_cons (RS_assign ok rfl (by first | exact .inl rfl | exact .inr rfl) (RE_tuple (RL_cons RE_int (RL_cons RE_int RL_nil rfl) rfl)) rfl) (RS_cons (RS_for ok subNone 100 (RE_tcall ok G.range.1 G.range.2 rfl (by decide) vRange (RL_cons (RE_BinOp (RE_Name rfl (by first | exact .inl rfl | exact .inr (.inl rfl) | exact .inr (.inr rfl)) (by decide) (by decide)) RE_int rAdd) RL_nil rfl) rfl rfl) (RTg_name ok rfl (by first | exact .inl ⟨rfl, by simp [fa]⟩ | exact .inr ⟨rfl, fun _ h => h⟩)) goOk_name (RS_cons (RS_assign ok rfl (by first | exact .inl rfl | exact .inr rfl) (RE_tuple (RL_cons (RE_bcall ok G.sum.1 G.sum.2 rfl (by decide) vSum (RL_cons (RE_sliceL (RE_Name rfl (by first | exact .inl rfl | exact .inr (.inl rfl) | exact .inr (.inr rfl)) (by decide) (by decide)) (@RP_some _ _ _ _ _ (RE_Name rfl (by first | exact .inl rfl | exact .inr (.inl rfl) | exact .inr (.inr rfl)) (by decide) (by decide))) RP_none) RL_nil rfl) rfl rfl) (RL_cons (RE_BinOp RE_int (RE_Name rfl (by first | exact .inl rfl | exact .inr (.inl rfl) | exact .inr (.inr rfl)) (by decide) (by decide)) rSub) RL_nil rfl) rfl)) rfl) (RS_cons (RS_for ok subNone 100 (RE_tcall ok G.range.1 G.range.2 rfl (by decide) vRange (RL_cons (RE_Name rfl (by first | exact .inl rfl | exact .inr (.inl rfl) | exact .inr (.inr rfl)) (by decide) (by decide)) (RL_cons RE_int RL_nil rfl) rfl) rfl rfl) (RTg_name ok rfl (by first | exact .inl ⟨rfl, by simp [fa]⟩ | exact .inr ⟨rfl, fun _ h => h⟩)) goOk_name (RS_cons (RS_assign ok rfl (by first | exact .inl rfl | exact .inr rfl) (RE_tuple (RL_cons (RE_bcall ok G.sum.1 G.sum.2 rfl (by decide) vSum (RL_cons (RE_sliceL (RE_Name rfl (by first | exact .inl rfl | exact .inr (.inl rfl) | exact .inr (.inr rfl)) (by decide) (by decide)) (@RP_some _ _ _ _ _ (RE_Name rfl (by first | exact .inl rfl | exact .inr (.inl rfl) | exact .inr (.inr rfl)) (by decide) (by decide))) (@RP_some _ _ _ _ _ (RE_BinOp (RE_Name rfl (by first | exact .inl rfl | exact .inr (.inl rfl) | exact .inr (.inr rfl)) (by decide) (by decide)) RE_int rAdd))) RL_nil rfl) rfl rfl) (RL_cons (RE_BinOp (RE_BinOp (RE_Name rfl (by first | exact .inl rfl | exact .inr (.inl rfl) | exact .inr (.inr rfl)) (by decide) (by decide)) RE_int rAdd) (RE_Name rfl (by first | exact .inl rfl | exact .inr (.inl rfl) | exact .inr (.inr rfl)) (by decide) (by decide)) rSub) RL_nil rfl) rfl)) rfl) (RS_cons (RS_if (RB_cmp (RE_BinOp (RE_item (RE_Name rfl (by first | exact .inl rfl | exact .inr (.inl rfl) | exact .inr (.inr rfl)) (by decide) (by decide)) RE_int (fun _ _ => rfl)) (RE_item (RE_Name rfl (by first | exact .inl rfl | exact .inr (.inl rfl) | exact .inr (.inr rfl)) (by decide) (by decide)) RE_int (fun _ _ => rfl)) rMul) (RE_BinOp (RE_item (RE_Name rfl (by first | exact .inl rfl | exact .inr (.inl rfl) | exact .inr (.inr rfl)) (by decide) (by decide)) RE_int (fun _ _ => rfl)) (RE_item (RE_Name rfl (by first | exact .inl rfl | exact .inr (.inl rfl) | exact .inr (.inr rfl)) (by decide) (by decide)) RE_int (fun _ _ => rfl)) rMul) rLt) (RS_cons (RS_assign ok rfl (by first | exact .inl rfl | exact .inr rfl) (RE_Name rfl (by first | exact .inl rfl | exact .inr (.inl rfl) | exact .inr (.inr rfl)) (by decide) (by decide)) rfl) RS_nil) RS_nil) RS_nil)) (fun _ => rfl)) (RS_cons (RS_if (RB_cmp (RE_BinOp (RE_item (RE_Name rfl (by first | exact .inl rfl | exact .inr (.inl rfl) | exact .inr (.inr rfl)) (by decide) (by decide)) RE_int (fun _ _ => rfl)) (RE_item (RE_Name rfl (by first | exact .inl rfl | exact .inr (.inl rfl) | exact .inr (.inr rfl)) (by decide) (by decide)) RE_int (fun _ _ => rfl)) rMul) (RE_BinOp (RE_item (RE_Name rfl (by first | exact .inl rfl | exact .inr (.inl rfl) | exact .inr (.inr rfl)) (by decide) (by decide)) RE_int (fun _ _ => rfl)) (RE_item (RE_Name rfl (by first | exact .inl rfl | exact .inr (.inl rfl) | exact .inr (.inr rfl)) (by decide) (by decide)) RE_int (fun _ _ => rfl)) rMul) rLt) (RS_cons (RS_assign ok rfl (by first | exact .inl rfl | exact .inr rfl) (RE_Name rfl (by first | exact .inl rfl | exact .inr (.inl rfl) | exact .inr (.inr rfl)) (by decide) (by decide)) rfl) RS_nil) RS_nil) RS_nil))) (fun _ => rfl)) (RS_cons (RS_expr (RE_bmeth (gList PySem.F.slot_list_append PySem.F.type_list_append) vAppend (RE_Name rfl (by first | exact .inl rfl | exact .inr (.inl rfl) | exact .inr (.inr rfl)) (by decide) (by decide)) (RL_cons (RE_Name rfl (by first | exact .inl rfl | exact .inr (.inl rfl) | exact .inr (.inr rfl)) (by decide) (by decide)) RL_nil rfl) rfl rfl rfl rfl) rfl rfl) RS_nil))) (fun _ => rfl)) (RS_cons (RS_ret (RE_Name rfl (by first | exact .inl rfl | exact .inr (.inl rfl) | exact .inr (.inr rfl)) (by decide) (by decide))) RS_nil)))
noncomputable def F_law : DS := (dSeq (dAsg 19 (dCall (dFn [17] F_law_numbers) (dL1 (dVar 17) dL0))) (dSeq (dAsg 35 (dComp [41] none 100 (dVar 19) (tgV 41) dBt (aEmit (dOp2 oAdd (dC (.int 1)) (dOp2 oMod (dVar 41) (dC (.int 6))))))) (dSeq (dAsg 21 (dOp2 oItem (dC (.str "\"\\#x")) (dOp2 oMod (dCall fSum (dL1 (dVar 19) dL0)) (dC (.int 4))))) (dSeq (dAsg 11 (dBMeth selStr fJoin (dC (.str "")) (dL1 (dComp [18] none 100 (dCall fRange (dL1 (dC (.int 6)) dL0)) (tgV 18) dBt (aEmit (dCall (dFn [20, 21, 22] F_law_written) (dL1 (dOp2 oItem (dVar 35) (dVar 18)) (dL1 (dVar 21) (dL1 (dOp2 oMod (dOp2 oDiv (dOp2 oItem (dVar 19) (dVar 18)) (dC (.int 6))) (dC (.int 2))) dL0)))))) dL0))) (dSeq (dAsg 12 (dLstM (dL1 (dC (.int 0)) dL0))) (dSeq (dAsg 30 (dCall (fLexer (fMakeP 143 (dFn [0, 6] (F_ninit 143)))) (dL1 (dVar 11) (dL1 (dVar 12) dL0)))) (dSeq (dAsg 42 (dComp [18] none 100 (dCall fRange (dL1 (dC (.int 6)) dL0)) (tgV 18) dBt (aEmit (dMeth 143 "get_token" (dFn [0] (F_get_token 143 126)) (dVar 30) dL0)))) (dSeq (dIf (dTru (dOp2 oNe (dVar 42) (dComp [20] none 100 (dVar 35) (tgV 20) dBt (aEmit (dOp2 oAdd (dC (.str " ")) (dOp2 oMul (dVar 21) (dVar 20))))))) (dSeq (dRet (dC (.bool false))) dNil) dNil) (dSeq (dIf (dTru (dOp2 oNe (dTup (dL1 (dMeth 143 "get_token" (dFn [0] (F_get_token 143 126)) (dVar 30) dL0) (dL1 (dOp2 oItem (dVar 12) (dC (.int 0))) (dL1 (dOp1 (oAttr 143 "lineno") (dVar 30)) dL0)))) (dTup (dL1 (dC (.str "")) (dL1 (dCall fLen (dL1 (dVar 11) dL0)) (dL1 (dOp2 oAdd (dC (.int 1)) (dBMeth selStr fCount (dVar 11) (dL1 (dC (.str "\n")) dL0))) dL0)))))) (dSeq (dRet (dC (.bool false))) dNil) dNil) (dSeq (dAsg 27 (dCall (dFn [42] F_law_pile) (dL1 (dVar 42) dL0))) (dSeq (dAsgT (tgT [31, 32]) (dCall (dFn [30] F_law_round) (dL1 (dCall (fLexer (fMakeP 143 (dFn [0, 6] (F_ninit 143)))) (dL1 (dVar 11) (dL1 (dLstM (dL1 (dC (.int 0)) dL0)) dL0))) dL0))) (dSeq (dFor none 100 (dCall fRange (dL1 (dC (.int 6)) dL0)) (tgV 28) (dSeq (dIf (dTru (dVar 32)) (dSeq (dAsgT (tgT [31, 32]) (dCall (dFn [30] F_law_round) (dL1 (dVar 31) dL0))) dNil) dNil) dNil)) (dSeq (dAsg 43 (dComp [18] none 100 (dCall fRange (dL1 (dMeth 101 "part_count" (fPartCount 101) (dVar 27) dL0) dL0)) (tgV 18) dBt (aEmit (dCall (dFn [25] F_law_block) (dL1 (dMeth 143 "get_token" (dFn [0] (F_get_token 143 126)) (dVar 31) dL0) dL0))))) (dSeq (dIf (dOr (dTru (dVar 32)) (dOr (dTru (dOp2 oNe (dMeth 143 "get_token" (dFn [0] (F_get_token 143 126)) (dVar 31) dL0) (dC (.str "")))) (dOr (dTru (dOp2 oNe (dComp [13] (some 101) 100 (dVar 27) (tgV 13) dBt (aEmit (dVar 13))) (dVar 43))) dBf))) (dSeq (dRet (dC (.bool false))) dNil) dNil) (dSeq (dIf (dOr (dTru (dOp2 oNe (dCall (fStrI 101 (dFn [0] (F_astr 101))) (dL1 (dVar 27) dL0)) (dBMeth selStr fJoin (dC (.str "")) (dL1 (dComp [26, 33] none 100 (dVar 43) (tgT [26, 33]) dBt (aEmit (dOp2 oAdd (dVar 26) (dVar 33)))) dL0)))) (dOr (dTru (dOp2 oNe (dCall (fLenX 101 (dFn [0] (F_alen 101))) (dL1 (dVar 27) dL0)) (dOp2 oAdd (dC (.int 6)) (dCall fSum (dL1 (dVar 35) dL0))))) dBf)) (dSeq (dRet (dC (.bool false))) dNil) dNil) (dSeq (dIf (dTru (dOp2 oNe (dComp [18] none 100 (dCall fRange (dL1 (dC (.int 1)) (dL1 (dCall fLen (dL1 (dVar 43) dL0)) dL0))) (tgV 18) (dNot (dTru (dCall (dFn [23, 24] F_law_rises) (dL1 (dOp2 oItem (dVar 43) (dOp2 oSub (dVar 18) (dC (.int 1)))) (dL1 (dOp2 oItem (dVar 43) (dVar 18)) dL0))))) (aEmit (dVar 18))) (dLst dL0))) (dSeq (dRet (dC (.bool false))) dNil) dNil) (dSeq (dAsg 44 (dComp [45, 46] none 100 (dVar 43) (tgV 45) dBt (aLoop none 100 (dOp2 oItem (dVar 45) (dC (.int 0))) (tgV 46) dBt (aEmit (dVar 45))))) (dSeq (dAsg 36 (dCall (dFn [35] F_law_means) (dL1 (dVar 35) dL0))) (dSeq (dRet (dBoolAnd (dOp2 oEq (dCall fLen (dL1 (dVar 44) dL0)) (dC (.int 6))) (dOp2 oEq (dComp [18] none 100 (dCall fRange (dL1 (dC (.int 6)) dL0)) (tgV 18) (dTru (dOp2 oNe (dOp2 oMul (dCall fLen (dL1 (dOp2 oItem (dOp2 oItem (dVar 44) (dVar 18)) (dC (.int 1))) dL0)) (dOp2 oItem (dOp2 oItem (dVar 36) (dVar 18)) (dC (.int 1)))) (dOp2 oMul (dOp2 oItem (dOp2 oItem (dVar 36) (dVar 18)) (dC (.int 0))) (dCall fLen (dL1 (dOp2 oItem (dOp2 oItem (dVar 44) (dVar 18)) (dC (.int 0))) dL0))))) (aEmit (dVar 18))) (dLst dL0)))) dNil)))))))))))))))))))
set_option maxHeartbeats 4000000 in
theorem RF_law (ok : (cx04 w base os mg mb).Ok) (G : G04 mg mb) : RF (cx04 w base os mg mb) 7 208 (dFn [17] F_law) := by
  refine' @RF_def (cx04 w base os mg mb) 6 ok _ _ _ _ _ _ _ _ _ _ _ _ _ _ _ _ [17] ["script"] _ ?hK ?_ (.cons rfl .nil) ?_ ?_ ?_ ?_ ?_ ?_ ?_ ?_ ?_
  case hK => exact rfl
  · kernel_rfl
  · decide
  · intro vs h; obtain ⟨a, rfl⟩ := len1 h; rfl
  · decide
  · decide
  · exact noFree (by decide)
  · rfl
  · rfl
  · rfl
  · intro L
    exact (RS_cons (RS_assign ok rfl (by first | exact .inl rfl | exact .inr rfl) (RE_call ok G.law_numbers rfl (by decide) ⟨_, _, rfl, rfl⟩ (RF.up (RF_law_numbers ok G) (by decide)) (RL_cons (RE_Name rfl (by first | exact .inl rfl | exact .inr (.inl rfl) | exact .inr (.inr rfl)) (by decide) (by decide)) RL_nil rfl) rfl) rfl) (RS_cons (by first | exact RS_assignComp ok rfl rfl (RComp_one ok subNone 100 (compOk rfl rfl (by decide) rfl rfl) (RE_Name rfl (by first | exact .inl rfl | exact .inr (.inl rfl) | exact .inr (.inr rfl)) (by decide) (by decide)) (fun _ => (RTg_name ok rfl (.inl ⟨rfl, by simp [compEnvC]⟩))) goOk_name (fun _ => RTests_nil) (fun _ => (RE_BinOp RE_int (RE_BinOp (RE_Name rfl (by first | exact .inl rfl | exact .inr (.inl rfl) | exact .inr (.inr rfl)) (by decide) (by decide)) RE_int rMod) rAdd)) (fun _ => rfl)) rfl rfl | exact RS_assign ok rfl (by first | exact .inl rfl | exact .inr rfl) (RE_comp (RComp_one ok subNone 100 (compOk rfl rfl (by decide) rfl rfl) (RE_Name rfl (by first | exact .inl rfl | exact .inr (.inl rfl) | exact .inr (.inr rfl)) (by decide) (by decide)) (fun _ => (RTg_name ok rfl (.inl ⟨rfl, by simp [compEnvC]⟩))) goOk_name (fun _ => RTests_nil) (fun _ => (RE_BinOp RE_int (RE_BinOp (RE_Name rfl (by first | exact .inl rfl | exact .inr (.inl rfl) | exact .inr (.inr rfl)) (by decide) (by decide)) RE_int rMod) rAdd)) (fun _ => rfl)) rfl) rfl) (RS_cons (RS_assign ok rfl (by first | exact .inl rfl | exact .inr rfl) (RE_item RE_str (RE_BinOp (RE_bcall ok G.sum.1 G.sum.2 rfl (by decide) vSum (RL_cons (RE_Name rfl (by first | exact .inl rfl | exact .inr (.inl rfl) | exact .inr (.inr rfl)) (by decide) (by decide)) RL_nil rfl) rfl rfl) RE_int rMod) (fun _ _ => rfl)) rfl) (RS_cons (RS_assign ok rfl (by first | exact .inl rfl | exact .inr rfl) (RE_bmeth (gStr PySem.F.slot_str_join PySem.F.type_str_join) vJoin RE_str (RL_cons (RE_comp (RComp_one ok subNone 100 (compOk rfl rfl (by decide) rfl rfl) (RE_tcall ok G.range.1 G.range.2 rfl (by decide) vRange (RL_cons RE_int RL_nil rfl) rfl rfl) (fun _ => (RTg_name ok rfl (.inl ⟨rfl, by simp [compEnvC]⟩))) goOk_name (fun _ => RTests_nil) (fun _ => (RE_call ok G.law_written rfl (by decide) ⟨_, _, rfl, rfl⟩ (RF.up (RF_law_written ok G) (by decide)) (RL_cons (RE_item (RE_Name rfl (by first | exact .inl rfl | exact .inr (.inl rfl) | exact .inr (.inr rfl)) (by decide) (by decide)) (RE_Name rfl (by first | exact .inl rfl | exact .inr (.inl rfl) | exact .inr (.inr rfl)) (by decide) (by decide)) (fun _ _ => rfl)) (RL_cons (RE_Name rfl (by first | exact .inl rfl | exact .inr (.inl rfl) | exact .inr (.inr rfl)) (by decide) (by decide)) (RL_cons (RE_BinOp (RE_BinOp (RE_item (RE_Name rfl (by first | exact .inl rfl | exact .inr (.inl rfl) | exact .inr (.inr rfl)) (by decide) (by decide)) (RE_Name rfl (by first | exact .inl rfl | exact .inr (.inl rfl) | exact .inr (.inr rfl)) (by decide) (by decide)) (fun _ _ => rfl)) RE_int rDiv) RE_int rMod) RL_nil rfl) rfl) rfl) rfl)) (fun _ => rfl)) rfl) RL_nil rfl) rfl rfl rfl rfl) rfl) (RS_cons (RS_assign ok rfl (by first | exact .inl rfl | exact .inr rfl) (RE_listM (RL_cons RE_int RL_nil rfl)) rfl) (RS_cons (RS_assign ok rfl (by first | exact .inl rfl | exact .inr rfl) (RE_call ok G.law_lexer rfl (by decide) ⟨_, _, rfl, rfl⟩ (RF.up (RF_lexerL ok G) (by decide)) (RL_cons (RE_Name rfl (by first | exact .inl rfl | exact .inr (.inl rfl) | exact .inr (.inr rfl)) (by decide) (by decide)) (RL_cons (RE_Name rfl (by first | exact .inl rfl | exact .inr (.inl rfl) | exact .inr (.inr rfl)) (by decide) (by decide)) RL_nil rfl) rfl) rfl) rfl) (RS_cons (by first | exact RS_assignComp ok rfl rfl (RComp_one ok subNone 100 (compOk rfl rfl (by decide) rfl rfl) (RE_tcall ok G.range.1 G.range.2 rfl (by decide) vRange (RL_cons RE_int RL_nil rfl) rfl rfl) (fun _ => (RTg_name ok rfl (.inl ⟨rfl, by simp [compEnvC]⟩))) goOk_name (fun _ => RTests_nil) (fun _ => (RE_meth0 ok pcN (by kernel_rfl) (by kernel_rfl) ⟨_, _, rfl, rfl⟩ (RF.up (RF_get_token ok G) (by decide)) (RE_Name rfl (by first | exact .inl rfl | exact .inr (.inl rfl) | exact .inr (.inr rfl)) (by decide) (by decide)) rfl rfl)) (fun _ => rfl)) rfl rfl | exact RS_assign ok rfl (by first | exact .inl rfl | exact .inr rfl) (RE_comp (RComp_one ok subNone 100 (compOk rfl rfl (by decide) rfl rfl) (RE_tcall ok G.range.1 G.range.2 rfl (by decide) vRange (RL_cons RE_int RL_nil rfl) rfl rfl) (fun _ => (RTg_name ok rfl (.inl ⟨rfl, by simp [compEnvC]⟩))) goOk_name (fun _ => RTests_nil) (fun _ => (RE_meth0 ok pcN (by kernel_rfl) (by kernel_rfl) ⟨_, _, rfl, rfl⟩ (RF.up (RF_get_token ok G) (by decide)) (RE_Name rfl (by first | exact .inl rfl | exact .inr (.inl rfl) | exact .inr (.inr rfl)) (by decide) (by decide)) rfl rfl)) (fun _ => rfl)) rfl) rfl) (RS_cons (RS_if (RB_cmp (RE_Name rfl (by first | exact .inl rfl | exact .inr (.inl rfl) | exact .inr (.inr rfl)) (by decide) (by decide)) (RE_comp (RComp_one ok subNone 100 (compOk rfl rfl (by decide) rfl rfl) (RE_Name rfl (by first | exact .inl rfl | exact .inr (.inl rfl) | exact .inr (.inr rfl)) (by decide) (by decide)) (fun _ => (RTg_name ok rfl (.inl ⟨rfl, by simp [compEnvC]⟩))) goOk_name (fun _ => RTests_nil) (fun _ => (RE_BinOp RE_str (RE_BinOp (RE_Name rfl (by first | exact .inl rfl | exact .inr (.inl rfl) | exact .inr (.inr rfl)) (by decide) (by decide)) (RE_Name rfl (by first | exact .inl rfl | exact .inr (.inl rfl) | exact .inr (.inr rfl)) (by decide) (by decide)) rMul) rAdd)) (fun _ => rfl)) rfl) rNe) (RS_cons (RS_ret RE_bool) RS_nil) RS_nil) (RS_cons (RS_if (RB_cmp (RE_tuple (RL_cons (RE_meth0 ok pcN (by kernel_rfl) (by kernel_rfl) ⟨_, _, rfl, rfl⟩ (RF.up (RF_get_token ok G) (by decide)) (RE_Name rfl (by first | exact .inl rfl | exact .inr (.inl rfl) | exact .inr (.inr rfl)) (by decide) (by decide)) rfl rfl) (RL_cons (RE_item (RE_Name rfl (by first | exact .inl rfl | exact .inr (.inl rfl) | exact .inr (.inr rfl)) (by decide) (by decide)) RE_int (fun _ _ => rfl)) (RL_cons (RE_attr (RE_Name rfl (by first | exact .inl rfl | exact .inr (.inl rfl) | exact .inr (.inr rfl)) (by decide) (by decide)) (rAttr ok pcN (by kernel_rfl) (by kernel_rfl))) RL_nil rfl) rfl) rfl)) (RE_tuple (RL_cons RE_str (RL_cons (RE_bcall ok G.len.1 G.len.2 rfl (by decide) vLen (RL_cons (RE_Name rfl (by first | exact .inl rfl | exact .inr (.inl rfl) | exact .inr (.inr rfl)) (by decide) (by decide)) RL_nil rfl) rfl rfl) (RL_cons (RE_BinOp RE_int (RE_bmeth (gStr PySem.F.slot_str_count PySem.F.type_str_count) vCount (RE_Name rfl (by first | exact .inl rfl | exact .inr (.inl rfl) | exact .inr (.inr rfl)) (by decide) (by decide)) (RL_cons RE_str RL_nil rfl) rfl rfl rfl rfl) rAdd) RL_nil rfl) rfl) rfl)) rNe) (RS_cons (RS_ret RE_bool) RS_nil) RS_nil) (RS_cons (RS_assign ok rfl (by first | exact .inl rfl | exact .inr rfl) (RE_call ok G.law_pile rfl (by decide) ⟨_, _, rfl, rfl⟩ (RF.up (RF_law_pile ok G) (by decide)) (RL_cons (RE_Name rfl (by first | exact .inl rfl | exact .inr (.inl rfl) | exact .inr (.inr rfl)) (by decide) (by decide)) RL_nil rfl) rfl) rfl) (RS_cons (RS_asgT (RE_call ok G.law_round rfl (by decide) ⟨_, _, rfl, rfl⟩ (RF.up (RF_law_round ok G) (by decide)) (RL_cons (RE_call ok G.law_lexer rfl (by decide) ⟨_, _, rfl, rfl⟩ (RF.up (RF_lexerL ok G) (by decide)) (RL_cons (RE_Name rfl (by first | exact .inl rfl | exact .inr (.inl rfl) | exact .inr (.inr rfl)) (by decide) (by decide)) (RL_cons (RE_listM (RL_cons RE_int RL_nil rfl)) RL_nil rfl) rfl) rfl) RL_nil rfl) rfl) (RTg_tuple ok (.cons rfl (by first | exact .inl ⟨rfl, by simp [fa]⟩ | exact .inr ⟨rfl, fun _ h => h⟩) (.cons rfl (by first | exact .inl ⟨rfl, by simp [fa]⟩ | exact .inr ⟨rfl, fun _ h => h⟩) .nil))) rfl rfl) (RS_cons (RS_for ok subNone 100 (RE_tcall ok G.range.1 G.range.2 rfl (by decide) vRange (RL_cons RE_int RL_nil rfl) rfl rfl) (RTg_name ok rfl (by first | exact .inl ⟨rfl, by simp [fa]⟩ | exact .inr ⟨rfl, fun _ h => h⟩)) goOk_name (RS_cons (RS_if (RB_value (RE_Name rfl (by first | exact .inl rfl | exact .inr (.inl rfl) | exact .inr (.inr rfl)) (by decide) (by decide))) (RS_cons (RS_asgT (RE_call ok G.law_round rfl (by decide) ⟨_, _, rfl, rfl⟩ (RF.up (RF_law_round ok G) (by decide)) (RL_cons (RE_Name rfl (by first | exact .inl rfl | exact .inr (.inl rfl) | exact .inr (.inr rfl)) (by decide) (by decide)) RL_nil rfl) rfl) (RTg_tuple ok (.cons rfl (by first | exact .inl ⟨rfl, by simp [fa]⟩ | exact .inr ⟨rfl, fun _ h => h⟩) (.cons rfl (by first | exact .inl ⟨rfl, by simp [fa]⟩ | exact .inr ⟨rfl, fun _ h => h⟩) .nil))) rfl rfl) RS_nil) RS_nil) RS_nil) (fun _ => rfl)) (RS_cons (by first | exact RS_assignComp ok rfl rfl (RComp_one ok subNone 100 (compOk rfl rfl (by decide) rfl rfl) (RE_tcall ok G.range.1 G.range.2 rfl (by decide) vRange (RL_cons (RE_meth0 ok pcA (by kernel_rfl) (by kernel_rfl) ⟨_, _, rfl, rfl⟩ (RF.up (RF_part_count ok G) (by decide)) (RE_Name rfl (by first | exact .inl rfl | exact .inr (.inl rfl) | exact .inr (.inr rfl)) (by decide) (by decide)) rfl rfl) RL_nil rfl) rfl rfl) (fun _ => (RTg_name ok rfl (.inl ⟨rfl, by simp [compEnvC]⟩))) goOk_name (fun _ => RTests_nil) (fun _ => (RE_call ok G.law_block rfl (by decide) ⟨_, _, rfl, rfl⟩ (RF.up (RF_law_block ok G) (by decide)) (RL_cons (RE_meth0 ok pcN (by kernel_rfl) (by kernel_rfl) ⟨_, _, rfl, rfl⟩ (RF.up (RF_get_token ok G) (by decide)) (RE_Name rfl (by first | exact .inl rfl | exact .inr (.inl rfl) | exact .inr (.inr rfl)) (by decide) (by decide)) rfl rfl) RL_nil rfl) rfl)) (fun _ => rfl)) rfl rfl | exact RS_assign ok rfl (by first | exact .inl rfl | exact .inr rfl) (RE_comp (RComp_one ok subNone 100 (compOk rfl rfl (by decide) rfl rfl) (RE_tcall ok G.range.1 G.range.2 rfl (by decide) vRange (RL_cons (RE_meth0 ok pcA (by kernel_rfl) (by kernel_rfl) ⟨_, _, rfl, rfl⟩ (RF.up (RF_part_count ok G) (by decide)) (RE_Name rfl (by first | exact .inl rfl | exact .inr (.inl rfl) | exact .inr (.inr rfl)) (by decide) (by decide)) rfl rfl) RL_nil rfl) rfl rfl) (fun _ => (RTg_name ok rfl (.inl ⟨rfl, by simp [compEnvC]⟩))) goOk_name (fun _ => RTests_nil) (fun _ => (RE_call ok G.law_block rfl (by decide) ⟨_, _, rfl, rfl⟩ (RF.up (RF_law_block ok G) (by decide)) (RL_cons (RE_meth0 ok pcN (by kernel_rfl) (by kernel_rfl) ⟨_, _, rfl, rfl⟩ (RF.up (RF_get_token ok G) (by decide)) (RE_Name rfl (by first | exact .inl rfl | exact .inr (.inl rfl) | exact .inr (.inr rfl)) (by decide) (by decide)) rfl rfl) RL_nil rfl) rfl)) (fun _ => rfl)) rfl) rfl) (RS_cons (RS_if (RB_or (RB_value (RE_Name rfl (by first | exact .inl rfl | exact .inr (.inl rfl) | exact .inr (.inr rfl)) (by decide) (by decide))) (RB_or (RB_cmp (RE_meth0 ok pcN (by kernel_rfl) (by kernel_rfl) ⟨_, _, rfl, rfl⟩ (RF.up (RF_get_token ok G) (by decide)) (RE_Name rfl (by first | exact .inl rfl | exact .inr (.inl rfl) | exact .inr (.inr rfl)) (by decide) (by decide)) rfl rfl) RE_str rNe) (RB_or (RB_cmp (RE_comp (RComp_one ok (@subIter (cx04 w base os mg mb) ok 101 subA) 100 (compOk rfl rfl (by decide) rfl rfl) (RE_Name rfl (by first | exact .inl rfl | exact .inr (.inl rfl) | exact .inr (.inr rfl)) (by decide) (by decide)) (fun _ => (RTg_name ok rfl (.inl ⟨rfl, by simp [compEnvC]⟩))) goOk_name (fun _ => RTests_nil) (fun _ => (RE_Name rfl (by first | exact .inl rfl | exact .inr (.inl rfl) | exact .inr (.inr rfl)) (by decide) (by decide))) (fun _ => rfl)) rfl) (RE_Name rfl (by first | exact .inl rfl | exact .inr (.inl rfl) | exact .inr (.inr rfl)) (by decide) (by decide)) rNe) RB_or_nil))) (RS_cons (RS_ret RE_bool) RS_nil) RS_nil) (RS_cons (RS_if (RB_or (RB_cmp (RE_tcall ok G.str.1 G.str.2 rfl (by decide) (vStrI ok (by kernel_rfl) (by kernel_rfl) (RF.up (RF_astr ok G) (by decide))) (RL_cons (RE_Name rfl (by first | exact .inl rfl | exact .inr (.inl rfl) | exact .inr (.inr rfl)) (by decide) (by decide)) RL_nil rfl) rfl rfl) (RE_bmeth (gStr PySem.F.slot_str_join PySem.F.type_str_join) vJoin RE_str (RL_cons (RE_comp (RComp_one ok subNone 100 (compOk rfl rfl (by decide) rfl rfl) (RE_Name rfl (by first | exact .inl rfl | exact .inr (.inl rfl) | exact .inr (.inr rfl)) (by decide) (by decide)) (fun _ => (RTg_tuple ok (.cons rfl (.inl ⟨rfl, by simp [compEnvC]⟩) (.cons rfl (.inl ⟨rfl, by simp [compEnvC]⟩) .nil)))) goOk_tuple (fun _ => RTests_nil) (fun _ => (RE_BinOp (RE_Name rfl (by first | exact .inl rfl | exact .inr (.inl rfl) | exact .inr (.inr rfl)) (by decide) (by decide)) (RE_Name rfl (by first | exact .inl rfl | exact .inr (.inl rfl) | exact .inr (.inr rfl)) (by decide) (by decide)) rAdd)) (fun _ => rfl)) rfl) RL_nil rfl) rfl rfl rfl rfl) rNe) (RB_or (RB_cmp (RE_bcall ok G.len.1 G.len.2 rfl (by decide) (vLenX ok (by kernel_rfl) (by kernel_rfl) (RF.up (RF_alen ok G) (by decide))) (RL_cons (RE_Name rfl (by first | exact .inl rfl | exact .inr (.inl rfl) | exact .inr (.inr rfl)) (by decide) (by decide)) RL_nil rfl) rfl rfl) (RE_BinOp RE_int (RE_bcall ok G.sum.1 G.sum.2 rfl (by decide) vSum (RL_cons (RE_Name rfl (by first | exact .inl rfl | exact .inr (.inl rfl) | exact .inr (.inr rfl)) (by decide) (by decide)) RL_nil rfl) rfl rfl) rAdd) rNe) RB_or_nil)) (RS_cons (RS_ret RE_bool) RS_nil) RS_nil) (RS_cons (RS_if (RB_cmp (RE_comp (RComp_one ok subNone 100 (compOk rfl rfl (by decide) rfl rfl) (RE_tcall ok G.range.1 G.range.2 rfl (by decide) vRange (RL_cons RE_int (RL_cons (RE_bcall ok G.len.1 G.len.2 rfl (by decide) vLen (RL_cons (RE_Name rfl (by first | exact .inl rfl | exact .inr (.inl rfl) | exact .inr (.inr rfl)) (by decide) (by decide)) RL_nil rfl) rfl rfl) RL_nil rfl) rfl) rfl rfl) (fun _ => (RTg_name ok rfl (.inl ⟨rfl, by simp [compEnvC]⟩))) goOk_name (fun _ => (RTests_one (RB_not (RB_value (RE_call ok G.law_rises rfl (by decide) ⟨_, _, rfl, rfl⟩ (RF.up (RF_law_rises ok G) (by decide)) (RL_cons (RE_item (RE_Name rfl (by first | exact .inl rfl | exact .inr (.inl rfl) | exact .inr (.inr rfl)) (by decide) (by decide)) (RE_BinOp (RE_Name rfl (by first | exact .inl rfl | exact .inr (.inl rfl) | exact .inr (.inr rfl)) (by decide) (by decide)) RE_int rSub) (fun _ _ => rfl)) (RL_cons (RE_item (RE_Name rfl (by first | exact .inl rfl | exact .inr (.inl rfl) | exact .inr (.inr rfl)) (by decide) (by decide)) (RE_Name rfl (by first | exact .inl rfl | exact .inr (.inl rfl) | exact .inr (.inr rfl)) (by decide) (by decide)) (fun _ _ => rfl)) RL_nil rfl) rfl) rfl))))) (fun _ => (RE_Name rfl (by first | exact .inl rfl | exact .inr (.inl rfl) | exact .inr (.inr rfl)) (by decide) (by decide))) (fun _ => rfl)) rfl) (RE_list RL_nil) rNe) (RS_cons (RS_ret RE_bool) RS_nil) RS_nil) (RS_cons (by first | exact RS_assignComp ok rfl rfl (RComp_two ok subNone subNone 100 100 (compOk rfl rfl (by decide) rfl rfl) (RE_Name rfl (by first | exact .inl rfl | exact .inr (.inl rfl) | exact .inr (.inr rfl)) (by decide) (by decide)) (fun _ => (RTg_name ok rfl (.inl ⟨rfl, by simp [compEnvC]⟩))) goOk_name (fun _ => RTests_nil) (fun _ => (RE_item (RE_Name rfl (by first | exact .inl rfl | exact .inr (.inl rfl) | exact .inr (.inr rfl)) (by decide) (by decide)) RE_int (fun _ _ => rfl))) (fun _ => (RTg_name ok rfl (.inl ⟨rfl, by simp [compEnvC]⟩))) goOk_name (fun _ => RTests_nil) (fun _ => (RE_Name rfl (by first | exact .inl rfl | exact .inr (.inl rfl) | exact .inr (.inr rfl)) (by decide) (by decide))) (fun _ => rfl) (fun _ _ => rfl)) rfl rfl | exact RS_assign ok rfl (by first | exact .inl rfl | exact .inr rfl) (RE_comp (RComp_two ok subNone subNone 100 100 (compOk rfl rfl (by decide) rfl rfl) (RE_Name rfl (by first | exact .inl rfl | exact .inr (.inl rfl) | exact .inr (.inr rfl)) (by decide) (by decide)) (fun _ => (RTg_name ok rfl (.inl ⟨rfl, by simp [compEnvC]⟩))) goOk_name (fun _ => RTests_nil) (fun _ => (RE_item (RE_Name rfl (by first | exact .inl rfl | exact .inr (.inl rfl) | exact .inr (.inr rfl)) (by decide) (by decide)) RE_int (fun _ _ => rfl))) (fun _ => (RTg_name ok rfl (.inl ⟨rfl, by simp [compEnvC]⟩))) goOk_name (fun _ => RTests_nil) (fun _ => (RE_Name rfl (by first | exact .inl rfl | exact .inr (.inl rfl) | exact .inr (.inr rfl)) (by decide) (by decide))) (fun _ => rfl) (fun _ _ => rfl)) rfl) rfl) (RS_cons (RS_assign ok rfl (by first | exact .inl rfl | exact .inr rfl) (RE_call ok G.law_means rfl (by decide) ⟨_, _, rfl, rfl⟩ (RF.up (RF_law_means ok G) (by decide)) (RL_cons (RE_Name rfl (by first | exact .inl rfl | exact .inr (.inl rfl) | exact .inr (.inr rfl)) (by decide) (by decide)) RL_nil rfl) rfl) rfl) (RS_cons (RS_ret (RE_and2 (RE_Compare (RE_bcall ok G.len.1 G.len.2 rfl (by decide) vLen (RL_cons (RE_Name rfl (by first | exact .inl rfl | exact .inr (.inl rfl) | exact .inr (.inr rfl)) (by decide) (by decide)) RL_nil rfl) rfl rfl) RE_int rEq) (RE_Compare (RE_comp (RComp_one ok subNone 100 (compOk rfl rfl (by decide) rfl rfl) (RE_tcall ok G.range.1 G.range.2 rfl (by decide) vRange (RL_cons RE_int RL_nil rfl) rfl rfl) (fun _ => (RTg_name ok rfl (.inl ⟨rfl, by simp [compEnvC]⟩))) goOk_name (fun _ => (RTests_one (RB_cmp (RE_BinOp (RE_bcall ok G.len.1 G.len.2 rfl (by decide) vLen (RL_cons (RE_item (RE_item (RE_Name rfl (by first | exact .inl rfl | exact .inr (.inl rfl) | exact .inr (.inr rfl)) (by decide) (by decide)) (RE_Name rfl (by first | exact .inl rfl | exact .inr (.inl rfl) | exact .inr (.inr rfl)) (by decide) (by decide)) (fun _ _ => rfl)) RE_int (fun _ _ => rfl)) RL_nil rfl) rfl rfl) (RE_item (RE_item (RE_Name rfl (by first | exact .inl rfl | exact .inr (.inl rfl) | exact .inr (.inr rfl)) (by decide) (by decide)) (RE_Name rfl (by first | exact .inl rfl | exact .inr (.inl rfl) | exact .inr (.inr rfl)) (by decide) (by decide)) (fun _ _ => rfl)) RE_int (fun _ _ => rfl)) rMul) (RE_BinOp (RE_item (RE_item (RE_Name rfl (by first | exact .inl rfl | exact .inr (.inl rfl) | exact .inr (.inr rfl)) (by decide) (by decide)) (RE_Name rfl (by first | exact .inl rfl | exact .inr (.inl rfl) | exact .inr (.inr rfl)) (by decide) (by decide)) (fun _ _ => rfl)) RE_int (fun _ _ => rfl)) (RE_bcall ok G.len.1 G.len.2 rfl (by decide) vLen (RL_cons (RE_item (RE_item (RE_Name rfl (by first | exact .inl rfl | exact .inr (.inl rfl) | exact .inr (.inr rfl)) (by decide) (by decide)) (RE_Name rfl (by first | exact .inl rfl | exact .inr (.inl rfl) | exact .inr (.inr rfl)) (by decide) (by decide)) (fun _ _ => rfl)) RE_int (fun _ _ => rfl)) RL_nil rfl) rfl rfl) rMul) rNe))) (fun _ => (RE_Name rfl (by first | exact .inl rfl | exact .inr (.inl rfl) | exact .inr (.inr rfl)) (by decide) (by decide))) (fun _ => rfl)) rfl) (RE_list RL_nil) rEq))) RS_nil)))))))))))))))))))
end
end Mine

namespace Mine
theorem fmod_nat (j m : Nat) : ((j : Int)).fmod (m : Int) = ((j % m : Nat) : Int) := by
  rw [Int.fmod_eq_emod_of_nonneg _ (Int.natCast_nonneg m)]
  rfl
theorem place_nat {k n : Nat} (h : k < n) (hl : n ≤ 1000) : place (k : Int) n = some k := by
  have h2 : (0 : Int) ≤ (k : Int) := Int.natCast_nonneg k
  have h3 : (k : Int) < n ∧ (k : Int) < 1000000000 := by lia
  simp only [place, h2, h3, and_self, if_true, Int.toNat_natCast]
theorem item_lst {vs : List MV} {k : Nat} {v : MV} {mh : MH} (h : vs[k]? = some v) (hl : vs.length ≤ 1000) : oItem (.lst vs) (.int (k : Int)) mh = some (v, mh) := by
  simp only [oItem, itemAt, place_nat (List.getElem?_eq_some_iff.mp h).1 hl, h]
theorem item_ref {vs : List MV} {i k : Nat} {v : MV} {mh : MH} (hi : mh[i]? = some (.list vs)) (h : vs[k]? = some v) (hl : vs.length ≤ 1000) : oItem (.ref i) (.int (k : Int)) mh = some (v, mh) := by
  simp only [oItem, hi, itemAt, place_nat (List.getElem?_eq_some_iff.mp h).1 hl, h]
theorem set_ref {vs : List MV} {i k : Nat} {v : MV} {mh : MH} (hi : mh[i]? = some (.list vs)) (h : k < vs.length) (hl : vs.length ≤ 1000) : setI (.ref i) (.int (k : Int)) v mh = some (mh.set i (.list (vs.set k v))) := by
  have h2 : (0 : Int) ≤ (k : Int) ∧ (k : Int) < vs.length ∧ (k : Int) < 1000000000 := by lia
  simp only [setI, hi, h2, and_self, if_true, Int.toNat_natCast]
theorem mod_ev {j m : Nat} {mh : MH} (hm : 0 < m) : oMod (.int (j : Int)) (.int (m : Int)) mh = some (.int ((j % m : Nat) : Int), mh) := by
  have h : (0 : Int) < m := Int.ofNat_lt.mpr hm
  simp only [oMod, if_pos h, fmod_nat]
theorem loop_step {tg : Tg} {f : DS} {k : ItK} {n j : Nat} {me me1 me2 : ME} {mh mh2 : MH} {v : MV} (h1 : nextOf k mh j = some (some v)) (h2 : tg me mh v = some me1) (h3 : f me1 mh = some (.next, me2, mh2)) : dForLoop tg f k (n + 1) j me mh = dForLoop tg f k n (j + 1) me2 mh2 := by
  simp only [dForLoop, h1, h2, h3]
theorem loop_end {tg : Tg} {f : DS} {k : ItK} {n j : Nat} {me : ME} {mh : MH} (h1 : nextOf k mh j = some none) : dForLoop tg f k (n + 1) j me mh = some (.next, me, mh) := by
  simp only [dForLoop, h1]
theorem rng_in {j m : Nat} {mh : MH} (h : j < m) : nextOf (.rng 0 (m : Int)) mh j = some (some (.int (j : Int))) := by
  have h : (j : Int) < m := Int.ofNat_lt.mpr h
  simp only [nextOf, Int.zero_add, if_pos h]
theorem rng_out {j m : Nat} {mh : MH} (h : ¬ j < m) : nextOf (.rng 0 (m : Int)) mh j = some none := by
  have h : ¬ (j : Int) < m := fun q => h (Int.ofNat_lt.mp q)
  simp only [nextOf, Int.zero_add, if_neg h]
theorem lt_less {a j n : Nat} (h : a - j < n + 1) (hj : j < a) : a - (j + 1) < n := Nat.lt_of_lt_of_le (Nat.sub_succ_lt_self _ _ hj) (Nat.le_of_lt_succ h)
theorem filt_true {α : Type} (l : List α) : l.filter (fun _ => true) = l := List.filter_eq_self.mpr (by simp)
theorem meth_acc {A : Addr} {mh mh1 : MH} {i dd y : Nat} {vs : List MV} {name : Str} {den : DF} {me : ME} {g : DL} {vals : List MV} (hi : mh[i]? = some (.inst A dd (some vs))) (hd : mh[dd]? = some (.attrs accA)) (hn : accA.lookup name = none) (hy : me.lookup y = some (.ref i)) (hg : g me mh = some (vals, mh1)) :
    dMeth A name den (dVar y) g me mh = den (.ref i :: vals) mh1 := by
  simp only [dMeth, dVar, hy, hi, hd, if_true, hn, hg]
theorem count_ch {l : List Nat} {c : Nat} {mh : MH} : fCount [.str (txt l), .str (ch1 c)] mh = some (.int ((l.count c : Nat) : Int), mh) := by
  simp only [fCount]
  rw [count_cnt, cnt_count]
theorem bmeth_str {den : DF} {f : D} {g : DL} {me : ME} {mh mh1 : MH} {l : List Nat} {vs : List MV} (h : f me mh = some (.str (txt l), mh)) (hg : g me mh = some (vs, mh1)) : dBMeth selStr den f g me mh = den (.str (txt l) :: vs) mh1 := by
  have e : selStr (.str (txt l)) mh = true := rfl
  simp only [dBMeth, h, e, if_true, hg]
theorem or_f {a b : DB} {me : ME} {mh mh1 : MH} (h : a me mh = some (false, mh1)) : dOr a b me mh = b me mh1 := by simp only [dOr, h]
theorem if_ev {c : DB} {f g : DS} {me : ME} {mh mh1 : MH} {b : Bool} (h : c me mh = some (b, mh1)) : dIf c f g me mh = if b then f me mh1 else g me mh1 := by simp only [dIf, h]
theorem c_ev {v : MV} {me : ME} {mh : MH} : dC v me mh = some (v, mh) := rfl
end Mine

namespace Mine

noncomputable def bNum : DS := (dSeq (dAugI (dVar 19) (dOp2 oMod (dVar 18) (dC (.int 6))) oIAdd (dOp2 oItem (dVar 17) (dVar 18))) dNil)
theorem num_loop (sc : List Int) (hl : sc.length ≤ 63) : ∀ (n j : Nat) (me : ME) (ns : List Int), sc.length - j < n → ns.length = 6 → me.lookup 17 = some (.lst (sc.map .int)) → me.lookup 19 = some (.ref 0) →
    ∃ (me' : ME) (ns' : List Int), ns'.length = 6 ∧ me'.lookup 19 = some (.ref 0) ∧ dForLoop (tgV 18) bNum (.rng 0 sc.length) n j me [.list (ns.map .int)] = some (.next, me', [.list (ns'.map .int)]) := by
  intro n
  induction n with
  | zero => intro j me ns h; exact absurd h (Nat.not_lt_zero _)
  | succ n ih =>
    intro j me ns hn h5 h17 h19
    by_cases hj : j < sc.length
    · have hx : (sc.map MV.int)[j]? = some (.int sc[j]) := by rw [List.getElem?_map, List.getElem?_eq_getElem hj]; rfl
      have hml : j % 6 < ns.length := by rw [h5]; exact Nat.mod_lt _ (by decide)
      have ho : (ns.map MV.int)[j % 6]? = some (.int (ns[j % 6]'hml)) := by
        rw [List.getElem?_map, List.getElem?_eq_getElem hml]; rfl
      have e1 : (upd me 18 (.int (j : Int))).lookup 19 = some (.ref 0) := (lk_ne (by decide)).trans h19
      have e2 : (upd me 18 (.int (j : Int))).lookup 17 = some (.lst (sc.map .int)) := (lk_ne (by decide)).trans h17
      have hb : bNum (upd me 18 (.int (j : Int))) [.list (ns.map .int)] = some (.next, upd me 18 (.int (j : Int)), [.list ((ns.set (j % 6) (ns[j % 6]'hml + sc[j])).map .int)]) := by
        have q1 : oMod (.int (j : Int)) (.int 6) [MO.list (ns.map MV.int)] = some (.int ((j % 6 : Nat) : Int), [MO.list (ns.map MV.int)]) := mod_ev (m := 6) (by decide)
        have q2 := item_ref (i := 0) (mh := [MO.list (ns.map MV.int)]) rfl ho (by rw [List.length_map, h5]; decide)
        have q3 := item_lst (mh := [MO.list (ns.map MV.int)]) hx (by rw [List.length_map]; exact Nat.le_trans hl (by decide))
        have q4 := set_ref (i := 0) (k := j % 6) (v := .int (ns[j % 6]'hml + sc[j])) (mh := [MO.list (ns.map MV.int)]) rfl (by rw [List.length_map]; exact hml) (by rw [List.length_map, h5]; decide)
        simp only [bNum, dSeq, dAugI, dVar, e1, dOp2, e2, lk_self, dC, q1, q2, q3, oIAdd, q4, dNil, List.set_cons_zero, List.map_set]
      obtain ⟨me', ns', h5', h19', e⟩ := ih (j + 1) (upd me 18 (.int (j : Int))) (ns.set (j % 6) (ns[j % 6]'hml + sc[j])) (lt_less hn hj) ((List.length_set ..).trans h5) e2 e1
      exact ⟨me', ns', h5', h19', (loop_step (rng_in hj) rfl hb).trans e⟩
    · exact ⟨me, ns, h5, h19, loop_end (rng_out hj)⟩
theorem num_for (sc : List Int) (hl : sc.length ≤ 63) : ∃ (me' : ME) (ns' : List Int), ns'.length = 6 ∧ me'.lookup 19 = some (.ref 0) ∧
    dFor none 100 (dCall fRange (dL1 (dCall fLen (dL1 (dVar 17) dL0)) dL0)) (tgV 18) bNum [(17, .lst (sc.map .int)), (19, .ref 0)] [.list [.int 1, .int 8, .int 0, .int 10, .int 5, .int 9]] = some (.next, me', [.list (ns'.map .int)]) := by
  obtain ⟨me', ns', h5, h19, e⟩ := num_loop sc hl 100 0 [(17, .lst (sc.map .int)), (19, .ref 0)] [1, 8, 0, 10, 5, 9] (by lia) rfl rfl rfl
  refine ⟨me', ns', h5, h19, ?_⟩
  have e1 : dCall fRange (dL1 (dCall fLen (dL1 (dVar 17) dL0)) dL0) [(17, .lst (sc.map .int)), (19, .ref 0)] [.list [.int 1, .int 8, .int 0, .int 10, .int 5, .int 9]] = some (.rng 0 sc.length, [.list [.int 1, .int 8, .int 0, .int 10, .int 5, .int 9]]) := by
    have q1 : dL1 (dVar 17) dL0 [(17, .lst (sc.map .int)), (19, .ref 0)] [.list [.int 1, .int 8, .int 0, .int 10, .int 5, .int 9]] = some ([.lst (sc.map .int)], [.list [.int 1, .int 8, .int 0, .int 10, .int 5, .int 9]]) := rfl
    have q2 := fLen_lst (vs := sc.map .int) (mh := [.list [.int 1, .int 8, .int 0, .int 10, .int 5, .int 9]]) (by rw [List.length_map]; lia)
    rw [List.length_map] at q2
    exact (call_ev (l1 ((call_ev q1).trans q2) rfl)).trans rfl
  rw [for_rng e1 (by lia)]
  exact e
theorem numbers_ev (sc : List Int) (hl : sc.length ≤ 63) : ∃ ns : List Int, ns.length = 6 ∧ dFn [17] F_law_numbers [.lst (sc.map .int)] [] = some (.ref 0, [.list (ns.map .int)]) := by
  obtain ⟨me', ns', h5, h19, e⟩ := num_for sc hl
  refine ⟨ns', h5, ?_⟩
  have e0 : F_law_numbers = (dSeq (dAsg 19 (dLstM (dL1 (dC (.int 1)) (dL1 (dC (.int 8)) (dL1 (dC (.int 0)) (dL1 (dC (.int 10)) (dL1 (dC (.int 5)) (dL1 (dC (.int 9)) dL0)))))))) (dSeq (dFor none 100 (dCall fRange (dL1 (dCall fLen (dL1 (dVar 17) dL0)) dL0)) (tgV 18) bNum) (dSeq (dRet (dVar 19)) dNil))) := rfl
  have e1 : F_law_numbers [(17, .lst (sc.map .int))] [] = some (.ret (.ref 0), me', [.list (ns'.map .int)]) := by
    rw [e0, seq_asg (v := .ref 0) (mh1 := [.list [.int 1, .int 8, .int 0, .int 10, .int 5, .int 9]]) rfl]
    rw [show upd [(17, .lst (sc.map .int))] 19 (.ref 0) = [(17, .lst (sc.map .int)), (19, .ref 0)] from rfl, seq_next e]
    exact seq_ret (me_dVar h19)
  simp only [dFn, List.length_cons, List.length_nil, if_true, zipE, e1]

noncomputable def vl (x : Int) : Nat := 1 + (x.fmod 6).toNat
noncomputable def mn (x : Int) : Nat := ((x.fdiv 6).fmod 2).toNat
noncomputable def sg (ns : List Int) : Nat := [34, 92, 35, 120].getD ((ns.sum.fmod 4).toNat) 0
theorem fmod_i (x : Int) {m : Nat} (hm : 0 < m) : x.fmod (m : Int) = (((x.fmod (m : Int)).toNat : Nat) : Int) ∧ (x.fmod (m : Int)).toNat < m := by
  have h0 : (0 : Int) < (m : Int) := Int.ofNat_lt.mpr hm
  have h1 := Int.fmod_nonneg_of_pos x h0
  have h2 := Int.fmod_lt_of_pos x h0
  have h3 := (Int.toNat_of_nonneg h1).symm
  refine ⟨h3, Int.ofNat_lt.mp ?_⟩
  rw [← h3]
  exact h2
theorem mod_i (x : Int) {m : Nat} (hm : 0 < m) (mh : MH) : oMod (.int x) (.int (m : Int)) mh = some (.int (((x.fmod (m : Int)).toNat : Nat) : Int), mh) := by
  have h : (0 : Int) < (m : Int) := Int.ofNat_lt.mpr hm
  simp only [oMod, if_pos h]
  rw [← (fmod_i x hm).1]
theorem vl_lt (x : Int) : 1 ≤ vl x ∧ vl x < 7 := ⟨Nat.le_add_right 1 _, by
  have h := (fmod_i x (m := 6) (by decide)).2
  have h2 : (x.fmod 6).toNat < 6 := h
  unfold vl
  omega⟩
theorem mn_lt (x : Int) : mn x < 2 := (fmod_i (x.fdiv 6) (m := 2) (by decide)).2
noncomputable def valsM (ns : List Int) : MV := .lst (ns.map fun x => .int ((vl x : Nat) : Int))
noncomputable def dVals : D := (dComp [41] none 100 (dVar 19) (tgV 41) dBt (aEmit (dOp2 oAdd (dC (.int 1)) (dOp2 oMod (dVar 41) (dC (.int 6))))))
theorem vals_ev {ns : List Int} (hl : ns.length = 6) {me : ME} {mh : MH} (h19 : me.lookup 19 = some (.ref 0)) (m0 : mh[0]? = some (.list (ns.map .int))) : dVals me mh = some (valsM ns, mh) := by
  have c1 := comp_pure (own := [41]) (c0 := none) (N := 100) (tg := tgV 41) (cond := dBt) (elt := (dOp2 oAdd (dC (.int 1)) (dOp2 oMod (dVar 41) (dC (.int 6))))) (me := me) (mh := mh) (mh0 := mh) (it := dVar 19) (me_dVar h19) (k := .list 0) (by simp only [itOf, m0]) (items := ns.map .int) (fun j => by simp only [nextOf, m0])
    (fun _ => true) (fun v => .int ((vl (toI v) : Nat) : Int)) (fun _ => True) trivial (by rw [List.length_map, hl]; decide) (by rw [List.length_map, hl]; decide) (fun j it me1 hj P => by
      rw [List.getElem?_map] at hj
      obtain ⟨x, hx, rfl⟩ := Option.map_eq_some_iff.mp hj
      refine ⟨_, rfl, trivial, rfl, fun _ => ?_⟩
      have q1 : oMod (.int x) (.int 6) mh = some (.int (((x.fmod 6).toNat : Nat) : Int), mh) := mod_i x (m := 6) (by decide) mh
      refine (op2_ev c_ev ((op2_ev (me_dVar lk_self) c_ev).trans q1)).trans ?_
      show some (MV.int (1 + (((x.fmod 6).toNat : Nat) : Int)), mh) = some (.int ((1 + (x.fmod 6).toNat : Nat) : Int), mh)
      rw [Int.natCast_add]
      rfl)
  rw [filt_true, List.map_map] at c1
  exact c1
theorem all_int (ns : List Int) : (ns.map MV.int).all isI = true := by
  rw [List.all_eq_true]
  intro v hv
  obtain ⟨x, _, rfl⟩ := List.mem_map.mp hv
  rfl
theorem toI_int (ns : List Int) : (ns.map MV.int).map toI = ns := by
  rw [List.map_map]
  exact List.map_id ns
noncomputable def dSign : D := (dOp2 oItem (dC (.str "\"\\#x")) (dOp2 oMod (dCall fSum (dL1 (dVar 19) dL0)) (dC (.int 4))))
theorem lt4 {k : Nat} (h : k < 4) : k = 0 ∨ k = 1 ∨ k = 2 ∨ k = 3 := (by decide : ∀ k : Fin 4, k.1 = 0 ∨ k.1 = 1 ∨ k.1 = 2 ∨ k.1 = 3) ⟨k, h⟩
theorem sign_item {k : Nat} (h : k < 4) (mh : MH) : oItem (.str "\"\\#x") (.int (k : Int)) mh = some (.str (txt [[34, 92, 35, 120].getD k 0]), mh) := by
  rcases lt4 h with rfl | rfl | rfl | rfl <;> kernel_rfl
theorem sign_ev {ns : List Int} {me : ME} {mh : MH} (h19 : me.lookup 19 = some (.ref 0)) (m0 : mh[0]? = some (.list (ns.map .int))) : dSign me mh = some (.str (txt [sg ns]), mh) := by
  have q0 : fSum [.ref 0] mh = some (.int ns.sum, mh) := by
    simp only [fSum, m0, all_int, if_true, toI_int]
  have q1 : oMod (.int ns.sum) (.int 4) mh = some (.int (((ns.sum.fmod 4).toNat : Nat) : Int), mh) := mod_i ns.sum (m := 4) (by decide) mh
  exact (op2_ev c_ev ((op2_ev ((call_ev (l1 (me_dVar h19) l0)).trans q0) c_ev).trans q1)).trans (sign_item (fmod_i ns.sum (m := 4) (by decide)).2 mh)
theorem sg_in (ns : List Int) : sg ns = 34 ∨ sg ns = 92 ∨ sg ns = 35 ∨ sg ns = 120 := by
  unfold sg
  rcases lt4 (fmod_i ns.sum (m := 4) (by decide)).2 with h | h | h | h
  · have h' : (ns.sum.fmod 4).toNat = 0 := h
    rw [h']; exact .inl rfl
  · have h' : (ns.sum.fmod 4).toNat = 1 := h
    rw [h']; exact .inr (.inl rfl)
  · have h' : (ns.sum.fmod 4).toNat = 2 := h
    rw [h']; exact .inr (.inr (.inl rfl))
  · have h' : (ns.sum.fmod 4).toNat = 3 := h
    rw [h']; exact .inr (.inr (.inr rfl))

noncomputable def wrR (σ v : Nat) : List Nat := (List.replicate v [92, σ]).flatten
noncomputable def wr (σ v m : Nat) : List Nat := if m = 1 then [92, 32] ++ (wrR σ v ++ [10]) else [34, 32] ++ ((if σ = 35 ∨ σ = 120 then List.replicate v σ else wrR σ v) ++ [34])
theorem lt7 {k : Nat} (h : 1 ≤ k ∧ k < 7) : k = 1 ∨ k = 2 ∨ k = 3 ∨ k = 4 ∨ k = 5 ∨ k = 6 := by
  have := (by decide : ∀ k : Fin 7, k.1 = 0 ∨ k.1 = 1 ∨ k.1 = 2 ∨ k.1 = 3 ∨ k.1 = 4 ∨ k.1 = 5 ∨ k.1 = 6) ⟨k, h.2⟩
  rcases this with e | e
  · have e : k = 0 := e
    subst e
    exact absurd h.1 (by decide)
  · exact e
theorem lt2 {k : Nat} (h : k < 2) : k = 0 ∨ k = 1 := (by decide : ∀ k : Fin 2, k.1 = 0 ∨ k.1 = 1) ⟨k, h⟩
theorem written_ev {σ v m : Nat} (hσ : σ = 34 ∨ σ = 92 ∨ σ = 35 ∨ σ = 120) (hv : 1 ≤ v ∧ v < 7) (hm : m < 2) (mh : MH) : dFn [20, 21, 22] F_law_written [.int (v : Int), .str (txt [σ]), .int (m : Int)] mh = some (.str (txt (wr σ v m)), mh) := by
  rcases hσ with rfl | rfl | rfl | rfl <;> rcases lt7 hv with rfl | rfl | rfl | rfl | rfl | rfl <;> rcases lt2 hm with rfl | rfl <;> kernel_rfl
end Mine

namespace Mine

noncomputable def pcs (ns : List Int) : List (List Nat × List Nat) := ns.map fun x => (wr (sg ns) (vl x) (mn x), 32 :: List.replicate (vl x) (sg ns))
noncomputable def textW (ns : List Int) : List Nat := ((pcs ns).map (·.1)).flatten
noncomputable def dPc : D := (dCall (dFn [20, 21, 22] F_law_written) (dL1 (dOp2 oItem (dVar 35) (dVar 18)) (dL1 (dVar 21) (dL1 (dOp2 oMod (dOp2 oDiv (dOp2 oItem (dVar 19) (dVar 18)) (dC (.int 6))) (dC (.int 2))) dL0))))
noncomputable def dText : D := (dBMeth selStr fJoin (dC (.str "")) (dL1 (dComp [18] none 100 (dCall fRange (dL1 (dC (.int 6)) dL0)) (tgV 18) dBt (aEmit dPc)) dL0))
theorem pc_ev {ns : List Int} (hl : ns.length = 6) {j : Nat} (hj : j < 6) {me : ME} {mh : MH} (m0 : mh[0]? = some (.list (ns.map .int))) (h18 : me.lookup 18 = some (.int (j : Int))) (h19 : me.lookup 19 = some (.ref 0)) (h35 : me.lookup 35 = some (valsM ns)) (h21 : me.lookup 21 = some (.str (txt [sg ns]))) :
    dPc me mh = some (.str (txt (wr (sg ns) (vl (ns.getD j 0)) (mn (ns.getD j 0)))), mh) := by
  have hlt : j < ns.length := by rw [hl]; exact hj
  have hx : ns[j]? = some (ns.getD j 0) := by rw [List.getD_eq_getElem?_getD, List.getElem?_eq_getElem hlt]; rfl
  have t1 : dOp2 oItem (dVar 35) (dVar 18) me mh = some (.int ((vl (ns.getD j 0) : Nat) : Int), mh) := by
    refine (op2_ev (me_dVar h35) (me_dVar h18)).trans (item_lst ?_ (by rw [List.length_map, hl]; decide))
    rw [List.getElem?_map, hx]; rfl
  have t2 : dOp2 oItem (dVar 19) (dVar 18) me mh = some (.int (ns.getD j 0), mh) := by
    refine (op2_ev (me_dVar h19) (me_dVar h18)).trans (item_ref m0 ?_ (by rw [List.length_map, hl]; decide))
    rw [List.getElem?_map, hx]; rfl
  have t3 : dOp2 oDiv (dOp2 oItem (dVar 19) (dVar 18)) (dC (.int 6)) me mh = some (.int ((ns.getD j 0).fdiv 6), mh) := (op2_ev t2 c_ev).trans rfl
  have t4 : dOp2 oMod (dOp2 oDiv (dOp2 oItem (dVar 19) (dVar 18)) (dC (.int 6))) (dC (.int 2)) me mh = some (.int ((mn (ns.getD j 0) : Nat) : Int), mh) := (op2_ev t3 c_ev).trans (mod_i _ (m := 2) (by decide) mh)
  exact (call_ev (l1 t1 (l1 (me_dVar h21) (l1 t4 l0)))).trans (written_ev (sg_in ns) (vl_lt _) (mn_lt _) mh)
theorem rng_map {α : Type} (g : Int → α) {ns : List Int} (hl : ns.length = 6) : (rngI 6).map (fun v => g (ns.getD (toI v).toNat 0)) = ns.map g := by
  match ns, hl with
  | [a, b, c, d, e, f], _ => rfl
theorem wr_len {σ v m : Nat} (hv : v < 7) : (wr σ v m).length ≤ 15 := by
  have h1 : (wrR σ v).length = 2 * v := by
    unfold wrR
    rw [List.length_flatten, List.map_replicate, List.sum_replicate_nat]
    exact Nat.mul_comm _ _
  unfold wr
  split
  · simp only [List.length_append, List.length_cons, List.length_nil, h1]
    lia
  · split
    · simp only [List.length_append, List.length_cons, List.length_nil, List.length_replicate]
      lia
    · simp only [List.length_append, List.length_cons, List.length_nil, h1]
      lia
theorem textW_len {ns : List Int} (hl : ns.length = 6) : (textW ns).length ≤ 90 := by
  have key : ∀ (σ : Nat) (l : List Int), ((l.map fun x => (wr σ (vl x) (mn x), 32 :: List.replicate (vl x) σ)).map (·.1)).flatten.length ≤ 15 * l.length := by
    intro σ l
    induction l with
    | nil => simp
    | cons x r ih =>
      have h := wr_len (σ := σ) (m := mn x) (vl_lt x).2
      simp only [List.map_cons, List.flatten_cons, List.length_append, List.length_cons] at ih ⊢
      lia
  have := key (sg ns) ns
  rw [hl] at this
  exact this
theorem text_ev {ns : List Int} (hl : ns.length = 6) {me : ME} {mh : MH} (m0 : mh[0]? = some (.list (ns.map .int))) (h19 : me.lookup 19 = some (.ref 0)) (h35 : me.lookup 35 = some (valsM ns)) (h21 : me.lookup 21 = some (.str (txt [sg ns]))) :
    dText me mh = some (.str (txt (textW ns)), mh) := by
  have c1 := comp_pure (own := [18]) (c0 := none) (N := 100) (tg := tgV 18) (cond := dBt) (elt := dPc) (me := me) (mh := mh) (mh0 := mh) (it := dCall fRange (dL1 (dC (.int 6)) dL0)) (v := .rng 0 6) rfl (k := .rng 0 6) (it_rng (by decide)) (items := rngI 6) (fun j => nx_rng (n := 6) j)
    (fun _ => true) (fun v => .str (txt (wr (sg ns) (vl (ns.getD (toI v).toNat 0)) (mn (ns.getD (toI v).toNat 0))))) (Sees [18] me) (Sees.drop me (by simp)) (by rw [rngI_len]; decide) (by rw [rngI_len]; decide) (fun j it me1 hj P => by
      obtain ⟨hj6, rfl⟩ := rngI_get hj
      have P' : Sees [18] me (upd me1 18 (.int (j : Int))) := P.upd (by simp)
      refine ⟨_, rfl, P', rfl, fun _ => ?_⟩
      exact pc_ev hl hj6 m0 lk_self ((P' 19 (by decide)).trans h19) ((P' 35 (by decide)).trans h35) ((P' 21 (by decide)).trans h21))
  rw [filt_true, rng_map (fun x => MV.str (txt (wr (sg ns) (vl x) (mn x)))) hl] at c1
  have e1 : (ns.map fun x => MV.str (txt (wr (sg ns) (vl x) (mn x)))) = ((pcs ns).map (·.1)).map fun l => .str (txt l) := by
    unfold pcs
    rw [List.map_map, List.map_map]
    rfl
  rw [e1] at c1
  have e2 := l1 c1 (l0 (me := me))
  have e3 : selStr (.str ("" : Str)) mh = true := rfl
  have e4 := join_ev (ls := (pcs ns).map (·.1)) (mh := mh) (Nat.le_trans (textW_len hl) (by decide))
  unfold dText
  simp only [dBMeth, dC, e3, if_true, e2, e4]
  rfl
theorem lexW_rep (σ : Nat) (r : List Nat) : ∀ (v : Nat) (tok : List Nat), LexW (wrR σ v ++ 10 :: r) tok (tok ++ List.replicate v σ) r false
  | 0, tok => by
    show LexW (10 :: r) tok (tok ++ []) r false
    rw [List.append_nil]
    exact .close rfl
  | v + 1, tok => by
    have h := lexW_rep σ r v (tok ++ [σ])
    rw [List.append_assoc] at h
    exact .esc h
theorem lexQ_rep (σ : Nat) (r : List Nat) : ∀ (v : Nat) (tok : List Nat), LexQ (wrR σ v ++ 34 :: r) tok (tok ++ List.replicate v σ) r
  | 0, tok => by
    show LexQ (34 :: r) tok (tok ++ []) r
    rw [List.append_nil]
    exact .close
  | v + 1, tok => by
    have h := lexQ_rep σ r v (tok ++ [σ])
    rw [List.append_assoc] at h
    exact .esc h
theorem lexQ_plain {σ : Nat} (h1 : σ ≠ 34) (h2 : σ ≠ 92) (r : List Nat) : ∀ (v : Nat) (tok : List Nat), LexQ (List.replicate v σ ++ 34 :: r) tok (tok ++ List.replicate v σ) r
  | 0, tok => by
    show LexQ (34 :: r) tok (tok ++ []) r
    rw [List.append_nil]
    exact .close
  | v + 1, tok => by
    have h := lexQ_plain h1 h2 r v (tok ++ [σ])
    rw [List.append_assoc] at h
    exact .plain h1 h2 h
set_option tactic.hygienic true in
theorem wr_lex (σ v m : Nat) (r : List Nat) : LexT (wr σ v m ++ r) (32 :: List.replicate v σ) r := by
  unfold wr
  split
  · show LexT (92 :: 32 :: ((wrR σ v ++ [10]) ++ r)) _ r
    rw [List.append_assoc]
    exact .esc (lexW_rep σ r v [32])
  · show LexT (34 :: 32 :: ((_ ++ [34]) ++ r)) _ r
    rw [List.append_assoc]
    split
    · rename_i h
      refine .quote (.plain (by decide) (by decide) (lexQ_plain ?_ ?_ r v [32]))
      · rcases h with rfl | rfl <;> decide
      · rcases h with rfl | rfl <;> decide
    · exact .quote (.plain (by decide) (by decide) (lexQ_rep σ r v [32]))
theorem sg_lt (ns : List Int) : sg ns < 128 := by
  rcases sg_in ns with h | h | h | h <;> rw [h] <;> decide
theorem wrR_ok {σ : Nat} (h : σ < 128) (v : Nat) : ∀ c ∈ wrR σ v, c < 128 := by
  intro c hc
  unfold wrR at hc
  obtain ⟨l, hl, hc⟩ := List.mem_flatten.mp hc
  rw [List.eq_of_mem_replicate hl] at hc
  rcases List.mem_cons.mp hc with rfl | hc
  · decide
  · rw [List.mem_singleton.mp hc]; exact h
theorem wr_ok {σ : Nat} (h : σ < 128) (v m : Nat) : ∀ c ∈ wr σ v m, c < 128 := by
  intro c hc
  unfold wr at hc
  split at hc
  · rcases List.mem_append.mp hc with hc | hc
    · exact (by decide : ∀ c ∈ [92, 32], c < 128) c hc
    · rcases List.mem_append.mp hc with hc | hc
      · exact wrR_ok h v c hc
      · exact (by decide : ∀ c ∈ [10], c < 128) c hc
  · rcases List.mem_append.mp hc with hc | hc
    · exact (by decide : ∀ c ∈ [34, 32], c < 128) c hc
    · rcases List.mem_append.mp hc with hc | hc
      · split at hc
        · rw [List.eq_of_mem_replicate hc]; exact h
        · exact wrR_ok h v c hc
      · exact (by decide : ∀ c ∈ [34], c < 128) c hc
theorem textW_ok (ns : List Int) : ∀ c ∈ textW ns, c < 128 := by
  intro c hc
  unfold textW pcs at hc
  obtain ⟨l, hl, hc⟩ := List.mem_flatten.mp hc
  rw [List.map_map] at hl
  obtain ⟨x, _, rfl⟩ := List.mem_map.mp hl
  exact wr_ok (sg_lt ns) _ _ c hc
noncomputable def wordsM (ns : List Int) : MV := .lst (ns.map fun x => .str (txt (32 :: List.replicate (vl x) (sg ns))))
noncomputable def dWords : D := (dComp [18] none 100 (dCall fRange (dL1 (dC (.int 6)) dL0)) (tgV 18) dBt (aEmit (dMeth 143 "get_token" (dFn [0] (F_get_token 143 126)) (dVar 30) dL0)))
theorem words_ev {ns : List Int} (hl : ns.length = 6) {mh : MH} {i dd t pb : Nat} (h : LexAt 143 mh i dd t pb (txt (textW ns)) 0 1) (h1 : pb ≠ dd) (h2 : pb ≠ t) (hpb : mh[pb]? = some (.list [])) {me : ME} (h30 : me.lookup 30 = some (.ref i)) :
    ∃ css : List (Option Nat), css.length = 6 ∧ dWords me mh = some (wordsM ns, lexSet mh dd t pb (txt (textW ns)) (textW ns).length (1 + nls (textW ns)) ++ css.map (MO.citer 126)) := by
  have hT := textW_len hl
  have hpl : (pcs ns).length = 6 := by unfold pcs; rw [List.length_map, hl]
  obtain ⟨me', junk', e, css, rfl, hc⟩ := lex_comp (rc := 126) (x := 18) (y := 30) (m := 6) h h1 h2 (by lia) (textW_ok ns) hpb (by decide) [] (pcs ns) (fun p hp r => by
      unfold pcs at hp
      obtain ⟨x, _, rfl⟩ := List.mem_map.mp hp
      exact wr_lex _ _ _ r) 100 0 [] (dropV [18] me) [] 1 (by rw [List.append_nil]; exact List.suffix_refl _) (by rw [hpl]; decide) (by rw [hpl]) (by rw [hpl]; decide) (by rw [lookup_dropV' (by decide)]; exact h30)
  have et : (pcs ns).map (fun p => MV.str (txt p.2)) = ns.map fun x => .str (txt (32 :: List.replicate (vl x) (sg ns))) := by
    unfold pcs
    rw [List.map_map]
    rfl
  rw [et] at e
  have ef : ((pcs ns).map (·.1)).flatten = textW ns := rfl
  rw [ef] at e
  simp only [List.append_nil, List.nil_append, Nat.sub_self, List.length_nil, Nat.sub_zero] at e
  rw [h.same] at e
  refine ⟨css, by rw [hc, hpl], ?_⟩
  have hi : dCall fRange (dL1 (dC (.int 6)) dL0) me mh = some (.rng 0 6, mh) := rfl
  have hit : itOf none (.rng 0 6) mh = some (.rng 0 6) := it_rng (by decide)
  unfold dWords
  simp only [dComp, hi, hit]
  have e' : dCompLoop (tgV 18) dBt (aEmit (dMeth 143 "get_token" (dFn [0] (F_get_token 143 126)) (dVar 30) dL0)) (.rng 0 6) 100 0 [] (dropV [18] me) mh = _ := e
  rw [e']
  have : (1 : Int) + nls (textW ns) - nls [] = 1 + nls (textW ns) := by
    have : nls [] = 0 := rfl
    lia
  rw [this]
  rfl
end Mine

namespace Mine

theorem ssi_to {k n : Nat} (h : k ≤ n) : Builtin.Str.strSliceIndices none (some (k : Int)) 1 n = List.range k := by
  have h0 : ¬ ((k : Int) < 0) := Int.not_lt.mpr (Int.natCast_nonneg k)
  unfold Builtin.Str.strSliceIndices
  simp only [h0, if_false, show (1 : Int) > 0 by decide, if_true, mm_id h]
  rw [show (0 : Int) = ((0 : Nat) : Int) from rfl, sliceRange_one, Nat.sub_zero, show ((0 + ·) : Nat → Nat) = id by funext j; simp, List.map_id]
theorem ssi_from {k n : Nat} (h : k ≤ n) : Builtin.Str.strSliceIndices (some (k : Int)) none 1 n = (List.range (n - k)).map (k + ·) := by
  have h0 : ¬ ((k : Int) < 0) := Int.not_lt.mpr (Int.natCast_nonneg k)
  unfold Builtin.Str.strSliceIndices
  simp only [h0, if_false, show (1 : Int) > 0 by decide, if_true, mm_id h]
  exact sliceRange_one k n
set_option tactic.hygienic true in
theorem slice_to {l : List Nat} {k : Nat} (h : k ≤ l.length) : Txt.slice (txt l) none (some (k : Int)) = txt (l.take k) := by
  unfold Txt.slice
  rw [txt_len, ssi_to h, List.length_range]
  split
  · rename_i e
    have : k = l.length := by simpa using e
    rw [this, List.take_length]
  · show (⟨((List.range k).filterMap (fun x => l.toArray[x]?)).toArray⟩ : Str) = _
    simp only [List.getElem?_toArray]
    rw [filterMap_range]
theorem drop_map (l : List Nat) (k : Nat) : ((List.range (l.length - k)).map (k + ·)).filterMap (l[·]?) = l.drop k := by
  rw [List.filterMap_map, show ((l[·]?) ∘ (k + ·)) = fun j => (l.drop k)[j]? by funext j; simp]
  rw [filterMap_range, List.take_of_length_le (by simp)]
set_option tactic.hygienic true in
theorem slice_from {l : List Nat} {k : Nat} (h : k ≤ l.length) : Txt.slice (txt l) (some (k : Int)) none = txt (l.drop k) := by
  unfold Txt.slice
  rw [txt_len, ssi_from h, List.length_map, List.length_range]
  split
  · rename_i e
    have e : l.length - k = l.length := by simpa using e
    have : k = 0 ∨ l.length = 0 := by lia
    rcases this with rfl | h0
    · rfl
    · rw [List.length_eq_zero_iff.mp h0, List.drop_nil]
  · show (⟨(((List.range (l.length - k)).map (k + ·)).filterMap (fun x => l.toArray[x]?)).toArray⟩ : Str) = _
    simp only [List.getElem?_toArray]
    rw [drop_map]
theorem sl_to {f : D} {g : D} {me : ME} {mh mh1 mh2 : MH} {l : List Nat} {k : Nat} (hf : f me mh = some (.str (txt l), mh1)) (hg : g me mh1 = some (.int (k : Int), mh2)) (hk : k ≤ l.length) (hl : l.length ≤ 1000) : dSliceS f none (some g) me mh = some (.str (txt (l.take k)), mh2) := by
  have h2 : (txt l).length ≤ sizeLine := by rw [txt_len]; exact Nat.le_trans hl (by decide)
  simp only [dSliceS, hf, dPart, hg, if_pos h2, slice_to hk]
theorem sl_from {f : D} {g : D} {me : ME} {mh mh1 mh2 : MH} {l : List Nat} {k : Nat} (hf : f me mh = some (.str (txt l), mh1)) (hg : g me mh1 = some (.int (k : Int), mh2)) (hk : k ≤ l.length) (hl : l.length ≤ 1000) : dSliceS f (some g) none me mh = some (.str (txt (l.drop k)), mh2) := by
  have h2 : (txt l).length ≤ sizeLine := by rw [txt_len]; exact Nat.le_trans hl (by decide)
  simp only [dSliceS, hf, dPart, hg, if_pos h2, slice_from hk]

noncomputable def bk (n : Nat) : List Nat := List.replicate n 32
noncomputable def mk (σ m : Nat) : List Nat := List.replicate m σ
noncomputable def blM (σ : Nat) (b : Nat × Nat) : MV := .tup [.str (txt (bk b.1)), .str (txt (mk σ b.2))]
noncomputable def wdM (σ : Nat) (b : Nat × Nat) : MV := .str (txt (bk b.1 ++ mk σ b.2))
noncomputable def risesB (x y : Nat × Nat) : Bool := Nat.blt (x.2 * y.1) (y.2 * x.1)
theorem fLen_str {l : List Nat} {mh : MH} (h : l.length ≤ 1000) : fLen [.str (txt l)] mh = some (.int ((l.length : Nat) : Int), mh) := by
  have h2 : (txt l).length ≤ sizeLine := by rw [txt_len]; exact Nat.le_trans h (by decide)
  simp only [fLen, if_pos h2]
  rw [txt_len]
theorem item_tup {vs : List MV} {k : Nat} {v : MV} {mh : MH} (h : vs[k]? = some v) (hl : vs.length ≤ 1000) : oItem (.tup vs) (.int (k : Int)) mh = some (v, mh) := by
  simp only [oItem, itemAt, place_nat (List.getElem?_eq_some_iff.mp h).1 hl, h]
theorem bl_0 {σ : Nat} {b : Nat × Nat} {f : D} {me : ME} {mh mh1 : MH} (h : f me mh = some (blM σ b, mh1)) : dOp2 oItem f (dC (.int 0)) me mh = some (.str (txt (bk b.1)), mh1) := (op2_ev h c_ev).trans (item_tup (k := 0) rfl (by show 2 ≤ 1000; decide))
theorem bl_1 {σ : Nat} {b : Nat × Nat} {f : D} {me : ME} {mh mh1 : MH} (h : f me mh = some (blM σ b, mh1)) : dOp2 oItem f (dC (.int 1)) me mh = some (.str (txt (mk σ b.2)), mh1) := (op2_ev h c_ev).trans (item_tup (k := 1) rfl (by show 2 ≤ 1000; decide))
theorem mul_int {a b : Nat} {mh : MH} (h : a ≤ 1000) : oMul (.int (a : Int)) (.int (b : Int)) mh = some (.int ((a * b : Nat) : Int), mh) := by
  have h2 : -1073741824 < (a : Int) ∧ (a : Int) < 1073741824 := by omega
  simp only [oMul, if_pos h2, Int.natCast_mul]
theorem lt_nat {a b : Nat} {mh : MH} : oLt (.int (a : Int)) (.int (b : Int)) mh = some (.bool (Nat.blt a b), mh) := by
  have : decide ((a : Int) < (b : Int)) = Nat.blt a b := by
    cases h : Nat.blt a b with
    | true => exact decide_eq_true (Int.ofNat_lt.mpr (Nat.blt_eq.mp h))
    | false =>
      refine decide_eq_false fun q => ?_
      rw [Nat.blt_eq.mpr (Int.ofNat_lt.mp q)] at h
      cases h
  simp only [oLt, this]
theorem rises_ev {σ : Nat} {x y : Nat × Nat} (h1 : x.1 ≤ 1000) (h2 : x.2 ≤ 1000) (h3 : y.1 ≤ 1000) (h4 : y.2 ≤ 1000) (mh : MH) : dFn [23, 24] F_law_rises [blM σ x, blM σ y] mh = some (.bool (risesB x y), mh) := by
  have v23 : ∀ mh, dVar 23 [(23, blM σ x), (24, blM σ y)] mh = some (blM σ x, mh) := fun mh => me_dVar rfl
  have v24 : ∀ mh, dVar 24 [(23, blM σ x), (24, blM σ y)] mh = some (blM σ y, mh) := fun mh => me_dVar rfl
  have len : ∀ {f : D} {l : List Nat}, f [(23, blM σ x), (24, blM σ y)] mh = some (.str (txt l), mh) → l.length ≤ 1000 → dCall fLen (dL1 f dL0) [(23, blM σ x), (24, blM σ y)] mh = some (.int ((l.length : Nat) : Int), mh) := fun hf hl => (call_ev (l1 hf l0)).trans (fLen_str hl)
  have a := len (bl_1 (v23 mh)) (by unfold mk; rw [List.length_replicate]; exact h2)
  have b := len (bl_0 (v24 mh)) (by unfold bk; rw [List.length_replicate]; exact h3)
  have c := len (bl_1 (v24 mh)) (by unfold mk; rw [List.length_replicate]; exact h4)
  have d := len (bl_0 (v23 mh)) (by unfold bk; rw [List.length_replicate]; exact h1)
  unfold mk at a c
  unfold bk at b d
  rw [List.length_replicate] at a b c d
  have e := (op2_ev (o := oLt) ((op2_ev a b).trans (mul_int h2)) ((op2_ev c d).trans (mul_int h4))).trans lt_nat
  have e0 : F_law_rises [(23, blM σ x), (24, blM σ y)] mh = some (.ret (.bool (risesB x y)), [(23, blM σ x), (24, blM σ y)], mh) := seq_ret e
  simp only [dFn, List.length_cons, List.length_nil, if_true, zipE, e0]
theorem cnt_blank {σ n m : Nat} (hσ : σ ≠ 32) : (bk n ++ mk σ m).count 32 = n := by
  unfold bk mk
  rw [List.count_append, List.count_replicate_self, List.count_replicate]
  have : (σ == 32) = false := by simpa using hσ
  rw [this]
  rfl
theorem s_blank : (" " : Str) = ch1 32 := by kernel_rfl
theorem block_ev {σ : Nat} (hσ : σ ≠ 32) {b : Nat × Nat} (h1 : b.1 ≤ 100) (h2 : b.2 ≤ 100) (mh : MH) : dFn [25] F_law_block [wdM σ b] mh = some (blM σ b, mh) := by
  have hl : (bk b.1 ++ mk σ b.2).length ≤ 1000 := by unfold bk mk; rw [List.length_append, List.length_replicate, List.length_replicate]; lia
  have hk : b.1 ≤ (bk b.1 ++ mk σ b.2).length := by unfold bk mk; rw [List.length_append, List.length_replicate, List.length_replicate]; lia
  have hb : (bk b.1).length = b.1 := List.length_replicate ..
  have e1 : dBMeth selStr fCount (dVar 25) (dL1 (dC (.str " ")) dL0) [(25, wdM σ b)] mh = some (.int ((b.1 : Nat) : Int), mh) := by
    rw [bmeth_str (me_dVar rfl) (l1 c_ev l0), s_blank, count_ch, cnt_blank hσ]
  have v25 : dVar 25 [(25, wdM σ b), (26, .int ((b.1 : Nat) : Int))] mh = some (.str (txt (bk b.1 ++ mk σ b.2)), mh) := me_dVar rfl
  have v26 : dVar 26 [(25, wdM σ b), (26, .int ((b.1 : Nat) : Int))] mh = some (.int ((b.1 : Nat) : Int), mh) := me_dVar rfl
  have e2 := sl_to v25 v26 hk hl
  have e3 := sl_from v25 v26 hk hl
  rw [List.take_left' hb] at e2
  rw [List.drop_left' hb] at e3
  have e4 := tup_ev (l1 e2 (l1 e3 l0)) (by simp)
  have e0 : F_law_block [(25, wdM σ b)] mh = some (.ret (blM σ b), [(25, wdM σ b), (26, .int ((b.1 : Nat) : Int))], mh) := (seq_asg e1).trans (seq_ret e4)
  simp only [dFn, List.length_cons, List.length_nil, if_true, zipE, e0]
end Mine

namespace Mine

noncomputable abbrev B := Nat × Nat
noncomputable def tot (r : List B) : Nat := (r.map fun b => b.1 + b.2).sum
theorem tot_mem {r : List B} {b : B} (h : b ∈ r) : b.1 + b.2 ≤ tot r := by
  induction r with
  | nil => cases h
  | cons x r ih =>
    have e : tot (x :: r) = (x.1 + x.2) + tot r := by simp [tot]
    rw [e]
    rcases List.mem_cons.mp h with rfl | h
    · exact Nat.le_add_right _ _
    · exact Nat.le_trans (ih h) (Nat.le_add_left _ _)
noncomputable def mergeR : Nat → List B → List B
  | n + 1, two :: one :: r => if risesB one two then two :: one :: r else mergeR n ((one.1 + two.1, one.2 + two.2) :: r)
  | _, r => r
theorem mergeR_0 (r : List B) : mergeR 0 r = r := by cases r <;> rfl
theorem mergeR_short {n : Nat} {r : List B} (h : r.length ≤ 1) : mergeR n r = r := by
  match n, r, h with
  | 0, r, _ => exact mergeR_0 r
  | n + 1, [], _ => rfl
  | n + 1, [a], _ => rfl
theorem tot_merge (one two : B) (r : List B) : tot ((one.1 + two.1, one.2 + two.2) :: r) = tot (two :: one :: r) := by
  simp only [tot, List.map_cons, List.sum_cons]
  lia
theorem mergeR_tot : ∀ (n : Nat) (r : List B), tot (mergeR n r) = tot r
  | 0, r => by rw [mergeR_0]
  | n + 1, [] => rfl
  | n + 1, [_] => rfl
  | n + 1, two :: one :: r => by
    unfold mergeR
    split
    · rfl
    · rw [mergeR_tot n, tot_merge]
theorem mergeR_len : ∀ (n : Nat) (r : List B), (mergeR n r).length ≤ r.length
  | 0, r => by rw [mergeR_0]; exact Nat.le_refl _
  | n + 1, [] => Nat.le_refl _
  | n + 1, [_] => Nat.le_refl _
  | n + 1, two :: one :: r => by
    unfold mergeR
    split
    · exact Nat.le_refl _
    · exact Nat.le_trans (mergeR_len n _) (by simp)
noncomputable def HP (mh : MH) (i dd σ : Nat) (r : List B) : MH := mh.set i (.inst 101 dd (some (r.reverse.map (blM σ))))
structure PileAt (mh : MH) (i dd : Nat) : Prop where
  lt : i < mh.length
  at_d : mh[dd]? = some (.attrs accA)
  ne : i ≠ dd
section
variable {mh : MH} {i dd σ : Nat} (K : PileAt mh i dd)
include K
theorem pl_i (r : List B) : (HP mh i dd σ r)[i]? = some (.inst 101 dd (some (r.reverse.map (blM σ)))) := by
  unfold HP
  rw [List.getElem?_set_self K.lt]
theorem pl_d (r : List B) : (HP mh i dd σ r)[dd]? = some (.attrs accA) := by
  unfold HP
  rw [List.getElem?_set_ne K.ne, K.at_d]
theorem pl_set (r : List B) (o : MO) : (HP mh i dd σ r).set i o = mh.set i o := by unfold HP; rw [List.set_set]
theorem len_bl (r : List B) : (r.reverse.map (blM σ)).length = r.length := by rw [List.length_map, List.length_reverse]
theorem pcount_ev {r : List B} (hr : r.length ≤ 100) : fPartCount 101 [.ref i] (HP mh i dd σ r) = some (.int ((r.length : Nat) : Int), HP mh i dd σ r) := by
  have h : True ∧ (r.reverse.map (blM σ)).length ≤ 100000 := ⟨trivial, by rw [len_bl K]; lia⟩
  simp only [fPartCount, pl_i K, true_and, if_pos h.2]
  rw [len_bl K]
theorem dpc_ev {r : List B} (hr : r.length ≤ 100) {me : ME} (h27 : me.lookup 27 = some (.ref i)) : dMeth 101 "part_count" (fPartCount 101) (dVar 27) dL0 me (HP mh i dd σ r) = some (.int ((r.length : Nat) : Int), HP mh i dd σ r) :=
  (meth_acc (pl_i K r) (pl_d K r) accA_pc h27 l0).trans (pcount_ev K hr)
theorem push_p {r : List B} (hr : r.length ≤ 100) (b : B) {me : ME} {f g : D} (h27 : me.lookup 27 = some (.ref i)) (hf : f me (HP mh i dd σ r) = some (.str (txt (bk b.1)), HP mh i dd σ r)) (hg : g me (HP mh i dd σ r) = some (.str (txt (mk σ b.2)), HP mh i dd σ r)) :
    dExprN (dMeth 101 "push" (dFn [0, 2, 3] (F_push 101)) (dVar 27) (dL1 f (dL1 g dL0))) me (HP mh i dd σ r) = some (.next, me, HP mh i dd σ (b :: r)) := by
  have e := push_ev (A := 101) (a := .str (txt (bk b.1))) (b := .str (txt (mk σ b.2))) (pl_i (σ := σ) K r) (pl_d K r) (by rw [len_bl K]; lia)
  have e2 := (meth_acc (name := "push") (den := dFn [0, 2, 3] (F_push 101)) (pl_i K r) (pl_d K r) accA_push h27 (l1 hf (l1 hg l0))).trans e
  simp only [dExprN, e2, pl_set K]
  have : r.reverse.map (blM σ) ++ [MV.tup [.str (txt (bk b.1)), .str (txt (mk σ b.2))]] = (b :: r).reverse.map (blM σ) := by
    rw [List.reverse_cons, List.map_append]
    rfl
  rw [this]
  rfl
theorem pop_ev {two one : B} {r : List B} (hr : r.length ≤ 50) : dFn [0, 15] F_pop_from [.ref i, .int ((r.length : Nat) : Int)] (HP mh i dd σ (two :: one :: r)) = some (.lst [blM σ one, blM σ two], HP mh i dd σ r) := by
  have el : (two :: one :: r).reverse.map (blM σ) = r.reverse.map (blM σ) ++ [blM σ one, blM σ two] := by
    rw [List.reverse_cons, List.reverse_cons, List.append_assoc, List.map_append]
    rfl
  have hlen : ((two :: one :: r).reverse.map (blM σ)).length ≤ 100000 := by rw [len_bl K]; show r.length + 2 ≤ 100000; lia
  have h1 := pl_i (σ := σ) K (two :: one :: r)
  have e1 : dSliceI 101 (dVar 0) (some (dVar 15)) none [(0, .ref i), (15, .int ((r.length : Nat) : Int))] (HP mh i dd σ (two :: one :: r)) = some (.lst [blM σ one, blM σ two], HP mh i dd σ (two :: one :: r)) := by
    have hp := pick_drop (vs := (two :: one :: r).reverse.map (blM σ)) (c := r.length) (by rw [len_bl K]; show r.length ≤ r.length + 2; lia)
    rw [el, List.drop_left' (len_bl K r)] at hp
    have v0 : dVar 0 [(0, .ref i), (15, .int ((r.length : Nat) : Int))] (HP mh i dd σ (two :: one :: r)) = some (.ref i, HP mh i dd σ (two :: one :: r)) := me_dVar rfl
    have v15 : dVar 15 [(0, .ref i), (15, .int ((r.length : Nat) : Int))] (HP mh i dd σ (two :: one :: r)) = some (.int ((r.length : Nat) : Int), HP mh i dd σ (two :: one :: r)) := me_dVar rfl
    simp only [dSliceI, v0, dPart, v15, h1, true_and, hlen, if_true]
    rw [el, hp]
  have e2 : dAsgSliceI 101 (dLst dL0) (dVar 0) (dVar 15) [(0, .ref i), (15, .int ((r.length : Nat) : Int)), (16, .lst [blM σ one, blM σ two])] (HP mh i dd σ (two :: one :: r)) = some (.next, [(0, .ref i), (15, .int ((r.length : Nat) : Int)), (16, .lst [blM σ one, blM σ two])], HP mh i dd σ r) := by
    have vv : dLst dL0 [(0, .ref i), (15, .int ((r.length : Nat) : Int)), (16, .lst [blM σ one, blM σ two])] (HP mh i dd σ (two :: one :: r)) = some (.lst [], HP mh i dd σ (two :: one :: r)) := rfl
    have v0 : dVar 0 [(0, .ref i), (15, .int ((r.length : Nat) : Int)), (16, .lst [blM σ one, blM σ two])] (HP mh i dd σ (two :: one :: r)) = some (.ref i, HP mh i dd σ (two :: one :: r)) := me_dVar rfl
    have v15 : dVar 15 [(0, .ref i), (15, .int ((r.length : Nat) : Int)), (16, .lst [blM σ one, blM σ two])] (HP mh i dd σ (two :: one :: r)) = some (.int (Int.ofNat r.length), HP mh i dd σ (two :: one :: r)) := me_dVar rfl
    simp only [dAsgSliceI, vv, v0, v15, h1, true_and, hlen, if_true, pl_set K]
    rw [el, List.take_left' (len_bl K r)]
    rfl
  have e0 : F_pop_from [(0, .ref i), (15, .int ((r.length : Nat) : Int))] (HP mh i dd σ (two :: one :: r)) = some (.ret (.lst [blM σ one, blM σ two]), [(0, .ref i), (15, .int ((r.length : Nat) : Int)), (16, .lst [blM σ one, blM σ two])], HP mh i dd σ r) :=
    (seq_asg e1).trans ((seq_next e2).trans (seq_ret (me_dVar rfl)))
  simp only [dFn, List.length_cons, List.length_nil, if_true, zipE, e0]
end
end Mine

namespace Mine

theorem gt_nat {a b : Nat} {mh : MH} : oGt (.int (a : Int)) (.int (b : Int)) mh = some (.bool (Nat.blt b a), mh) := by
  have : decide ((a : Int) > (b : Int)) = Nat.blt b a := by
    cases h : Nat.blt b a with
    | true => exact decide_eq_true (Int.ofNat_lt.mpr (Nat.blt_eq.mp h))
    | false =>
      refine decide_eq_false fun q => ?_
      rw [Nat.blt_eq.mpr (Int.ofNat_lt.mp q)] at h
      cases h
  simp only [oGt]
  rw [← this]
theorem loop_brk {tg : Tg} {f : DS} {k : ItK} {n j : Nat} {me me1 me2 : ME} {mh mh2 : MH} {v : MV} (h1 : nextOf k mh j = some (some v)) (h2 : tg me mh v = some me1) (h3 : f me1 mh = some (.brk, me2, mh2)) : dForLoop tg f k (n + 1) j me mh = some (.next, me2, mh2) := by
  simp only [dForLoop, h1, h2, h3]
noncomputable def dPC : D := (dMeth 101 "part_count" (fPartCount 101) (dVar 27) dL0)
noncomputable def dPush (f g : D) : DS := (dExprN (dMeth 101 "push" (dFn [0, 2, 3] (F_push 101)) (dVar 27) (dL1 f (dL1 g dL0))))
noncomputable def dPop : D := (dMeth 101 "pop_from" (dFn [0, 15] F_pop_from) (dVar 27) (dL1 (dOp2 oSub dPC (dC (.int 2))) dL0))
noncomputable def dRing : D := (dTup (dL1 (dOp2 oItem (dVar 29) (dC (.int 0))) (dL1 (dOp2 oItem (dVar 29) (dOp1 oNeg (dC (.int 1)))) dL0)))
noncomputable def dRise : DB := (dTru (dCall (dFn [23, 24] F_law_rises) (dL1 (dVar 23) (dL1 (dVar 24) dL0))))
noncomputable def it0 (x : Nat) : D := dOp2 oItem (dVar x) (dC (.int 0))
noncomputable def it1 (x : Nat) : D := dOp2 oItem (dVar x) (dC (.int 1))
noncomputable def bTwo : DS := (dSeq (dAsg 29 dPop) (dSeq (dAsgT (tgTR [23, 24]) dRing) (dSeq (dIf dRise (dSeq (dPush (it0 23) (it1 23)) (dSeq (dPush (it0 24) (it1 24)) (dSeq dBrk dNil))) dNil) (dSeq (dPush (dOp2 oAdd (it0 23) (it0 24)) (dOp2 oAdd (it1 23) (it1 24))) dNil))))
noncomputable def bIn : DS := (dSeq (dIf (dTru (dOp2 oGt dPC (dC (.int 1)))) bTwo dNil) dNil)
theorem bk_app (a b : Nat) : bk a ++ bk b = bk (a + b) := by unfold bk; rw [List.replicate_append_replicate]
theorem mk_app (σ a b : Nat) : mk σ a ++ mk σ b = mk σ (a + b) := by unfold mk; rw [List.replicate_append_replicate]
theorem bk_len (a : Nat) : (bk a).length = a := List.length_replicate ..
theorem mk_len (σ a : Nat) : (mk σ a).length = a := List.length_replicate ..
section
variable {mh : MH} {i dd σ : Nat} (K : PileAt mh i dd)
include K
theorem two_ev {two one : B} {r : List B} (hr : r.length ≤ 50) (ht : tot (two :: one :: r) ≤ 100) {me : ME} (h27 : me.lookup 27 = some (.ref i)) :
    ∃ me2, me2.lookup 27 = some (.ref i) ∧ bTwo me (HP mh i dd σ (two :: one :: r)) = some (if risesB one two then .brk else .next, me2, HP mh i dd σ (if risesB one two then two :: one :: r else (one.1 + two.1, one.2 + two.2) :: r)) := by
  have t2 := Nat.le_trans (tot_mem (r := two :: one :: r) (b := two) (by simp)) ht
  have t1 := Nat.le_trans (tot_mem (r := two :: one :: r) (b := one) (by simp)) ht
  have hl : (two :: one :: r).length ≤ 100 := by show r.length + 2 ≤ 100; lia
  have e1 : dPop me (HP mh i dd σ (two :: one :: r)) = some (.lst [blM σ one, blM σ two], HP mh i dd σ r) := by
    have q1 : dOp2 oSub dPC (dC (.int 2)) me (HP mh i dd σ (two :: one :: r)) = some (.int ((r.length : Nat) : Int), HP mh i dd σ (two :: one :: r)) := by
      refine (op2_ev (dpc_ev K hl h27) c_ev).trans ?_
      show some (MV.int (((r.length + 2 : Nat) : Int) - 2), _) = _
      congr 3
      lia
    exact (meth_acc (name := "pop_from") (den := dFn [0, 15] F_pop_from) (pl_i K _) (pl_d K _) accA_pf h27 (l1 q1 l0)).trans (pop_ev K hr)
  have v29 : ∀ mh, dVar 29 (upd me 29 (.lst [blM σ one, blM σ two])) mh = some (.lst [blM σ one, blM σ two], mh) := fun mh => me_dVar lk_self
  have e2 : dAsgT (tgTR [23, 24]) dRing (upd me 29 (.lst [blM σ one, blM σ two])) (HP mh i dd σ r) = some (.next, upd (upd (upd me 29 (.lst [blM σ one, blM σ two])) 24 (blM σ two)) 23 (blM σ one), HP mh i dd σ r) := by
    have q1 : dOp2 oItem (dVar 29) (dC (.int 0)) (upd me 29 (.lst [blM σ one, blM σ two])) (HP mh i dd σ r) = some (blM σ one, HP mh i dd σ r) := (op2_ev (v29 _) c_ev).trans (item_lst (k := 0) rfl (by show 2 ≤ 1000; decide))
    have q2 : dOp2 oItem (dVar 29) (dOp1 oNeg (dC (.int 1))) (upd me 29 (.lst [blM σ one, blM σ two])) (HP mh i dd σ r) = some (blM σ two, HP mh i dd σ r) := (op2_ev (v29 _) rfl).trans rfl
    have q3 := tup_ev (l1 q1 (l1 q2 l0)) (by show 2 ≤ 1000; decide)
    unfold dRing
    simp only [dAsgT, q3]
    rfl
  generalize hm : upd (upd (upd me 29 (.lst [blM σ one, blM σ two])) 24 (blM σ two)) 23 (blM σ one) = me2 at e2
  have k27 : me2.lookup 27 = some (.ref i) := by rw [← hm, lk_ne (by decide), lk_ne (by decide), lk_ne (by decide)]; exact h27
  have k23 : ∀ mh, dVar 23 me2 mh = some (blM σ one, mh) := fun mh => me_dVar (by rw [← hm]; exact lk_self)
  have k24 : ∀ mh, dVar 24 me2 mh = some (blM σ two, mh) := fun mh => me_dVar (by rw [← hm, lk_ne (by decide)]; exact lk_self)
  have e3 : dRise me2 (HP mh i dd σ r) = some (risesB one two, HP mh i dd σ r) := tru_bool ((call_ev (l1 (k23 _) (l1 (k24 _) l0))).trans (rises_ev (by lia) (by lia) (by lia) (by lia) _))
  refine ⟨me2, k27, ?_⟩
  unfold bTwo
  rw [seq_asg e1, seq_next e2]
  have hl1 : (one :: r).length ≤ 100 := by show r.length + 1 ≤ 100; lia
  cases hq : risesB one two with
  | true =>
    rw [hq] at e3
    rw [if_pos rfl, if_pos rfl]
    have p1 := push_p (σ := σ) K (r := r) (by lia) one k27 (bl_0 (k23 _)) (bl_1 (k23 _))
    have p2 := push_p (σ := σ) K (r := one :: r) hl1 two k27 (bl_0 (k24 _)) (bl_1 (k24 _))
    have p3 : (dSeq (dPush (it0 23) (it1 23)) (dSeq (dPush (it0 24) (it1 24)) (dSeq dBrk dNil))) me2 (HP mh i dd σ r) = some (.brk, me2, HP mh i dd σ (two :: one :: r)) := (seq_next p1).trans ((seq_next p2).trans rfl)
    have p4 : dIf dRise (dSeq (dPush (it0 23) (it1 23)) (dSeq (dPush (it0 24) (it1 24)) (dSeq dBrk dNil))) dNil me2 (HP mh i dd σ r) = some (.brk, me2, HP mh i dd σ (two :: one :: r)) := by
      rw [if_ev e3, if_pos rfl]; exact p3
    simp only [dSeq] at p4 ⊢
    simp only [p4]
  | false =>
    rw [hq] at e3
    rw [if_neg Bool.false_ne_true, if_neg Bool.false_ne_true]
    have s1 : dOp2 oAdd (it0 23) (it0 24) me2 (HP mh i dd σ r) = some (.str (txt (bk (one.1 + two.1))), HP mh i dd σ r) := by
      refine (op2_ev (bl_0 (k23 _)) (bl_0 (k24 _))).trans ?_
      rw [oAdd_str (by rw [bk_len, bk_len]; lia), bk_app]
    have s2 : dOp2 oAdd (it1 23) (it1 24) me2 (HP mh i dd σ r) = some (.str (txt (mk σ (one.2 + two.2))), HP mh i dd σ r) := by
      refine (op2_ev (bl_1 (k23 _)) (bl_1 (k24 _))).trans ?_
      rw [oAdd_str (by rw [mk_len, mk_len]; lia), mk_app]
    have p1 := push_p (σ := σ) K (r := r) (by lia) (one.1 + two.1, one.2 + two.2) k27 s1 s2
    have p4 : dIf dRise (dSeq (dPush (it0 23) (it1 23)) (dSeq (dPush (it0 24) (it1 24)) (dSeq dBrk dNil))) dNil me2 (HP mh i dd σ r) = some (.next, me2, HP mh i dd σ r) := by
      rw [if_ev e3]; rfl
    rw [seq_next p4]
    exact (seq_next p1).trans rfl
theorem in_loop : ∀ (n j : Nat) (me : ME) (r : List B), 6 - j < n → j ≤ 6 → r.length ≤ 50 → tot r ≤ 100 → me.lookup 27 = some (.ref i) →
    ∃ me', me'.lookup 27 = some (.ref i) ∧ dForLoop (tgV 28) bIn (.rng 0 6) n j me (HP mh i dd σ r) = some (.next, me', HP mh i dd σ (mergeR (6 - j) r)) := by
  intro n
  induction n with
  | zero => intro j me r h; exact absurd h (Nat.not_lt_zero _)
  | succ n ih =>
    intro j me r hn hj hr ht h27
    by_cases hj6 : j < 6
    · have hk : 6 - j = (6 - (j + 1)) + 1 := (Nat.succ_pred_eq_of_pos (Nat.sub_pos_of_lt hj6)).symm
      have h27' : (upd me 28 (.int (j : Int))).lookup 27 = some (.ref i) := (lk_ne (by decide)).trans h27
      have c0 : dTru (dOp2 oGt dPC (dC (.int 1))) (upd me 28 (.int (j : Int))) (HP mh i dd σ r) = some (Nat.blt 1 r.length, HP mh i dd σ r) :=
        tru_bool ((op2_ev (dpc_ev K (by lia) h27') c_ev).trans (gt_nat (b := 1)))
      match r, hr, ht, c0 with
      | [], _, _, c0 =>
        have hb : bIn (upd me 28 (.int (j : Int))) (HP mh i dd σ []) = some (.next, upd me 28 (.int (j : Int)), HP mh i dd σ []) := (seq_next ((if_ev c0).trans rfl)).trans rfl
        obtain ⟨me', h', e⟩ := ih (j + 1) _ [] (lt_less hn hj6) hj6 (by decide) (by decide) h27'
        refine ⟨me', h', (loop_step (rng_in hj6) rfl hb).trans (e.trans ?_)⟩
        rw [mergeR_short (by decide), mergeR_short (by decide)]
      | [b], hr, ht, c0 =>
        have hb : bIn (upd me 28 (.int (j : Int))) (HP mh i dd σ [b]) = some (.next, upd me 28 (.int (j : Int)), HP mh i dd σ [b]) := (seq_next ((if_ev c0).trans rfl)).trans rfl
        obtain ⟨me', h', e⟩ := ih (j + 1) _ [b] (lt_less hn hj6) hj6 hr ht h27'
        refine ⟨me', h', (loop_step (rng_in hj6) rfl hb).trans (e.trans ?_)⟩
        rw [mergeR_short (by show 1 ≤ 1; decide), mergeR_short (by show 1 ≤ 1; decide)]
      | two :: one :: r, hr, ht, c0 =>
        have hr' : r.length + 2 ≤ 50 := hr
        obtain ⟨me2, k27, e2⟩ := two_ev (σ := σ) K (r := r) (by lia) ht h27'
        have c1 : Nat.blt 1 (two :: one :: r).length = true := Nat.blt_eq.mpr (by show 1 < r.length + 2; lia)
        rw [c1] at c0
        have e3 : dIf (dTru (dOp2 oGt dPC (dC (.int 1)))) bTwo dNil (upd me 28 (.int (j : Int))) (HP mh i dd σ (two :: one :: r)) = some (if risesB one two then .brk else .next, me2, HP mh i dd σ (if risesB one two then two :: one :: r else (one.1 + two.1, one.2 + two.2) :: r)) := by
          rw [if_ev c0, if_pos rfl]; exact e2
        rw [hk]
        unfold mergeR
        cases hq : risesB one two with
        | true =>
          rw [hq, if_pos rfl, if_pos rfl] at e3
          rw [if_pos rfl]
          have hb : bIn (upd me 28 (.int (j : Int))) (HP mh i dd σ (two :: one :: r)) = some (.brk, me2, HP mh i dd σ (two :: one :: r)) := by
            unfold bIn
            simp only [dSeq, e3]
          exact ⟨me2, k27, loop_brk (rng_in hj6) rfl hb⟩
        | false =>
          rw [hq, if_neg Bool.false_ne_true, if_neg Bool.false_ne_true] at e3
          rw [if_neg Bool.false_ne_true]
          have hb : bIn (upd me 28 (.int (j : Int))) (HP mh i dd σ (two :: one :: r)) = some (.next, me2, HP mh i dd σ ((one.1 + two.1, one.2 + two.2) :: r)) := (seq_next e3).trans rfl
          obtain ⟨me', h', e⟩ := ih (j + 1) me2 ((one.1 + two.1, one.2 + two.2) :: r) (lt_less hn hj6) hj6 (by show r.length + 1 ≤ 50; lia) (by rw [tot_merge]; exact ht) k27
          exact ⟨me', h', (loop_step (rng_in hj6) rfl hb).trans e⟩
    · have : j = 6 := Nat.le_antisymm hj (Nat.not_lt.mp hj6)
      subst this
      refine ⟨me, h27, (loop_end (rng_out hj6)).trans ?_⟩
      rw [mergeR_0]
end
end Mine

namespace Mine

noncomputable def pushR (r : List B) (v : Nat) : List B := mergeR 6 ((1, v) :: r)
noncomputable def pileOf (l : List Nat) : List B := l.foldl pushR []
theorem pushR_len (r : List B) (v : Nat) : (pushR r v).length ≤ r.length + 1 := mergeR_len 6 _
theorem pushR_tot (r : List B) (v : Nat) : tot (pushR r v) = 1 + v + tot r := by
  unfold pushR
  rw [mergeR_tot]
  simp [tot]
theorem foldP_len : ∀ (l : List Nat) (r : List B), (l.foldl pushR r).length ≤ r.length + l.length
  | [], r => Nat.le_refl _
  | v :: l, r => by
    have h := foldP_len l (pushR r v)
    have h2 := pushR_len r v
    simp only [List.foldl_cons, List.length_cons] at h ⊢
    lia
theorem foldP_tot : ∀ (l : List Nat) (r : List B), (∀ v ∈ l, v ≤ 6) → tot (l.foldl pushR r) ≤ tot r + 7 * l.length
  | [], r, _ => by simp
  | v :: l, r, hv => by
    have h := foldP_tot l (pushR r v) (fun w hw => hv w (List.mem_cons_of_mem _ hw))
    have h2 := pushR_tot r v
    have h3 := hv v (List.mem_cons_self ..)
    simp only [List.foldl_cons, List.length_cons] at h ⊢
    lia
theorem pileOf_len (l : List Nat) : (pileOf l).length ≤ l.length := Nat.le_trans (foldP_len l []) (by simp)
theorem pileOf_tot {l : List Nat} (hv : ∀ v ∈ l, v ≤ 6) : tot (pileOf l) ≤ 7 * l.length := Nat.le_trans (foldP_tot l [] hv) (by simp [tot])
theorem pileOf_take {l : List Nat} {j v : Nat} (h : l[j]? = some v) : pileOf (l.take (j + 1)) = pushR (pileOf (l.take j)) v := by
  unfold pileOf
  rw [List.take_add_one, h]
  show (l.take j ++ [v]).foldl pushR [] = _
  rw [List.foldl_append]
  rfl
noncomputable def bPile : DS := (dSeq (dPush (dSliceS (dVar 25) none (some (dC (.int 1)))) (dSliceS (dVar 25) (some (dC (.int 1))) none)) (dSeq (dFor none 100 (dCall fRange (dL1 (dC (.int 6)) dL0)) (tgV 28) bIn) dNil))
theorem bPile_ev {mh : MH} {i dd σ : Nat} (K : PileAt mh i dd) {r : List B} {v : Nat} (hr : r.length ≤ 40) (ht : tot r ≤ 80) (hv : v ≤ 6) {me : ME} (h27 : me.lookup 27 = some (.ref i)) (h25 : me.lookup 25 = some (wdM σ (1, v))) :
    ∃ me', me'.lookup 27 = some (.ref i) ∧ bPile me (HP mh i dd σ r) = some (.next, me', HP mh i dd σ (pushR r v)) := by
  have hl : (bk 1 ++ mk σ v).length ≤ 1000 := by rw [List.length_append, bk_len, mk_len]; lia
  have h1 : 1 ≤ (bk 1 ++ mk σ v).length := by rw [List.length_append, bk_len]; lia
  have v25 : dVar 25 me (HP mh i dd σ r) = some (.str (txt (bk 1 ++ mk σ v)), HP mh i dd σ r) := me_dVar h25
  have e2 := sl_to (k := 1) v25 (c_ev (v := .int 1)) h1 hl
  have e3 := sl_from (k := 1) v25 (c_ev (v := .int 1)) h1 hl
  rw [List.take_left' (bk_len 1)] at e2
  rw [List.drop_left' (bk_len 1)] at e3
  have p1 := push_p (σ := σ) K (r := r) (by lia) (1, v) h27 e2 e3
  obtain ⟨me', h', e⟩ := in_loop (σ := σ) K 100 0 me ((1, v) :: r) (by decide) (by decide) (by show r.length + 1 ≤ 50; lia) (by simp [tot] at ht ⊢; lia) h27
  refine ⟨me', h', (seq_next p1).trans ((seq_next ((for_rng (a := 0) (b := 6) rfl (by decide)).trans e)).trans rfl)⟩
theorem set_last (a : MH) (x y : MO) : (a ++ [x, y]).set (a.length + 1) y = a ++ [x, y] := by
  rw [List.set_append_right _ _ (by lia)]
  have : a.length + 1 - a.length = 1 := by lia
  rw [this]
  rfl
theorem pile_ev {mh0 : MH} {σ : Nat} {l : List Nat} (hl : l.length = 6) (hv : ∀ v ∈ l, v ≤ 6) : dFn [42] F_law_pile [.lst (l.map fun v => wdM σ (1, v))] mh0 =
    some (.ref (mh0.length + 1), HP (mh0 ++ [.attrs accA, .inst 101 mh0.length (some [])]) (mh0.length + 1) mh0.length σ (pileOf l)) := by
  have K : PileAt (mh0 ++ [.attrs accA, .inst 101 mh0.length (some [])]) (mh0.length + 1) mh0.length := by
    refine ⟨?_, ?_, by lia⟩
    · rw [List.length_append]; show mh0.length + 1 < mh0.length + 2; lia
    · rw [List.getElem?_append_right (Nat.le_refl _), Nat.sub_self]; rfl
  have h0 : HP (mh0 ++ [.attrs accA, .inst 101 mh0.length (some [])]) (mh0.length + 1) mh0.length σ (pileOf (l.take 0)) = mh0 ++ [.attrs accA, .inst 101 mh0.length (some [])] := by
    rw [List.take_zero]
    exact set_last _ _ _
  obtain ⟨me', P, e⟩ := forLoop_ix (tg := tgV 25) (f := bPile) (k := .lst (l.map fun v => wdM σ (1, v))) (items := l.map fun v => wdM σ (1, v)) (fun j => HP (mh0 ++ [.attrs accA, .inst 101 mh0.length (some [])]) (mh0.length + 1) mh0.length σ (pileOf (l.take j)))
    (fun _ me => me.lookup 27 = some (.ref (mh0.length + 1))) (fun _ _ => rfl)
    (fun j it me hj P => by
      rw [List.getElem?_map] at hj
      obtain ⟨v, hv', rfl⟩ := Option.map_eq_some_iff.mp hj
      have hjl := (List.getElem?_eq_some_iff.mp hv').1
      have hv6 := hv v (List.mem_of_getElem? hv')
      have a1 := pileOf_len (l.take j)
      have a2 := pileOf_tot (l := l.take j) (fun w hw => hv w (List.take_subset _ _ hw))
      rw [List.length_take] at a1 a2
      obtain ⟨me2, k2, e2⟩ := bPile_ev (σ := σ) K (r := pileOf (l.take j)) (v := v) (by lia) (by lia) hv6 (me := upd me 25 (wdM σ (1, v))) ((lk_ne (by decide)).trans P) lk_self
      rw [← pileOf_take hv'] at e2
      exact ⟨_, me2, rfl, .inl e2, k2⟩) 100 0 [(42, .lst (l.map fun v => wdM σ (1, v))), (27, .ref (mh0.length + 1))] (by rw [List.length_map, hl]; decide) (Nat.zero_le _) rfl
  rw [List.length_map, hl, h0] at e
  rw [List.take_of_length_le (by rw [hl]; exact Nat.le_refl 6)] at e
  have a1 := (call_ev (den := fMakeL 101 (fInitAcc 101)) (l0 (me := [(42, .lst (l.map fun v => wdM σ (1, v)))]) (mh := mh0))).trans makeA_ev
  have e0 : F_law_pile = (dSeq (dAsg 27 (dCall (fMakeL 101 (fInitAcc 101)) dL0)) (dSeq (dFor none 100 (dVar 42) (tgV 25) bPile) (dSeq (dRet (dVar 27)) dNil))) := rfl
  have e2 : dFor none 100 (dVar 42) (tgV 25) bPile [(42, .lst (l.map fun v => wdM σ (1, v))), (27, .ref (mh0.length + 1))] (mh0 ++ [.attrs accA, .inst 101 mh0.length (some [])]) = some (.next, me', HP (mh0 ++ [.attrs accA, .inst 101 mh0.length (some [])]) (mh0.length + 1) mh0.length σ (pileOf l)) := by
    have v42 : dVar 42 [(42, .lst (l.map fun v => wdM σ (1, v))), (27, .ref (mh0.length + 1))] (mh0 ++ [.attrs accA, .inst 101 mh0.length (some [])]) = some (.lst (l.map fun v => wdM σ (1, v)), mh0 ++ [.attrs accA, .inst 101 mh0.length (some [])]) := me_dVar rfl
    simp only [dFor, v42, itOf]
    exact e
  have e1 : F_law_pile [(42, .lst (l.map fun v => wdM σ (1, v)))] mh0 = some (.ret (.ref (mh0.length + 1)), me', HP (mh0 ++ [.attrs accA, .inst 101 mh0.length (some [])]) (mh0.length + 1) mh0.length σ (pileOf l)) := by
    rw [e0, seq_asg a1, show upd [(42, MV.lst (l.map fun v => wdM σ (1, v)))] 27 (.ref (mh0.length + 1)) = [(42, .lst (l.map fun v => wdM σ (1, v))), (27, .ref (mh0.length + 1))] from rfl, seq_next e2]
    exact seq_ret (me_dVar P)
  simp only [dFn, List.length_cons, List.length_nil, if_true, zipE, e1]
end Mine

namespace Mine

structure Kp (own : List Nat) (mh mh' : MH) : Prop where
  len : mh.length ≤ mh'.length
  get : ∀ k, k < mh.length → k ∉ own → mh'[k]? = mh[k]?
theorem Kp.refl (own : List Nat) (mh : MH) : Kp own mh mh := ⟨Nat.le_refl _, fun _ _ _ => rfl⟩
theorem Kp.trans {own : List Nat} {a b c : MH} (h : Kp own a b) (k : Kp own b c) : Kp own a c := ⟨Nat.le_trans h.len k.len, fun x hx ho => (k.get x (Nat.lt_of_lt_of_le hx h.len) ho).trans (h.get x hx ho)⟩
theorem Kp.mono {own own' : List Nat} {a b : MH} (h : Kp own a b) (s : ∀ k ∈ own, k ∈ own') : Kp own' a b := ⟨h.len, fun k hk ho => h.get k hk fun hm => ho (s k hm)⟩
theorem Kp.app (own : List Nat) (mh r : MH) : Kp own mh (mh ++ r) := ⟨by rw [List.length_append]; lia, fun k hk _ => List.getElem?_append_left hk⟩
theorem Kp.at {own : List Nat} {a b : MH} (h : Kp own a b) {k : Nat} {o : MO} (e : a[k]? = some o) (ho : k ∉ own) : b[k]? = some o := (h.get k (mh_lt e) ho).trans e
theorem Kp.set {own : List Nat} {mh : MH} {k : Nat} {o : MO} (hk : k ∈ own) : Kp own mh (mh.set k o) := ⟨by rw [List.length_set]; exact Nat.le_refl _, fun j _ hj => by
  have : k ≠ j := fun e => hj (e ▸ hk)
  rw [List.getElem?_set_ne this]⟩
theorem Kp.lex {own : List Nat} {mh : MH} {dd t pb p : Nat} {T : Str} {L : Int} (h1 : dd ∈ own) (h2 : t ∈ own) : Kp own mh (lexSet mh dd t pb T p L) := by
  unfold lexSet
  exact (Kp.set h2).trans (Kp.set h1)
theorem LexAt.kp {N : Addr} {mh mh' : MH} {i dd t pb p : Nat} {T : Str} {L : Int} {own : List Nat} (h : LexAt N mh i dd t pb T p L) (k : Kp own mh mh') (h1 : i ∉ own) (h2 : dd ∉ own) (h3 : t ∉ own) : LexAt N mh' i dd t pb T p L :=
  ⟨k.at h.inst h1, k.at h.attrs h2, k.at h.at_ h3, h.i1, h.i2, h.i3⟩
inductive Tells (σ : Nat) : List Nat → List B → Prop where
  | nil : Tells σ [] []
  | cons {p l : List Nat} {b : B} {r : List B} : (∀ x, LexT (p ++ x) (bk b.1 ++ mk σ b.2) x) → Tells σ l r → Tells σ (p ++ l) (b :: r)
structure Line (σ : Nat) (mh : MH) (i : Nat) (own : List Nat) (rem : List B) : Prop where
  ex : ∃ dd t pb, own = [i, dd, t, pb] ∧ LexAt 143 mh i dd t pb (txt []) 0 1 ∧ mh[pb]? = some (.list (rem.map (wdM σ))) ∧ pb ≠ i ∧ pb ≠ dd ∧ pb ≠ t
inductive Src (σ : Nat) (mh : MH) (i : Nat) (own : List Nat) (rem : List B) : Prop where
  | line : Line σ mh i own rem → Src σ mh i own rem
  | text {dd t pb : Nat} {l0 l : List Nat} {L : Int} : own = [i, dd, t, pb] → LexAt 143 mh i dd t pb (txt l0) (l0.length - l.length) L → mh[pb]? = some (.list []) → pb ≠ i → pb ≠ dd → pb ≠ t → l0.length ≤ 900 → (∀ c ∈ l0, c < 128) → l <:+ l0 → Tells σ l rem → Src σ mh i own rem
theorem Line.kp {σ : Nat} {mh mh' : MH} {i : Nat} {own own' : List Nat} {rem : List B} (h : Line σ mh i own rem) (k : Kp own' mh mh') (hd : ∀ x ∈ own, x ∉ own') : Line σ mh' i own rem := by
  obtain ⟨dd, t, pb, rfl, h1, h2, h3, h4, h5⟩ := h.ex
  exact ⟨dd, t, pb, rfl, h1.kp k (hd _ (by simp)) (hd _ (by simp)) (hd _ (by simp)), k.at h2 (hd _ (by simp)), h3, h4, h5⟩
theorem Src.kp {σ : Nat} {mh mh' : MH} {i : Nat} {own own' : List Nat} {rem : List B} (h : Src σ mh i own rem) (k : Kp own' mh mh') (hd : ∀ x ∈ own, x ∉ own') : Src σ mh' i own rem := by
  cases h with
  | line h => exact .line (h.kp k hd)
  | text e h1 h2 h3 h4 h5 h6 h7 h8 h9 =>
    subst e
    exact .text rfl (h1.kp k (hd _ (by simp)) (hd _ (by simp)) (hd _ (by simp))) (k.at h2 (hd _ (by simp))) h3 h4 h5 h6 h7 h8 h9
theorem Line.lt {σ : Nat} {mh : MH} {i : Nat} {own : List Nat} {rem : List B} (h : Line σ mh i own rem) : ∀ x ∈ own, x < mh.length := by
  obtain ⟨dd, t, pb, rfl, h1, h2, _⟩ := h.ex
  obtain ⟨l1, l2, l3⟩ := h1.lt
  intro x hx
  simp only [List.mem_cons, List.not_mem_nil, or_false] at hx
  rcases hx with rfl | rfl | rfl | rfl
  · exact l1
  · exact l2
  · exact l3
  · exact mh_lt h2
theorem Src.lt {σ : Nat} {mh : MH} {i : Nat} {own : List Nat} {rem : List B} (h : Src σ mh i own rem) : ∀ x ∈ own, x < mh.length := by
  cases h with
  | line h => exact h.lt
  | text e h1 h2 h3 h4 h5 h6 h7 h8 h9 =>
    subst e
    obtain ⟨l1, l2, l3⟩ := h1.lt
    intro x hx
    simp only [List.mem_cons, List.not_mem_nil, or_false] at hx
    rcases hx with rfl | rfl | rfl | rfl
    · exact l1
    · exact l2
    · exact l3
    · exact mh_lt h2
theorem Src.at_i {σ : Nat} {mh : MH} {i : Nat} {own : List Nat} {rem : List B} (h : Src σ mh i own rem) : ∃ dd t pb T p L, LexAt 143 mh i dd t pb T p L := by
  cases h with
  | line h => obtain ⟨dd, t, pb, _, h1, _⟩ := h.ex; exact ⟨dd, t, pb, _, _, _, h1⟩
  | text e h1 _ _ _ _ _ _ _ _ => exact ⟨_, _, _, _, _, _, h1⟩
noncomputable def tokB (σ : Nat) : List B → MV
  | [] => .str (txt [])
  | b :: _ => wdM σ b
theorem set_ne4 {mh : MH} {pb : Nat} {o : MO} {i dd t p : Nat} {T : Str} {L : Int} (h : LexAt 143 mh i dd t pb T p L) (h1 : pb ≠ i) (h2 : pb ≠ dd) (h3 : pb ≠ t) : LexAt 143 (mh.set pb o) i dd t pb T p L :=
  ⟨by rw [List.getElem?_set_ne h1]; exact h.inst, by rw [List.getElem?_set_ne h2]; exact h.attrs, by rw [List.getElem?_set_ne h3]; exact h.at_, h.i1, h.i2, h.i3⟩
theorem Src.get {σ : Nat} {mh : MH} {i : Nat} {own : List Nat} {rem : List B} (h : Src σ mh i own rem) (hl : rem.length < 1000) :
    ∃ mh', dFn [0] (F_get_token 143 126) [.ref i] mh = some (tokB σ rem, mh') ∧ Src σ mh' i own rem.tail ∧ Kp own mh mh' := by
  cases h with
  | line h =>
    obtain ⟨dd, t, pb, rfl, h1, h2, h3, h4, h5⟩ := h.ex
    cases rem with
    | nil =>
      obtain ⟨_, cs, e⟩ := get_token_ev (rc := 126) (l0 := []) (l := []) (tok := []) (l' := []) h1 (by decide) (by simp) (List.suffix_refl _) h2 .eof
      have hz : (1 : Int) + nls [] - nls [] = 1 := by lia
      rw [hz, show ([] : List Nat).length - ([] : List Nat).length = 0 from rfl, h1.same] at e
      refine ⟨_, e, .line ⟨dd, t, pb, rfl, h1.app _, ?_, h3, h4, h5⟩, Kp.app _ _ _⟩
      rw [List.getElem?_append_left (mh_lt h2)]; exact h2
    | cons b r =>
      have e := get_token_pb (rc := 126) h1 h2 (by rw [List.length_map]; have : r.length + 1 < 1000 := hl; lia)
      refine ⟨_, e, .line ⟨dd, t, pb, rfl, set_ne4 h1 h3 h4 h5, ?_, h3, h4, h5⟩, Kp.set (by simp)⟩
      rw [List.getElem?_set_self (mh_lt h2)]; rfl
  | @text dd t pb l0 l L e h1 h2 h3 h4 h5 h6 h7 h8 h9 =>
    subst e
    have fin : ∀ {tok l' : List Nat} {r' : List B}, LexT l tok l' → Tells σ l' r' → ∃ mh', dFn [0] (F_get_token 143 126) [.ref i] mh = some (.str (txt tok), mh') ∧ Src σ mh' i [i, dd, t, pb] r' ∧ Kp [i, dd, t, pb] mh mh' := fun {tok l' r'} hx ht => by
      obtain ⟨q, cs, e⟩ := get_token_ev (rc := 126) h1 h6 h7 h8 h2 hx
      refine ⟨_, e, .text rfl ((h1.set _ _).app _) ?_ h3 h4 h5 h6 h7 q ht, (Kp.lex (by simp) (by simp)).trans (Kp.app _ _ _)⟩
      rw [List.getElem?_append_left (by rw [lexSet_len]; exact mh_lt h2), lexSet_get h4 h5]
      exact h2
    cases h9 with
    | nil => exact fin .eof .nil
    | cons hb ht => exact fin (hb _) ht
theorem Line.push {σ : Nat} {mh : MH} {i : Nat} {own : List Nat} {out : List B} (h : Line σ mh i own out) (hl : out.length < 1000) (b : B) :
    ∃ mh', dFn [0, 8] (F_push_token 143) [.ref i, wdM σ b] mh = some (.none, mh') ∧ Line σ mh' i own (out ++ [b]) ∧ Kp own mh mh' := by
  obtain ⟨dd, t, pb, rfl, h1, h2, h3, h4, h5⟩ := h.ex
  have e := push_token_ev (v := wdM σ b) h1 h2 (by rw [List.length_map]; exact hl)
  refine ⟨_, e, ⟨dd, t, pb, rfl, set_ne4 h1 h3 h4 h5, ?_, h3, h4, h5⟩, Kp.set (by simp)⟩
  rw [List.getElem?_set_self (mh_lt h2), List.map_append]; rfl
noncomputable def lineH (mh : MH) : MH := mh ++ [.list [.int 0], .attrs (lexA (txt []) mh.length (mh.length + 3) 1), .inst 143 (mh.length + 1) none, .list []]
theorem lineH_line (σ : Nat) (mh : MH) : Line σ (lineH mh) (mh.length + 2) [mh.length + 2, mh.length + 1, mh.length, mh.length + 3] [] := by
  have g : ∀ k (o : MO), ([MO.list [.int 0], .attrs (lexA (txt []) mh.length (mh.length + 3) 1), .inst 143 (mh.length + 1) none, .list []] : MH)[k]? = some o → (lineH mh)[mh.length + k]? = some o := fun k o e => by
    unfold lineH
    rw [List.getElem?_append_right (Nat.le_add_right _ _), Nat.add_sub_cancel_left]
    exact e
  exact ⟨mh.length + 1, mh.length, mh.length + 3, rfl, ⟨g 2 _ rfl, g 1 _ rfl, g 0 _ rfl, by lia, by lia, by lia⟩, g 3 _ rfl, by lia, by lia, by lia⟩
theorem lineH_ev {me : ME} {mh : MH} : dCall (fLexer (fMakeP 143 (dFn [0, 6] (F_ninit 143)))) (dL1 (dC (.str "")) (dL1 (dLstM (dL1 (dC (.int 0)) dL0)) dL0)) me mh = some (.ref (mh.length + 2), lineH mh) := by
  have e1 : dLstM (dL1 (dC (.int 0)) dL0) me mh = some (.ref mh.length, mh ++ [.list [.int 0]]) := rfl
  have e2 := (call_ev (den := fLexer (fMakeP 143 (dFn [0, 6] (F_ninit 143)))) (l1 (c_ev (v := .str "") (me := me) (mh := mh)) (l1 e1 l0))).trans (lexer_ev (N := 143) (x := "") (t := mh.length) (mh := mh ++ [.list [.int 0]]))
  rw [e2, List.length_append, List.append_assoc, s_nil]
  rfl
end Mine

namespace Mine

noncomputable def mg (a b : B) : B := (a.1 + b.1, a.2 + b.2)
noncomputable def goR (cur : B) : List B → List B × Bool
  | [] => ([cur], false)
  | x :: r => if risesB cur x then (cur :: (goR x r).1, (goR x r).2) else ((goR (mg cur x) r).1, true)
theorem meth_pt {N : Addr} {mh mh1 : MH} {i dd t pb p : Nat} {T : Str} {L : Int} (h : LexAt N mh i dd t pb T p L) {y : Nat} {den : DF} {g : DL} {me : ME} {vals : List MV} (hy : me.lookup y = some (.ref i)) (hg : g me mh = some (vals, mh1)) :
    dMeth N "push_token" den (dVar y) g me mh = den (.ref i :: vals) mh1 := by
  simp only [dMeth, dVar, hy, h.inst, h.attrs, if_true, lexA_pt, hg]
noncomputable def dGT : D := (dMeth 143 "get_token" (dFn [0] (F_get_token 143 126)) (dVar 30) dL0)
noncomputable def dPT : D := (dMeth 143 "push_token" (dFn [0, 8] (F_push_token 143)) (dVar 31) (dL1 (dOp2 oAdd (dVar 26) (dVar 33)) dL0))
noncomputable def dEnd : DB := (dTru (dOp2 oEq (dVar 25) (dC (.str ""))))
noncomputable def dRi : DB := (dTru (dCall (dFn [23, 24] F_law_rises) (dL1 (dTup (dL1 (dVar 26) (dL1 (dVar 33) dL0))) (dL1 (dVar 34) dL0))))
noncomputable def bUp : DS := (dSeq (dExprN dPT) (dSeq (dAsgT (tgT [26, 33]) (dVar 34)) dNil))
noncomputable def bMg : DS := (dSeq (dAsgT (tgTR [26, 33, 32]) (dTup (dL1 (dOp2 oAdd (dVar 26) (dOp2 oItem (dVar 34) (dC (.int 0)))) (dL1 (dOp2 oAdd (dVar 33) (dOp2 oItem (dVar 34) (dC (.int 1)))) (dL1 (dC (.bool true)) dL0))))) dNil)
noncomputable def bRound : DS := (dSeq (dAsg 25 dGT) (dSeq (dIf dEnd (dSeq dBrk dNil) dNil) (dSeq (dAsg 34 (dCall (dFn [25] F_law_block) (dL1 (dVar 25) dL0))) (dSeq (dIf dRi bUp bMg) dNil))))
structure StR (σ s ln : Nat) (oS oL : List Nat) (mh0 : MH) (me : ME) (mh : MH) (out : List B) (cur : B) (sm : Bool) (rem : List B) : Prop where
  src : Src σ mh s oS rem
  line : Line σ mh ln oL out
  kp : Kp (oS ++ oL) mh0 mh
  v30 : me.lookup 30 = some (.ref s)
  v31 : me.lookup 31 = some (.ref ln)
  v32 : me.lookup 32 = some (.bool sm)
  v26 : me.lookup 26 = some (.str (txt (bk cur.1)))
  v33 : me.lookup 33 = some (.str (txt (mk σ cur.2)))
theorem word_ok {σ : Nat} (hσ : σ < 128) (b : B) : ∀ c ∈ bk b.1 ++ mk σ b.2, c < 128 := by
  intro c hc
  rcases List.mem_append.mp hc with h | h
  · rw [List.eq_of_mem_replicate h]; decide
  · rw [List.eq_of_mem_replicate h]; exact hσ
theorem end_ev {σ : Nat} (hσ : σ < 128) {rem : List B} (hb : ∀ b ∈ rem, 1 ≤ b.1) {me : ME} {mh : MH} (h25 : me.lookup 25 = some (tokB σ rem)) : dEnd me mh = some (rem.isEmpty, mh) := by
  have e3 := op2_ev (o := oEq) (me_dVar (mh := mh) h25) (c_ev (v := .str "") (me := me) (mh := mh))
  rw [s_nil] at e3
  refine tru_bool (e3.trans ?_)
  cases rem with
  | nil => exact (Good.eq (k := 0) (k' := 0) (.str (l := []) (by simp)) (.str (l := []) (by simp))).trans (by rw [eqv_str]; rfl)
  | cons b r =>
    refine (Good.eq (k := 0) (k' := 0) (.str (word_ok hσ b)) (.str (l := []) (by simp))).trans ?_
    rw [eqv_str]
    have h1 := hb b (List.mem_cons_self ..)
    have : (bk b.1 ++ mk σ b.2 == []) = false := by
      have hne : bk b.1 ++ mk σ b.2 ≠ [] := fun e => by
        have := congrArg List.length e
        rw [List.length_append, bk_len] at this
        simp at this
        lia
      simpa using hne
    rw [this]
    rfl
section
variable {σ s ln : Nat} {oS oL : List Nat} {mh0 : MH} (hσ : σ < 128) (h32 : σ ≠ 32) (hd : ∀ x ∈ oS, x ∉ oL)
include hσ h32 hd
theorem get_R {me : ME} {mh : MH} {out : List B} {cur : B} {sm : Bool} {rem : List B} (S : StR σ s ln oS oL mh0 me mh out cur sm rem) (hr : rem.length ≤ 100) (j : Int) :
    ∃ mh2, dGT (upd me 28 (.int j)) mh = some (tokB σ rem, mh2) ∧ StR σ s ln oS oL mh0 (upd (upd me 28 (.int j)) 25 (tokB σ rem)) mh2 out cur sm rem.tail := by
  obtain ⟨mh2, e, s2, k2⟩ := S.src.get (by lia)
  obtain ⟨dd, t, pb, T, p, L, la⟩ := S.src.at_i
  refine ⟨mh2, (meth_gt (rc := 126) la ((lk_ne (by decide)).trans S.v30)).trans e, s2, S.line.kp k2 (fun x hx hm => hd x hm hx), S.kp.trans (k2.mono fun k hk => List.mem_append_left _ hk), ?_, ?_, ?_, ?_, ?_⟩
  · rw [lk_ne (by decide), lk_ne (by decide)]; exact S.v30
  · rw [lk_ne (by decide), lk_ne (by decide)]; exact S.v31
  · rw [lk_ne (by decide), lk_ne (by decide)]; exact S.v32
  · rw [lk_ne (by decide), lk_ne (by decide)]; exact S.v26
  · rw [lk_ne (by decide), lk_ne (by decide)]; exact S.v33
theorem turn_end {me : ME} {mh : MH} {out : List B} {cur : B} {sm : Bool} (S : StR σ s ln oS oL mh0 me mh out cur sm []) (j : Int) :
    ∃ me2 mh2, bRound (upd me 28 (.int j)) mh = some (.brk, me2, mh2) ∧ StR σ s ln oS oL mh0 me2 mh2 out cur sm [] := by
  obtain ⟨mh2, e, S2⟩ := get_R hσ h32 hd S (by simp) j
  have c := end_ev hσ (rem := []) (by simp) (me := upd (upd me 28 (.int j)) 25 (tokB σ [])) (mh := mh2) lk_self
  have p4 : dIf dEnd (dSeq dBrk dNil) dNil (upd (upd me 28 (.int j)) 25 (tokB σ [])) mh2 = some (.brk, upd (upd me 28 (.int j)) 25 (tokB σ []), mh2) := by
    rw [if_ev c]; rfl
  refine ⟨_, mh2, ?_, S2⟩
  unfold bRound
  rw [seq_asg e]
  simp only [dSeq] at p4 ⊢
  simp only [p4]
theorem turn_go {me : ME} {mh : MH} {out : List B} {cur x : B} {sm : Bool} {r : List B} (S : StR σ s ln oS oL mh0 me mh out cur sm (x :: r)) (hb : ∀ b ∈ x :: r, 1 ≤ b.1) (ht : tot (cur :: x :: r) ≤ 100) (hl : out.length + r.length ≤ 90) (j : Int) :
    ∃ me2 mh2, bRound (upd me 28 (.int j)) mh = some (.next, me2, mh2) ∧ (if risesB cur x then StR σ s ln oS oL mh0 me2 mh2 (out ++ [cur]) x sm r else StR σ s ln oS oL mh0 me2 mh2 out (mg cur x) true r) := by
  have tc := Nat.le_trans (tot_mem (r := cur :: x :: r) (b := cur) (by simp)) ht
  have tx := Nat.le_trans (tot_mem (r := cur :: x :: r) (b := x) (by simp)) ht
  obtain ⟨mh2, e, S2⟩ := get_R hσ h32 hd S (by show r.length + 1 ≤ 100; lia) j
  have c := end_ev hσ hb (me := upd (upd me 28 (.int j)) 25 (tokB σ (x :: r))) (mh := mh2) lk_self
  have p4 : dIf dEnd (dSeq dBrk dNil) dNil (upd (upd me 28 (.int j)) 25 (tokB σ (x :: r))) mh2 = some (.next, upd (upd me 28 (.int j)) 25 (tokB σ (x :: r)), mh2) := by
    rw [if_ev c]; rfl
  have e2 : dCall (dFn [25] F_law_block) (dL1 (dVar 25) dL0) (upd (upd me 28 (.int j)) 25 (tokB σ (x :: r))) mh2 = some (blM σ x, mh2) :=
    (call_ev (l1 (me_dVar lk_self) l0)).trans (block_ev h32 (by lia) (by lia) mh2)
  generalize hm : upd (upd (upd me 28 (.int j)) 25 (tokB σ (x :: r))) 34 (blM σ x) = me3
  have k30 : me3.lookup 30 = some (.ref s) := by rw [← hm, lk_ne (by decide)]; exact S2.v30
  have k31 : me3.lookup 31 = some (.ref ln) := by rw [← hm, lk_ne (by decide)]; exact S2.v31
  have k32 : me3.lookup 32 = some (.bool sm) := by rw [← hm, lk_ne (by decide)]; exact S2.v32
  have k26 : me3.lookup 26 = some (.str (txt (bk cur.1))) := by rw [← hm, lk_ne (by decide)]; exact S2.v26
  have k33 : me3.lookup 33 = some (.str (txt (mk σ cur.2))) := by rw [← hm, lk_ne (by decide)]; exact S2.v33
  have k34 : ∀ mh, dVar 34 me3 mh = some (blM σ x, mh) := fun mh => me_dVar (by rw [← hm]; exact lk_self)
  have q1 := tup_ev (l1 (me_dVar (mh := mh2) k26) (l1 (me_dVar (mh := mh2) k33) l0)) (by show 2 ≤ 1000; decide)
  have e3 : dRi me3 mh2 = some (risesB cur x, mh2) := tru_bool ((call_ev (l1 q1 (l1 (k34 mh2) l0))).trans (rises_ev (σ := σ) (x := cur) (y := x) (by lia) (by lia) (by lia) (by lia) mh2))
  have go : ∀ {me4 : ME} {mh4 : MH}, (if risesB cur x then bUp else bMg) me3 mh2 = some (.next, me4, mh4) → bRound (upd me 28 (.int j)) mh = some (.next, me4, mh4) := fun {me4 mh4} h => by
    unfold bRound
    rw [seq_asg e, seq_next p4, seq_asg e2, hm]
    have : dIf dRi bUp bMg me3 mh2 = some (.next, me4, mh4) := by
      rw [if_ev e3]
      cases hq : risesB cur x with
      | true => rw [hq] at h; exact h
      | false => rw [hq] at h; exact h
    exact (seq_next this).trans rfl
  cases hq : risesB cur x with
  | true =>
    obtain ⟨mh3, e5, l5, k5⟩ := S2.line.push (by lia) cur
    obtain ⟨dd, t, pb, _, la, _⟩ := S2.line.ex
    have a1 : dOp2 oAdd (dVar 26) (dVar 33) me3 mh2 = some (wdM σ cur, mh2) := by
      refine (op2_ev (me_dVar k26) (me_dVar k33)).trans ?_
      rw [oAdd_str (by rw [bk_len, mk_len]; lia)]
      rfl
    have a2 := (meth_pt (den := dFn [0, 8] (F_push_token 143)) la k31 (l1 a1 l0)).trans e5
    have a3 : dExprN dPT me3 mh2 = some (.next, me3, mh3) := by
      unfold dPT
      simp only [dExprN, a2]
    have a4 : dAsgT (tgT [26, 33]) (dVar 34) me3 mh3 = some (.next, upd (upd me3 26 (.str (txt (bk x.1)))) 33 (.str (txt (mk σ x.2))), mh3) := by
      simp only [dAsgT, k34]
      rfl
    refine ⟨_, mh3, go (by rw [hq]; exact (seq_next a3).trans ((seq_next a4).trans rfl)), ?_⟩
    rw [if_pos rfl]
    refine ⟨S2.src.kp k5 hd, l5, S2.kp.trans (k5.mono fun k hk => List.mem_append_right _ hk), ?_, ?_, ?_, ?_, lk_self⟩
    · rw [lk_ne (by decide), lk_ne (by decide)]; exact k30
    · rw [lk_ne (by decide), lk_ne (by decide)]; exact k31
    · rw [lk_ne (by decide), lk_ne (by decide)]; exact k32
    · rw [lk_ne (by decide)]; exact lk_self
  | false =>
    have s1 : dOp2 oAdd (dVar 26) (dOp2 oItem (dVar 34) (dC (.int 0))) me3 mh2 = some (.str (txt (bk (mg cur x).1)), mh2) := by
      refine (op2_ev (me_dVar k26) (bl_0 (k34 mh2))).trans ?_
      rw [oAdd_str (by rw [bk_len, bk_len]; lia), bk_app]
      rfl
    have s2 : dOp2 oAdd (dVar 33) (dOp2 oItem (dVar 34) (dC (.int 1))) me3 mh2 = some (.str (txt (mk σ (mg cur x).2)), mh2) := by
      refine (op2_ev (me_dVar k33) (bl_1 (k34 mh2))).trans ?_
      rw [oAdd_str (by rw [mk_len, mk_len]; lia), mk_app]
      rfl
    have s3 := tup_ev (l1 s1 (l1 s2 (l1 (c_ev (v := .bool true)) l0))) (by show 3 ≤ 1000; decide)
    have a4 : dAsgT (tgTR [26, 33, 32]) (dTup (dL1 (dOp2 oAdd (dVar 26) (dOp2 oItem (dVar 34) (dC (.int 0)))) (dL1 (dOp2 oAdd (dVar 33) (dOp2 oItem (dVar 34) (dC (.int 1)))) (dL1 (dC (.bool true)) dL0)))) me3 mh2 = some (.next, upd (upd (upd me3 32 (.bool true)) 33 (.str (txt (mk σ (mg cur x).2)))) 26 (.str (txt (bk (mg cur x).1))), mh2) := by
      simp only [dAsgT, s3]
      rfl
    refine ⟨_, mh2, go (by rw [hq]; exact (seq_next a4).trans rfl), ?_⟩
    rw [if_neg Bool.false_ne_true]
    refine ⟨S2.src, S2.line, S2.kp, ?_, ?_, ?_, lk_self, ?_⟩
    · rw [lk_ne (by decide), lk_ne (by decide), lk_ne (by decide)]; exact k30
    · rw [lk_ne (by decide), lk_ne (by decide), lk_ne (by decide)]; exact k31
    · rw [lk_ne (by decide), lk_ne (by decide)]; exact lk_self
    · rw [lk_ne (by decide)]; exact lk_self
theorem round_loop : ∀ (n j : Nat) (me : ME) (mh : MH) (out : List B) (cur : B) (sm : Bool) (rem : List B), 6 - j < n → j ≤ 6 → rem.length + 1 ≤ 6 - j → (∀ b ∈ rem, 1 ≤ b.1) → tot (cur :: rem) ≤ 100 → out.length + rem.length ≤ 50 → StR σ s ln oS oL mh0 me mh out cur sm rem →
    ∃ me' mh' out' cur' sm', dForLoop (tgV 28) bRound (.rng 0 6) n j me mh = some (.next, me', mh') ∧ StR σ s ln oS oL mh0 me' mh' out' cur' sm' [] ∧ out' ++ [cur'] = out ++ (goR cur rem).1 ∧ sm' = (sm || (goR cur rem).2) ∧ tot [cur'] ≤ 100 ∧ out'.length ≤ 50 := by
  intro n
  induction n with
  | zero => intro j me mh out cur sm rem h; exact absurd h (Nat.not_lt_zero _)
  | succ n ih =>
    intro j me mh out cur sm rem hn hj hr hb ht hl S
    have hj6 : j < 6 := by lia
    cases rem with
    | nil =>
      obtain ⟨me2, mh2, e, S2⟩ := turn_end hσ h32 hd S (j : Int)
      exact ⟨me2, mh2, out, cur, sm, loop_brk (rng_in hj6) rfl e, S2, rfl, by simp [goR], ht, by simpa using hl⟩
    | cons x r =>
      have hr' : r.length + 2 ≤ 6 - j := hr
      have hl' : out.length + (r.length + 1) ≤ 50 := hl
      obtain ⟨me2, mh2, e, S2⟩ := turn_go hσ h32 hd S hb ht (by lia) (j : Int)
      have hb' : ∀ b ∈ r, 1 ≤ b.1 := fun b hm => hb b (List.mem_cons_of_mem _ hm)
      cases hq : risesB cur x with
      | true =>
        rw [hq, if_pos rfl] at S2
        have ht' : tot (x :: r) ≤ 100 := by
          have : tot (cur :: x :: r) = (cur.1 + cur.2) + tot (x :: r) := by simp [tot]
          lia
        obtain ⟨me', mh', out', cur', sm', e2, S3, h1, h2, h3, h4⟩ := ih (j + 1) me2 mh2 (out ++ [cur]) x sm r (lt_less hn hj6) hj6 (by lia) hb' ht' (by rw [List.length_append]; show out.length + 1 + r.length ≤ 50; lia) S2
        refine ⟨me', mh', out', cur', sm', (loop_step (rng_in hj6) rfl e).trans e2, S3, ?_, ?_, h3, h4⟩
        · rw [h1]; simp only [goR, hq, if_true, List.append_assoc]; rfl
        · rw [h2]; simp only [goR, hq, if_true]
      | false =>
        rw [hq, if_neg Bool.false_ne_true] at S2
        have ht' : tot (mg cur x :: r) ≤ 100 := by
          have : tot (mg cur x :: r) = tot (x :: cur :: r) := tot_merge cur x r
          rw [this]
          have h1 : tot (x :: cur :: r) = (x.1 + x.2) + ((cur.1 + cur.2) + tot r) := by simp [tot]
          have h2 : tot (cur :: x :: r) = (cur.1 + cur.2) + ((x.1 + x.2) + tot r) := by simp [tot]
          lia
        obtain ⟨me', mh', out', cur', sm', e2, S3, h1, h2, h3, h4⟩ := ih (j + 1) me2 mh2 out (mg cur x) true r (lt_less hn hj6) hj6 (by lia) hb' ht' (by lia) S2
        refine ⟨me', mh', out', cur', sm', (loop_step (rng_in hj6) rfl e).trans e2, S3, ?_, ?_, h3, h4⟩
        · rw [h1]; simp only [goR, hq, Bool.false_eq_true, if_false]
        · rw [h2]; simp only [goR, hq, Bool.false_eq_true, if_false, Bool.true_or, Bool.or_true]
end
end Mine

namespace Mine

theorem goR_len (r : List B) : ∀ cur : B, (goR cur r).1.length ≤ r.length + 1 := by
  induction r with
  | nil => intro cur; exact Nat.le_refl _
  | cons x r ih =>
    intro cur
    unfold goR
    split
    · exact Nat.succ_le_succ (ih x)
    · exact Nat.le_succ_of_le (ih _)
theorem goR_ne (r : List B) : ∀ cur : B, (goR cur r).1 ≠ [] := by
  induction r with
  | nil => intro cur h; cases h
  | cons x r ih =>
    intro cur
    unfold goR
    split
    · intro h; cases h
    · exact ih _
theorem tot_cons (x : B) (r : List B) : tot (x :: r) = (x.1 + x.2) + tot r := by simp [tot]
theorem goR_tot (r : List B) : ∀ cur : B, tot (goR cur r).1 = tot (cur :: r) := by
  induction r with
  | nil => intro cur; rfl
  | cons x r ih =>
    intro cur
    unfold goR
    split
    · rw [tot_cons, ih x, tot_cons cur]
    · rw [ih, tot_cons, tot_cons, tot_cons]; simp only [mg]; lia
theorem goR_pos (r : List B) : ∀ cur : B, 1 ≤ cur.1 → (∀ b ∈ r, 1 ≤ b.1) → ∀ b ∈ (goR cur r).1, 1 ≤ b.1 := by
  induction r with
  | nil => intro cur hc _ b hb; rw [List.mem_singleton.mp hb]; exact hc
  | cons x r ih =>
    intro cur hc hr b hb
    have hx := hr x (List.mem_cons_self ..)
    have hr' : ∀ b ∈ r, 1 ≤ b.1 := fun b h => hr b (List.mem_cons_of_mem _ h)
    unfold goR at hb
    split at hb
    · rcases List.mem_cons.mp hb with rfl | hb
      · exact hc
      · exact ih x hx hr' b hb
    · exact ih _ (Nat.le_trans hc (Nat.le_add_right _ _)) hr' b hb
structure OkB (r : List B) : Prop where
  ne : r ≠ []
  len : r.length ≤ 6
  tot : tot r ≤ 100
  pos : ∀ b ∈ r, 1 ≤ b.1
noncomputable def rnd : List B → List B × Bool
  | [] => ([], false)
  | b :: r => goR b r
theorem OkB.rnd {r : List B} (h : OkB r) : OkB (rnd r).1 := by
  cases r with
  | nil => exact absurd rfl h.ne
  | cons b r =>
    exact ⟨goR_ne r b, Nat.le_trans (goR_len r b) h.len, by show Mine.tot (goR b r).1 ≤ 100; rw [goR_tot]; exact h.tot, goR_pos r b (h.pos b (List.mem_cons_self ..)) fun x hx => h.pos x (List.mem_cons_of_mem _ hx)⟩
section
variable {σ : Nat} (hσ : σ < 128) (h32 : σ ≠ 32)
include hσ h32
theorem round_ev {s : Nat} {oS : List Nat} {mh : MH} {bs : List B} (S : Src σ mh s oS bs) (O : OkB bs) :
    ∃ mh' ln oL, dFn [30] F_law_round [.ref s] mh = some (.tup [.ref ln, .bool (rnd bs).2], mh') ∧ Line σ mh' ln oL (rnd bs).1 ∧ Kp oS mh mh' ∧ ∀ x ∈ oL, mh.length ≤ x := by
  cases bs with
  | nil => exact absurd rfl O.ne
  | cons b r =>
    have hlr : r.length + 1 ≤ 6 := O.len
    have ht := O.tot
    have tb := Nat.le_trans (tot_mem (r := b :: r) (b := b) (by simp)) ht
    have L0 := lineH_line σ mh
    have S0 : Src σ (lineH mh) s oS (b :: r) := S.kp (Kp.app [] mh _) (fun _ _ h => by cases h)
    generalize hoL : [mh.length + 2, mh.length + 1, mh.length, mh.length + 3] = oL at L0
    have hge : ∀ x ∈ oL, mh.length ≤ x := fun x hx => by
      rw [← hoL] at hx
      simp only [List.mem_cons, List.not_mem_nil, or_false] at hx
      lia
    have hd : ∀ x ∈ oS, x ∉ oL := fun x hx hm => Nat.lt_irrefl _ (Nat.lt_of_lt_of_le (S.lt x hx) (hge x hm))
    obtain ⟨mh2, e2, S2, k2⟩ := S0.get (by show r.length + 1 < 1000; lia)
    obtain ⟨dd, t, pb, T, p, L, la⟩ := S0.at_i
    have L2 := L0.kp k2 (fun x hx hm => hd x hm hx)
    have a1 : dAsgT (tgTR [31, 32]) (dTup (dL1 (dCall (fLexer (fMakeP 143 (dFn [0, 6] (F_ninit 143)))) (dL1 (dC (.str "")) (dL1 (dLstM (dL1 (dC (.int 0)) dL0)) dL0))) (dL1 (dC (.bool false)) dL0))) [(30, .ref s)] mh = some (.next, [(30, .ref s), (32, .bool false), (31, .ref (mh.length + 2))], lineH mh) := by
      have b3 := tup_ev (l1 (lineH_ev (me := [(30, .ref s)]) (mh := mh)) (l1 (c_ev (v := .bool false)) l0)) (by show 2 ≤ 1000; decide)
      simp only [dAsgT, b3]
      rfl
    have a2 : dAsgT (tgT [26, 33]) (dCall (dFn [25] F_law_block) (dL1 dGT dL0)) [(30, .ref s), (32, .bool false), (31, .ref (mh.length + 2))] (lineH mh) = some (.next, [(30, .ref s), (32, .bool false), (31, .ref (mh.length + 2)), (26, .str (txt (bk b.1))), (33, .str (txt (mk σ b.2)))], mh2) := by
      have b1 := (meth_gt (rc := 126) la (me := [(30, .ref s), (32, .bool false), (31, .ref (mh.length + 2))]) (y := 30) rfl).trans e2
      have b2 := (call_ev (den := dFn [25] F_law_block) (l1 b1 l0)).trans (block_ev h32 (by lia) (by lia) mh2)
      simp only [dAsgT]
      unfold dGT
      rw [b2]
      rfl
    have St : StR σ s (mh.length + 2) oS oL (lineH mh) [(30, .ref s), (32, .bool false), (31, .ref (mh.length + 2)), (26, .str (txt (bk b.1))), (33, .str (txt (mk σ b.2)))] mh2 [] b false r :=
      ⟨S2, L2, k2.mono fun k hk => List.mem_append_left _ hk, rfl, rfl, rfl, rfl, rfl⟩
    obtain ⟨me', mh', out', cur', sm', e3, S3, h1, h2, h3, h4⟩ := round_loop hσ h32 hd 100 0 _ mh2 [] b false r (by decide) (by decide) (by lia) (fun x hx => O.pos x (List.mem_cons_of_mem _ hx)) ht (by show 0 + r.length ≤ 50; lia) St
    have tc := Nat.le_trans (tot_mem (r := [cur']) (b := cur') (by simp)) h3
    obtain ⟨mh3, e5, l5, k5⟩ := S3.line.push (by lia) cur'
    obtain ⟨dd2, t2, pb2, _, la2, _⟩ := S3.line.ex
    have q1 : dOp2 oAdd (dVar 26) (dVar 33) me' mh' = some (wdM σ cur', mh') := by
      refine (op2_ev (me_dVar S3.v26) (me_dVar S3.v33)).trans ?_
      rw [oAdd_str (by rw [bk_len, mk_len]; lia)]
      rfl
    have q2 := (meth_pt (den := dFn [0, 8] (F_push_token 143)) la2 S3.v31 (l1 q1 l0)).trans e5
    have a4 : dExprN dPT me' mh' = some (.next, me', mh3) := by
      unfold dPT
      simp only [dExprN, q2]
    have a5 := tup_ev (l1 (me_dVar (mh := mh3) S3.v31) (l1 (me_dVar (mh := mh3) S3.v32) l0)) (by show 2 ≤ 1000; decide)
    have e0 : F_law_round [(30, .ref s)] mh = some (.ret (.tup [.ref (mh.length + 2), .bool sm']), me', mh3) :=
      (seq_next a1).trans ((seq_next a2).trans ((seq_next ((for_rng (a := 0) (b := 6) rfl (by decide)).trans e3)).trans ((seq_next a4).trans (seq_ret a5))))
    have hsm : sm' = (rnd (b :: r)).2 := by rw [h2]; show (false || (goR b r).2) = (goR b r).2; rw [Bool.false_or]
    have hout : out' ++ [cur'] = (rnd (b :: r)).1 := h1
    rw [hout] at l5
    rw [hsm] at e0
    refine ⟨mh3, mh.length + 2, oL, ?_, l5, ?_, hge⟩
    · simp only [dFn, List.length_cons, List.length_nil, if_true, zipE, e0]
    · have kk := S3.kp.trans (k5.mono fun k hk => List.mem_append_right _ hk)
      have hlen : mh.length ≤ (lineH mh).length := (Kp.app [] mh _).len
      refine ⟨Nat.le_trans hlen kk.len, fun k hk ho => ?_⟩
      have h5 : k ∉ oS ++ oL := fun hm => (List.mem_append.mp hm).elim ho fun h => Nat.lt_irrefl _ (Nat.lt_of_lt_of_le hk (hge k h))
      rw [kk.get k (Nat.lt_of_lt_of_le hk hlen) h5]
      exact (Kp.app [] mh _).get k hk (fun h => by cases h)
noncomputable def itR : Nat → List B × Bool → List B × Bool
  | 0, s => s
  | n + 1, s => if s.2 then itR n (rnd s.1) else s
noncomputable def bTurn : DS := (dSeq (dIf (dTru (dVar 32)) (dSeq (dAsgT (tgT [31, 32]) (dCall (dFn [30] F_law_round) (dL1 (dVar 31) dL0))) dNil) dNil) dNil)
structure StT (σ b0 : Nat) (mh0 : MH) (me0 me : ME) (mh : MH) (st : List B × Bool) : Prop where
  line : ∃ ln oL, Line σ mh ln oL st.1 ∧ me.lookup 31 = some (.ref ln) ∧ ∀ x ∈ oL, b0 ≤ x
  ok : OkB st.1
  kp : ∃ own, Kp own mh0 mh ∧ ∀ x ∈ own, b0 ≤ x
  v32 : me.lookup 32 = some (.bool st.2)
  sees : Sees [28, 31, 32] me0 me
omit hσ h32 in
theorem itR_stop {n : Nat} {st : List B × Bool} (h : st.2 = false) : itR n st = st := by
  cases n with
  | zero => rfl
  | succ n => unfold itR; rw [h]; rfl
theorem turns {b0 : Nat} {mh0 : MH} {me0 : ME} (h0 : b0 ≤ mh0.length) : ∀ (n j : Nat) (me : ME) (mh : MH) (st : List B × Bool), 6 - j < n → j ≤ 6 → StT σ b0 mh0 me0 me mh st →
    ∃ me' mh', dForLoop (tgV 28) bTurn (.rng 0 6) n j me mh = some (.next, me', mh') ∧ StT σ b0 mh0 me0 me' mh' (itR (6 - j) st) := by
  intro n
  induction n with
  | zero => intro j me mh st h; exact absurd h (Nat.not_lt_zero _)
  | succ n ih =>
    intro j me mh st hn hj S
    by_cases hj6 : j < 6
    · have hk : 6 - j = (6 - (j + 1)) + 1 := (Nat.succ_pred_eq_of_pos (Nat.sub_pos_of_lt hj6)).symm
      have c : dTru (dVar 32) (upd me 28 (.int (j : Int))) mh = some (st.2, mh) := tru_bool (me_dVar ((lk_ne (by decide)).trans S.v32))
      cases hs : st.2 with
      | false =>
        rw [hs] at c
        have hb : bTurn (upd me 28 (.int (j : Int))) mh = some (.next, upd me 28 (.int (j : Int)), mh) := (seq_next ((if_ev c).trans rfl)).trans rfl
        obtain ⟨ln, oL, l1', l2', l3'⟩ := S.line
        obtain ⟨me', mh', e, S'⟩ := ih (j + 1) (upd me 28 (.int (j : Int))) mh st (lt_less hn hj6) hj6 ⟨⟨ln, oL, l1', (lk_ne (by decide)).trans l2', l3'⟩, S.ok, S.kp, (lk_ne (by decide)).trans S.v32, S.sees.upd (by simp)⟩
        refine ⟨me', mh', (loop_step (rng_in hj6) rfl hb).trans e, ?_⟩
        rw [itR_stop hs] at S' ⊢
        exact S'
      | true =>
        rw [hs] at c
        obtain ⟨ln, oL, l1', l2', l3'⟩ := S.line
        obtain ⟨own, ko, kb⟩ := S.kp
        obtain ⟨mh2, ln2, oL2, e2, ll2, kk2, hge⟩ := round_ev hσ h32 (.line l1') S.ok
        have hmh : mh0.length ≤ mh.length := ko.len
        have a1 : dAsgT (tgT [31, 32]) (dCall (dFn [30] F_law_round) (dL1 (dVar 31) dL0)) (upd me 28 (.int (j : Int))) mh = some (.next, upd (upd (upd me 28 (.int (j : Int))) 31 (.ref ln2)) 32 (.bool (rnd st.1).2), mh2) := by
          have b1 := (call_ev (den := dFn [30] F_law_round) (l1 (me_dVar (mh := mh) ((lk_ne (x := 28) (v := .int (j : Int)) (by decide)).trans l2')) l0)).trans e2
          simp only [dAsgT, b1]
          rfl
        have hb : bTurn (upd me 28 (.int (j : Int))) mh = some (.next, upd (upd (upd me 28 (.int (j : Int))) 31 (.ref ln2)) 32 (.bool (rnd st.1).2), mh2) := by
          have : dIf (dTru (dVar 32)) (dSeq (dAsgT (tgT [31, 32]) (dCall (dFn [30] F_law_round) (dL1 (dVar 31) dL0))) dNil) dNil (upd me 28 (.int (j : Int))) mh = some (.next, upd (upd (upd me 28 (.int (j : Int))) 31 (.ref ln2)) 32 (.bool (rnd st.1).2), mh2) := by
            rw [if_ev c, if_pos rfl]
            exact (seq_next a1).trans rfl
          exact (seq_next this).trans rfl
        have S2 : StT σ b0 mh0 me0 (upd (upd (upd me 28 (.int (j : Int))) 31 (.ref ln2)) 32 (.bool (rnd st.1).2)) mh2 (rnd st.1) :=
          ⟨⟨ln2, oL2, ll2, (lk_ne (by decide)).trans lk_self, fun x hx => Nat.le_trans h0 (Nat.le_trans hmh (hge x hx))⟩, S.ok.rnd, ⟨own ++ oL, (ko.mono fun k hk => List.mem_append_left _ hk).trans (kk2.mono fun k hk => List.mem_append_right _ hk), fun x hx => (List.mem_append.mp hx).elim (kb x) (l3' x)⟩, lk_self, ((S.sees.upd (by simp)).upd (by simp)).upd (by simp)⟩
        obtain ⟨me', mh', e, S'⟩ := ih (j + 1) _ mh2 (rnd st.1) (lt_less hn hj6) hj6 S2
        refine ⟨me', mh', (loop_step (rng_in hj6) rfl hb).trans e, ?_⟩
        rw [hk]
        unfold itR
        rw [hs, if_pos rfl]
        exact S'
    · have : j = 6 := Nat.le_antisymm hj (Nat.not_lt.mp hj6)
      subst this
      exact ⟨me, mh, loop_end (rng_out hj6), S⟩
end
end Mine

namespace Mine

noncomputable def pM (p : B) : MV := .tup [.int (p.1 : Int), .int (p.2 : Int)]
noncomputable def lessT (p q : B) : Bool := Nat.blt (p.1 * q.2) (q.1 * p.2)
noncomputable def minF (least mean : B) : B := if lessT mean least then mean else least
noncomputable def maxF (most least : B) : B := if lessT most least then least else most
noncomputable def seg (vs : List Nat) (j k1 : Nat) : B := (((vs.drop j).take (k1 - j)).sum, k1 - j)
noncomputable def leastN (vs : List Nat) (i j : Nat) : Nat → B
  | 0 => ((vs.drop j).sum, 6 - j)
  | t + 1 => minF (leastN vs i j t) (seg vs j (i + t + 1))
noncomputable def mostN (vs : List Nat) (i : Nat) : Nat → B
  | 0 => (0, 1)
  | j + 1 => maxF (mostN vs i j) (leastN vs i j (6 - i))
noncomputable def meansP (vs : List Nat) : List B := (List.range 6).map fun i => mostN vs i (i + 1)
noncomputable def Sm (p : B) : Prop := p.1 ≤ 100 ∧ p.2 ≤ 100
theorem sum_drop (vs : List Nat) (j : Nat) : (vs.drop j).sum ≤ vs.sum := by
  have h : (vs.take j ++ vs.drop j).sum = vs.sum := by rw [List.take_append_drop]
  rw [List.sum_append] at h
  lia
theorem sum_take (vs : List Nat) (j : Nat) : (vs.take j).sum ≤ vs.sum := by
  have h : (vs.take j ++ vs.drop j).sum = vs.sum := by rw [List.take_append_drop]
  rw [List.sum_append] at h
  lia
theorem seg_sm {vs : List Nat} (h : vs.sum ≤ 100) {j k1 : Nat} (hk : k1 ≤ 100) : Sm (seg vs j k1) :=
  ⟨Nat.le_trans (sum_take _ _) (Nat.le_trans (sum_drop _ _) h), Nat.le_trans (Nat.sub_le _ _) hk⟩
theorem minF_sm {p q : B} (hp : Sm p) (hq : Sm q) : Sm (minF p q) := by unfold minF; split <;> assumption
theorem maxF_sm {p q : B} (hp : Sm p) (hq : Sm q) : Sm (maxF p q) := by unfold maxF; split <;> assumption
theorem leastN_sm {vs : List Nat} (h : vs.sum ≤ 100) {i j : Nat} : ∀ t, i + t ≤ 50 → Sm (leastN vs i j t)
  | 0, _ => ⟨Nat.le_trans (sum_drop _ _) h, Nat.le_trans (Nat.sub_le _ _) (by decide)⟩
  | t + 1, ht => minF_sm (leastN_sm h t (by lia)) (seg_sm h (by lia))
theorem mostN_sm {vs : List Nat} (h : vs.sum ≤ 100) {i : Nat} (hi : i ≤ 6) : ∀ j, Sm (mostN vs i j)
  | 0 => ⟨Nat.zero_le _, by show 1 ≤ 100; decide⟩
  | j + 1 => maxF_sm (mostN_sm h hi j) (leastN_sm h _ (by omega))
theorem p_0 {p : B} {f : D} {me : ME} {mh mh1 : MH} (h : f me mh = some (pM p, mh1)) : dOp2 oItem f (dC (.int 0)) me mh = some (.int (p.1 : Int), mh1) := (op2_ev h c_ev).trans (item_tup (k := 0) rfl (by show 2 ≤ 1000; decide))
theorem p_1 {p : B} {f : D} {me : ME} {mh mh1 : MH} (h : f me mh = some (pM p, mh1)) : dOp2 oItem f (dC (.int 1)) me mh = some (.int (p.2 : Int), mh1) := (op2_ev h c_ev).trans (item_tup (k := 1) rfl (by show 2 ≤ 1000; decide))
noncomputable def dLess (x y : Nat) : DB := (dTru (dOp2 oLt (dOp2 oMul (dOp2 oItem (dVar x) (dC (.int 0))) (dOp2 oItem (dVar y) (dC (.int 1)))) (dOp2 oMul (dOp2 oItem (dVar y) (dC (.int 0))) (dOp2 oItem (dVar x) (dC (.int 1))))))
theorem less_ev {x y : Nat} {p q : B} (hp : Sm p) (hq : Sm q) {me : ME} {mh : MH} (hx : me.lookup x = some (pM p)) (hy : me.lookup y = some (pM q)) : dLess x y me mh = some (lessT p q, mh) := by
  have a := (op2_ev (o := oMul) (p_0 (me_dVar (mh := mh) hx)) (p_1 (me_dVar hy))).trans (mul_int (by have := hp.1; lia))
  have b := (op2_ev (o := oMul) (p_0 (me_dVar (mh := mh) hy)) (p_1 (me_dVar hx))).trans (mul_int (by have := hq.1; lia))
  exact tru_bool ((op2_ev (o := oLt) a b).trans lt_nat)
noncomputable def valM (vs : List Nat) : MV := .lst (vs.map fun v : Nat => MV.int (v : Int))
theorem sum_ints (l : List Nat) : ((l.map fun v : Nat => MV.int (v : Int)).map toI).sum = ((l.sum : Nat) : Int) := by
  induction l with
  | nil => rfl
  | cons x r ih =>
    simp only [List.map_cons, List.sum_cons, ih, Int.natCast_add]
    rfl
theorem all_ints (l : List Nat) : (l.map fun v : Nat => MV.int (v : Int)).all isI = true := by
  rw [List.all_eq_true]
  intro v hv
  obtain ⟨x, _, rfl⟩ := List.mem_map.mp hv
  rfl
theorem fSum_ev (l : List Nat) (mh : MH) : fSum [valM l] mh = some (.int ((l.sum : Nat) : Int), mh) := by
  simp only [fSum, valM, all_ints, if_true, sum_ints]
theorem pick_mid {vs : List MV} {j k : Nat} (hj : j ≤ vs.length) (hk : k ≤ vs.length) : pickL vs (some (j : Int)) (some (k : Int)) = (vs.drop j).take (k - j) := by
  have h1 : ¬ ((j : Int) < 0) := Int.not_lt.mpr (Int.natCast_nonneg j)
  have h2 : ¬ ((k : Int) < 0) := Int.not_lt.mpr (Int.natCast_nonneg k)
  simp only [pickL, sliceBounds, Option.getD_none, show (1 : Int) > 0 by decide, if_true, h1, h2, if_false, mm_id hj, mm_id hk]
  rw [sliceRange_one, List.filterMap_map, show ((vs[·]?) ∘ (j + ·)) = fun t => (vs.drop j)[t]? by funext t; simp, filterMap_range]
theorem sl_drop {vs : List Nat} {j : Nat} (hj : j ≤ vs.length) (hl : vs.length ≤ 100) {f g : D} {me : ME} {mh : MH} (hf : f me mh = some (valM vs, mh)) (hg : g me mh = some (.int (j : Int), mh)) : dSliceL f (some g) none me mh = some (valM (vs.drop j), mh) := by
  have h : (vs.map fun v : Nat => MV.int (v : Int)).length ≤ 100000 := by rw [List.length_map]; lia
  have e := pick_drop (vs := vs.map fun v : Nat => MV.int (v : Int)) (c := j) (by rw [List.length_map]; exact hj)
  unfold valM at hf ⊢
  simp only [dSliceL, hf, dPart, hg, if_pos h]
  rw [e, List.map_drop]
theorem sl_mid {vs : List Nat} {j k : Nat} (hj : j ≤ vs.length) (hk : k ≤ vs.length) (hl : vs.length ≤ 100) {f g g2 : D} {me : ME} {mh : MH} (hf : f me mh = some (valM vs, mh)) (hg : g me mh = some (.int (j : Int), mh)) (hg2 : g2 me mh = some (.int (k : Int), mh)) :
    dSliceL f (some g) (some g2) me mh = some (valM ((vs.drop j).take (k - j)), mh) := by
  have h : (vs.map fun v : Nat => MV.int (v : Int)).length ≤ 100000 := by rw [List.length_map]; lia
  have e := pick_mid (vs := vs.map fun v : Nat => MV.int (v : Int)) (j := j) (k := k) (by rw [List.length_map]; exact hj) (by rw [List.length_map]; exact hk)
  unfold valM at hf ⊢
  simp only [dSliceL, hf, dPart, hg, hg2, if_pos h]
  rw [e, List.map_take, List.map_drop]
theorem nx_rng2 {a n : Nat} {mh : MH} (j : Nat) : nextOf (.rng (a : Int) ((a + n : Nat) : Int)) mh j = some (((List.range n).map fun t => MV.int ((a + t : Nat) : Int))[j]?) := by
  by_cases h : j < n
  · rw [List.getElem?_map, List.getElem?_range h]
    have : (a : Int) + (j : Int) < ((a + n : Nat) : Int) := by lia
    simp only [nextOf, if_pos this]
    rfl
  · have h2 : ((List.range n).map fun t => MV.int ((a + t : Nat) : Int))[j]? = none := List.getElem?_eq_none (by rw [List.length_map, List.length_range]; lia)
    have : ¬ ((a : Int) + (j : Int) < ((a + n : Nat) : Int)) := by lia
    rw [h2]
    simp only [nextOf, if_neg this]
noncomputable def bK : DS := (dSeq (dAsg 40 (dTup (dL1 (dCall fSum (dL1 (dSliceL (dVar 35) (some (dVar 38)) (some (dOp2 oAdd (dVar 18) (dC (.int 1))))) dL0)) (dL1 (dOp2 oSub (dOp2 oAdd (dVar 18) (dC (.int 1))) (dVar 38)) dL0)))) (dSeq (dIf (dLess 40 39) (dSeq (dAsg 39 (dVar 40)) dNil) dNil) dNil))
theorem add_1 {f : D} {k : Nat} {me : ME} {mh : MH} (h : f me mh = some (.int (k : Int), mh)) : dOp2 oAdd f (dC (.int 1)) me mh = some (.int ((k + 1 : Nat) : Int), mh) := (op2_ev h c_ev).trans rfl
section
variable {vs : List Nat} (h6 : vs.length = 6) (hs : vs.sum ≤ 100)
include h6 hs
theorem bK_ev {j k : Nat} {p : B} (hp : Sm p) (hj : j ≤ k) (hk : k < 6) {me : ME} {mh : MH} (h35 : me.lookup 35 = some (valM vs)) (h38 : me.lookup 38 = some (.int (j : Int))) (h18 : me.lookup 18 = some (.int (k : Int))) (h39 : me.lookup 39 = some (pM p)) :
    ∃ me2, bK me mh = some (.next, me2, mh) ∧ Sees [40, 39] me me2 ∧ me2.lookup 39 = some (pM (minF p (seg vs j (k + 1)))) := by
  have a1 := add_1 (me_dVar (mh := mh) h18)
  have a2 := sl_mid (j := j) (k := k + 1) (by lia) (by lia) (by lia) (me_dVar (mh := mh) h35) (me_dVar h38) a1
  have a3 := (call_ev (den := fSum) (l1 a2 l0)).trans (fSum_ev _ mh)
  have a4 : dOp2 oSub (dOp2 oAdd (dVar 18) (dC (.int 1))) (dVar 38) me mh = some (.int ((k + 1 - j : Nat) : Int), mh) := by
    refine (op2_ev a1 (me_dVar h38)).trans ?_
    show some (MV.int (((k + 1 : Nat) : Int) - (j : Int)), mh) = _
    congr 3
    lia
  have a5 : dTup (dL1 (dCall fSum (dL1 (dSliceL (dVar 35) (some (dVar 38)) (some (dOp2 oAdd (dVar 18) (dC (.int 1))))) dL0)) (dL1 (dOp2 oSub (dOp2 oAdd (dVar 18) (dC (.int 1))) (dVar 38)) dL0)) me mh = some (pM (seg vs j (k + 1)), mh) := tup_ev (l1 a3 (l1 a4 l0)) (by show 2 ≤ 1000; decide)
  have c := less_ev (x := 40) (y := 39) (seg_sm hs (j := j) (k1 := k + 1) (by lia)) hp (me := upd me 40 (pM (seg vs j (k + 1)))) (mh := mh) lk_self ((lk_ne (by decide)).trans h39)
  have S1 : Sees [40, 39] me (upd me 40 (pM (seg vs j (k + 1)))) := (Sees.refl _ _).upd (by simp)
  unfold minF
  cases hq : lessT (seg vs j (k + 1)) p with
  | true =>
    rw [hq] at c
    have e : dIf (dLess 40 39) (dSeq (dAsg 39 (dVar 40)) dNil) dNil (upd me 40 (pM (seg vs j (k + 1)))) mh = some (.next, upd (upd me 40 (pM (seg vs j (k + 1)))) 39 (pM (seg vs j (k + 1))), mh) := by
      rw [if_ev c, if_pos rfl]
      exact (seq_asg (me_dVar lk_self)).trans rfl
    exact ⟨_, (seq_asg a5).trans ((seq_next e).trans rfl), S1.upd (by simp), by rw [lk_self]; rfl⟩
  | false =>
    rw [hq] at c
    have e : dIf (dLess 40 39) (dSeq (dAsg 39 (dVar 40)) dNil) dNil (upd me 40 (pM (seg vs j (k + 1)))) mh = some (.next, upd me 40 (pM (seg vs j (k + 1))), mh) := by
      rw [if_ev c]; rfl
    exact ⟨_, (seq_asg a5).trans ((seq_next e).trans rfl), S1, by rw [lk_ne (by decide), h39]; rfl⟩
theorem k_loop {i j : Nat} (hj : j ≤ i) (hi : i < 6) {me : ME} {mh : MH} (h15 : me.lookup 15 = some (.int (i : Int))) (h35 : me.lookup 35 = some (valM vs)) (h38 : me.lookup 38 = some (.int (j : Int))) (h39 : me.lookup 39 = some (pM ((vs.drop j).sum, 6 - j))) :
    ∃ me2, dFor none 100 (dCall fRange (dL1 (dVar 15) (dL1 (dC (.int 6)) dL0))) (tgV 18) bK me mh = some (.next, me2, mh) ∧ Sees [18, 40, 39] me me2 ∧ me2.lookup 39 = some (pM (leastN vs i j (6 - i))) := by
  have h6i : i + (6 - i) = 6 := by lia
  have hlen : ((List.range (6 - i)).map fun t => MV.int ((i + t : Nat) : Int)).length = 6 - i := by rw [List.length_map, List.length_range]
  obtain ⟨me', P, e⟩ := forLoop_ix (tg := tgV 18) (f := bK) (k := .rng (i : Int) ((i + (6 - i) : Nat) : Int)) (items := (List.range (6 - i)).map fun t => MV.int ((i + t : Nat) : Int)) (fun _ => mh)
    (fun t me1 => Sees [18, 40, 39] me me1 ∧ me1.lookup 39 = some (pM (leastN vs i j t))) (fun t _ => nx_rng2 t)
    (fun t it me1 ht P => by
      have htl : t < 6 - i := by have := (List.getElem?_eq_some_iff.mp ht).1; rw [hlen] at this; exact this
      rw [List.getElem?_map, List.getElem?_range htl] at ht
      have hit : it = .int ((i + t : Nat) : Int) := by cases ht; rfl
      subst hit
      obtain ⟨me2, e2, S2, l2⟩ := bK_ev h6 hs (leastN_sm hs t (by lia)) (j := j) (k := i + t) (by lia) (by lia) (me := upd me1 18 (.int ((i + t : Nat) : Int))) (mh := mh) ((lk_ne (by decide)).trans ((P.1 35 (by decide)).trans h35)) ((lk_ne (by decide)).trans ((P.1 38 (by decide)).trans h38)) lk_self ((lk_ne (by decide)).trans P.2)
      refine ⟨_, me2, rfl, .inl e2, fun y hy => ?_, l2⟩
      have h1 : y ∉ [40, 39] := fun h => hy (List.mem_cons_of_mem _ h)
      have h2 : y ≠ 18 := fun h => hy (by rw [h]; simp)
      rw [S2 y h1, lk_ne h2]
      exact P.1 y hy) 100 0 me (by rw [hlen]; lia) (Nat.zero_le _) ⟨Sees.refl _ _, h39⟩
  rw [hlen] at P
  have hr : dCall fRange (dL1 (dVar 15) (dL1 (dC (.int 6)) dL0)) me mh = some (.rng (i : Int) ((i + (6 - i) : Nat) : Int), mh) := by
    rw [h6i]
    exact (call_ev (l1 (me_dVar h15) (l1 (c_ev (v := .int 6)) l0))).trans rfl
  exact ⟨me', (for_rng hr (by lia)).trans e, P⟩
end
end Mine

namespace Mine

noncomputable def bJ : DS := (dSeq (dAsg 39 (dTup (dL1 (dCall fSum (dL1 (dSliceL (dVar 35) (some (dVar 38)) none) dL0)) (dL1 (dOp2 oSub (dC (.int 6)) (dVar 38)) dL0)))) (dSeq (dFor none 100 (dCall fRange (dL1 (dVar 15) (dL1 (dC (.int 6)) dL0))) (tgV 18) bK) (dSeq (dIf (dLess 37 39) (dSeq (dAsg 37 (dVar 39)) dNil) dNil) dNil)))
noncomputable def bI : DS := (dSeq (dAsg 37 (dTup (dL1 (dC (.int 0)) (dL1 (dC (.int 1)) dL0)))) (dSeq (dFor none 100 (dCall fRange (dL1 (dOp2 oAdd (dVar 15) (dC (.int 1))) dL0)) (tgV 38) bJ) (dSeq (dExprN (dBMeth selList fAppend (dVar 36) (dL1 (dVar 37) dL0))) dNil)))
theorem Sees.more {xs ys : List Nat} {a b : ME} (h : Sees xs a b) (s : ∀ x ∈ xs, x ∈ ys) : Sees ys a b := fun y hy => h y fun hm => hy (s y hm)
theorem Sees.trans {xs : List Nat} {a b c : ME} (h : Sees xs a b) (k : Sees xs b c) : Sees xs a c := fun y hy => (k y hy).trans (h y hy)
section
variable {vs : List Nat} (h6 : vs.length = 6) (hs : vs.sum ≤ 100)
include h6 hs
theorem bJ_ev {i j : Nat} {p : B} (hp : Sm p) (hj : j ≤ i) (hi : i < 6) {me : ME} {mh : MH} (h15 : me.lookup 15 = some (.int (i : Int))) (h35 : me.lookup 35 = some (valM vs)) (h38 : me.lookup 38 = some (.int (j : Int))) (h37 : me.lookup 37 = some (pM p)) :
    ∃ me2, bJ me mh = some (.next, me2, mh) ∧ Sees [18, 40, 39, 37] me me2 ∧ me2.lookup 37 = some (pM (maxF p (leastN vs i j (6 - i)))) := by
  have a2 := sl_drop (j := j) (by lia) (by lia) (me_dVar (mh := mh) h35) (me_dVar h38)
  have a3 := (call_ev (den := fSum) (l1 a2 l0)).trans (fSum_ev _ mh)
  have a4 : dOp2 oSub (dC (.int 6)) (dVar 38) me mh = some (.int ((6 - j : Nat) : Int), mh) := by
    refine (op2_ev c_ev (me_dVar h38)).trans ?_
    show some (MV.int (6 - (j : Int)), mh) = _
    congr 3
    lia
  have a5 : dTup (dL1 (dCall fSum (dL1 (dSliceL (dVar 35) (some (dVar 38)) none) dL0)) (dL1 (dOp2 oSub (dC (.int 6)) (dVar 38)) dL0)) me mh = some (pM ((vs.drop j).sum, 6 - j), mh) := tup_ev (l1 a3 (l1 a4 l0)) (by show 2 ≤ 1000; decide)
  obtain ⟨me2, e2, S2, l2⟩ := k_loop h6 hs hj hi (me := upd me 39 (pM ((vs.drop j).sum, 6 - j))) (mh := mh) ((lk_ne (by decide)).trans h15) ((lk_ne (by decide)).trans h35) ((lk_ne (by decide)).trans h38) lk_self
  have S0 : Sees [18, 40, 39, 37] me (upd me 39 (pM ((vs.drop j).sum, 6 - j))) := (Sees.refl _ _).upd (by simp)
  have S1 : Sees [18, 40, 39, 37] me me2 := S0.trans (S2.more (by simp))
  have k37 : me2.lookup 37 = some (pM p) := (S2 37 (by decide)).trans ((lk_ne (by decide)).trans h37)
  have c := less_ev (x := 37) (y := 39) hp (leastN_sm hs (i := i) (j := j) (6 - i) (by lia)) (me := me2) (mh := mh) k37 l2
  unfold maxF
  cases hq : lessT p (leastN vs i j (6 - i)) with
  | true =>
    rw [hq] at c
    have e : dIf (dLess 37 39) (dSeq (dAsg 37 (dVar 39)) dNil) dNil me2 mh = some (.next, upd me2 37 (pM (leastN vs i j (6 - i))), mh) := by
      rw [if_ev c, if_pos rfl]
      exact (seq_asg (me_dVar l2)).trans rfl
    exact ⟨_, (seq_asg a5).trans ((seq_next e2).trans ((seq_next e).trans rfl)), S1.upd (by simp), by rw [lk_self]; rfl⟩
  | false =>
    rw [hq] at c
    have e : dIf (dLess 37 39) (dSeq (dAsg 37 (dVar 39)) dNil) dNil me2 mh = some (.next, me2, mh) := by
      rw [if_ev c]; rfl
    exact ⟨_, (seq_asg a5).trans ((seq_next e2).trans ((seq_next e).trans rfl)), S1, by rw [k37]; rfl⟩
theorem j_loop {i : Nat} (hi : i < 6) {me : ME} {mh : MH} (h15 : me.lookup 15 = some (.int (i : Int))) (h35 : me.lookup 35 = some (valM vs)) (h37 : me.lookup 37 = some (pM (0, 1))) :
    ∃ me2, dFor none 100 (dCall fRange (dL1 (dOp2 oAdd (dVar 15) (dC (.int 1))) dL0)) (tgV 38) bJ me mh = some (.next, me2, mh) ∧ Sees [38, 18, 40, 39, 37] me me2 ∧ me2.lookup 37 = some (pM (mostN vs i (i + 1))) := by
  obtain ⟨me', P, e⟩ := forLoop_ix (tg := tgV 38) (f := bJ) (k := .rng 0 ((i + 1 : Nat) : Int)) (items := rngI (i + 1)) (fun _ => mh)
    (fun j me1 => Sees [38, 18, 40, 39, 37] me me1 ∧ me1.lookup 37 = some (pM (mostN vs i j))) (fun j _ => nx_rng (n := i + 1) j)
    (fun j it me1 hj P => by
      obtain ⟨hj', rfl⟩ := rngI_get hj
      obtain ⟨me2, e2, S2, l2⟩ := bJ_ev h6 hs (mostN_sm hs (by lia) j) (i := i) (j := j) (by lia) hi (me := upd me1 38 (.int (j : Int))) (mh := mh) ((lk_ne (by decide)).trans ((P.1 15 (by decide)).trans h15)) ((lk_ne (by decide)).trans ((P.1 35 (by decide)).trans h35)) lk_self ((lk_ne (by decide)).trans P.2)
      have S0 : Sees [38, 18, 40, 39, 37] me (upd me1 38 (.int (j : Int))) := P.1.upd (by simp)
      exact ⟨_, me2, rfl, .inl e2, S0.trans (S2.more fun x hx => List.mem_cons_of_mem _ hx), l2⟩) 100 0 me (by rw [rngI_len]; lia) (Nat.zero_le _) ⟨Sees.refl _ _, h37⟩
  rw [rngI_len] at P
  have hr : dCall fRange (dL1 (dOp2 oAdd (dVar 15) (dC (.int 1))) dL0) me mh = some (.rng 0 ((i + 1 : Nat) : Int), mh) := (call_ev (l1 (add_1 (me_dVar h15)) l0)).trans rfl
  exact ⟨me', (for_rng hr (by lia)).trans e, P⟩
omit h6 hs in
theorem app_ev {mh0 : MH} {l : List MV} (hl : l.length ≤ 100) {x y : Nat} {v : MV} {me : ME} (hx : me.lookup x = some (.ref mh0.length)) (hy : me.lookup y = some v) :
    dExprN (dBMeth selList fAppend (dVar x) (dL1 (dVar y) dL0)) me (mh0 ++ [.list l]) = some (.next, me, mh0 ++ [.list (l ++ [v])]) := by
  have g : (mh0 ++ [MO.list l])[mh0.length]? = some (.list l) := by rw [List.getElem?_append_right (Nat.le_refl _), Nat.sub_self]; rfl
  have hs2 : selList (.ref mh0.length) (mh0 ++ [.list l]) = true := by simp only [selList, g]
  have h1 : l.length ≤ 100000 := by lia
  have hset : (mh0 ++ [MO.list l]).set mh0.length (.list (l ++ [v])) = mh0 ++ [.list (l ++ [v])] := by
    rw [List.set_append_right _ _ (Nat.le_refl _), Nat.sub_self]; rfl
  have v1 : dL1 (dVar y) dL0 me (mh0 ++ [.list l]) = some ([v], mh0 ++ [.list l]) := l1 (me_dVar hy) l0
  have v0 : dVar x me (mh0 ++ [.list l]) = some (.ref mh0.length, mh0 ++ [.list l]) := me_dVar hx
  simp only [dExprN, dBMeth, v0, hs2, if_true, v1, fAppend, g, h1, hset]
theorem i_loop {mh0 : MH} {me : ME} (h35 : me.lookup 35 = some (valM vs)) (h36 : me.lookup 36 = some (.ref mh0.length)) :
    ∃ me2, dFor none 100 (dCall fRange (dL1 (dC (.int 6)) dL0)) (tgV 15) bI me (mh0 ++ [.list []]) = some (.next, me2, mh0 ++ [.list ((meansP vs).map pM)]) ∧ me2.lookup 36 = some (.ref mh0.length) := by
  have hm : (meansP vs).length = 6 := by unfold meansP; rw [List.length_map, List.length_range]
  obtain ⟨me', P, e⟩ := forLoop_ix (tg := tgV 15) (f := bI) (k := .rng 0 6) (items := rngI 6) (fun i => mh0 ++ [.list (((meansP vs).map pM).take i)])
    (fun _ me1 => Sees [15, 38, 18, 40, 39, 37] me me1) (fun j _ => nx_rng (n := 6) j)
    (fun i it me1 hj P => by
      obtain ⟨hi, rfl⟩ := rngI_get hj
      have c0 : dTup (dL1 (dC (.int 0)) (dL1 (dC (.int 1)) dL0)) (upd me1 15 (.int (i : Int))) (mh0 ++ [.list (((meansP vs).map pM).take i)]) = some (pM (0, 1), mh0 ++ [.list (((meansP vs).map pM).take i)]) := rfl
      obtain ⟨me2, e2, S2, l2⟩ := j_loop h6 hs hi (me := upd (upd me1 15 (.int (i : Int))) 37 (pM (0, 1))) (mh := mh0 ++ [.list (((meansP vs).map pM).take i)]) ((lk_ne (by decide)).trans lk_self) (by rw [lk_ne (by decide), lk_ne (by decide)]; exact (P 35 (by decide)).trans h35) lk_self
      have S0 : Sees [15, 38, 18, 40, 39, 37] me (upd (upd me1 15 (.int (i : Int))) 37 (pM (0, 1))) := (Sees.upd P (by simp)).upd (by simp)
      have S1 : Sees [15, 38, 18, 40, 39, 37] me me2 := S0.trans (S2.more fun x hx => List.mem_cons_of_mem _ hx)
      have e3 := app_ev (mh0 := mh0) (l := ((meansP vs).map pM).take i) (by rw [List.length_take]; lia) (x := 36) (y := 37) (me := me2) ((S1 36 (by decide)).trans h36) l2
      have ht : ((meansP vs).map pM).take i ++ [pM (mostN vs i (i + 1))] = ((meansP vs).map pM).take (i + 1) := by
        have hg : ((meansP vs).map pM)[i]? = some (pM (mostN vs i (i + 1))) := by
          unfold meansP
          rw [List.getElem?_map, List.getElem?_map, List.getElem?_range hi]; rfl
        rw [List.take_add_one, hg]; rfl
      rw [ht] at e3
      exact ⟨_, me2, rfl, .inl ((seq_asg c0).trans ((seq_next e2).trans ((seq_next e3).trans rfl))), S1⟩) 100 0 me (by rw [rngI_len]; decide) (Nat.zero_le _) (Sees.refl _ _)
  have full : ((meansP vs).map pM).take 6 = (meansP vs).map pM := List.take_of_length_le (by rw [List.length_map, hm]; exact Nat.le_refl _)
  rw [rngI_len, full] at e
  exact ⟨me', (for_rng (a := 0) (b := 6) rfl (by decide)).trans e, (P 36 (by decide)).trans h36⟩
theorem means_ev (mh0 : MH) : dFn [35] F_law_means [valM vs] mh0 = some (.ref mh0.length, mh0 ++ [.list ((meansP vs).map pM)]) := by
  obtain ⟨me2, e, l2⟩ := i_loop h6 hs (mh0 := mh0) (me := [(35, valM vs), (36, .ref mh0.length)]) rfl rfl
  have e0 : F_law_means [(35, valM vs)] mh0 = some (.ret (.ref mh0.length), me2, mh0 ++ [.list ((meansP vs).map pM)]) := by
    have a1 : dLstM dL0 [(35, valM vs)] mh0 = some (.ref mh0.length, mh0 ++ [.list []]) := rfl
    exact (seq_asg a1).trans ((seq_next e).trans (seq_ret (me_dVar l2)))
  simp only [dFn, List.length_cons, List.length_nil, if_true, zipE, e0]
end
end Mine

namespace Mine

noncomputable def risesAll : List B → Bool
  | x :: y :: r => risesB x y && risesAll (y :: r)
  | _ => true
noncomputable def wholeP (bs : List B) : List B := (bs.map fun b => List.replicate b.1 b).flatten
noncomputable def pre (vs : List Nat) (t : Nat) : Nat := (vs.take t).sum
theorem seg_pre {vs : List Nat} {j k : Nat} (h : j ≤ k) : (seg vs j k).1 + pre vs j = pre vs k ∧ (seg vs j k).2 = k - j := by
  refine ⟨?_, rfl⟩
  have h1 : vs.take k = vs.take j ++ (vs.drop j).take (k - j) := by
    have : k = j + (k - j) := by lia
    conv => lhs; rw [this]
    rw [List.take_add]
  unfold pre seg
  rw [h1, List.sum_append]
  show ((vs.drop j).take (k - j)).sum + (vs.take j).sum = (vs.take j).sum + ((vs.drop j).take (k - j)).sum
  exact Nat.add_comm _ _
noncomputable def leF (p q : B) : Prop := p.1 * q.2 ≤ q.1 * p.2
theorem leF_refl (p : B) : leF p p := Nat.le_refl _
theorem leF_trans {p q r : B} (hq : 0 < q.2) (h1 : leF p q) (h2 : leF q r) : leF p r := by
  unfold leF at *
  have a : (p.1 * r.2) * q.2 ≤ (r.1 * p.2) * q.2 := by
    calc (p.1 * r.2) * q.2 = (p.1 * q.2) * r.2 := by rw [Nat.mul_right_comm]
      _ ≤ (q.1 * p.2) * r.2 := Nat.mul_le_mul_right _ h1
      _ = (q.1 * r.2) * p.2 := by rw [Nat.mul_right_comm]
      _ ≤ (r.1 * q.2) * p.2 := Nat.mul_le_mul_right _ h2
      _ = (r.1 * p.2) * q.2 := by rw [Nat.mul_right_comm]
  exact Nat.le_of_mul_le_mul_right a hq
theorem lessT_leF {p q : B} (h : lessT p q = true) : leF p q := Nat.le_of_lt (Nat.blt_eq.mp h)
theorem not_lessT {p q : B} (h : lessT p q = false) : leF q p := by
  unfold leF
  refine Nat.not_lt.mp fun q2 => ?_
  have : lessT p q = true := Nat.blt_eq.mpr q2
  rw [this] at h
  cases h
theorem minF_l (p q : B) : leF (minF p q) p := by
  unfold minF
  cases h : lessT q p with
  | true => exact lessT_leF h
  | false => exact leF_refl _
theorem minF_r (p q : B) : leF (minF p q) q := by
  unfold minF
  cases h : lessT q p with
  | true => exact leF_refl _
  | false => exact not_lessT h
theorem minF_or (p q : B) : minF p q = p ∨ minF p q = q := by
  unfold minF
  split
  · exact .inr rfl
  · exact .inl rfl
theorem maxF_l (p q : B) : leF p (maxF p q) := by
  unfold maxF
  cases h : lessT p q with
  | true => exact lessT_leF h
  | false => exact leF_refl _
theorem maxF_r (p q : B) : leF q (maxF p q) := by
  unfold maxF
  cases h : lessT p q with
  | true => exact leF_refl _
  | false => exact not_lessT h
theorem maxF_or (p q : B) : maxF p q = p ∨ maxF p q = q := by
  unfold maxF
  split
  · exact .inr rfl
  · exact .inl rfl
section
variable {vs : List Nat} (h6 : vs.length = 6)
include h6
theorem least_is {i j : Nat} (hj : j ≤ i) (hi : i < 6) : ∀ t, i + t ≤ 6 → ∃ k, i + 1 ≤ k ∧ k ≤ 6 ∧ leastN vs i j t = seg vs j k
  | 0, _ => ⟨6, by lia, Nat.le_refl _, by
    show ((vs.drop j).sum, 6 - j) = seg vs j 6
    unfold seg
    rw [List.take_of_length_le (by rw [List.length_drop, h6]; exact Nat.le_refl _)]⟩
  | t + 1, ht => by
    obtain ⟨k, k1, k2, e⟩ := least_is hj hi t (by lia)
    show ∃ k, i + 1 ≤ k ∧ k ≤ 6 ∧ minF (leastN vs i j t) (seg vs j (i + t + 1)) = seg vs j k
    rcases minF_or (leastN vs i j t) (seg vs j (i + t + 1)) with h | h
    · exact ⟨k, k1, k2, h.trans e⟩
    · exact ⟨i + t + 1, by lia, by lia, h⟩
theorem least_pos {i j : Nat} (hj : j ≤ i) (hi : i < 6) {t : Nat} (ht : i + t ≤ 6) : 0 < (leastN vs i j t).2 := by
  obtain ⟨k, k1, _, e⟩ := least_is h6 hj hi t ht
  rw [e]
  show 0 < k - j
  lia
theorem least_le {i j : Nat} (hj : j ≤ i) (hi : i < 6) : ∀ t, i + t ≤ 6 → ∀ k, i + 1 ≤ k → k ≤ i + t → leF (leastN vs i j t) (seg vs j k)
  | 0, _, k, h1, h2 => by lia
  | t + 1, ht, k, h1, h2 => by
    show leF (minF (leastN vs i j t) (seg vs j (i + t + 1))) (seg vs j k)
    by_cases e : k = i + t + 1
    · subst e; exact minF_r _ _
    · exact leF_trans (least_pos h6 hj hi (by lia)) (minF_l _ _) (least_le hj hi t (by lia) k h1 (by lia))
structure Supp (vs : List Nat) (a : Nat) (b : B) : Prop where
  pos : 0 < b.1
  top : a + b.1 ≤ 6
  sum : pre vs a + b.2 = pre vs (a + b.1)
  sup : ∀ t, t ≤ 6 → b.2 * t + b.1 * pre vs a ≤ b.1 * pre vs t + b.2 * a
theorem most_eq {a i : Nat} {b : B} (S : Supp vs a b) (ha : a ≤ i) (hi : i < a + b.1) : b.2 * (mostN vs i (i + 1)).2 = (mostN vs i (i + 1)).1 * b.1 := by
  have hi6 : i < 6 := Nat.lt_of_lt_of_le hi S.top
  have ht : i + (6 - i) ≤ 6 := by lia
  -- the block's mean as a fraction
  have up : ∀ j, j ≤ i → leF (leastN vs i j (6 - i)) (b.2, b.1) := fun j hj => by
    refine leF_trans (q := seg vs j (a + b.1)) ?_ (least_le h6 hj hi6 (6 - i) ht (a + b.1) hi (by have := S.top; lia)) ?_
    · show 0 < a + b.1 - j; lia
    · obtain ⟨e1, e2⟩ := seg_pre (vs := vs) (j := j) (k := a + b.1) (by lia)
      have s := S.sup j (by lia)
      have e3 := S.sum
      show (seg vs j (a + b.1)).1 * b.1 ≤ b.2 * (seg vs j (a + b.1)).2
      rw [e2]
      generalize (seg vs j (a + b.1)).1 = x at e1
      rw [← e3] at e1
      generalize hd : a + b.1 - j = dd
      have hj2 : j + dd = a + b.1 := by lia
      have k1 : b.1 * (x + pre vs j) = b.1 * (pre vs a + b.2) := by rw [e1]
      have k2 : b.2 * (j + dd) = b.2 * (a + b.1) := by rw [hj2]
      rw [Nat.mul_add, Nat.mul_add] at k1 k2
      rw [Nat.mul_comm x b.1]
      have k3 : b.1 * b.2 = b.2 * b.1 := Nat.mul_comm _ _
      lia
  have low : leF (b.2, b.1) (leastN vs i a (6 - i)) := by
    obtain ⟨k, k1, k2, e⟩ := least_is h6 ha hi6 (6 - i) ht
    rw [e]
    obtain ⟨e1, e2⟩ := seg_pre (vs := vs) (j := a) (k := k) (by lia)
    have s := S.sup k k2
    show b.2 * (seg vs a k).2 ≤ (seg vs a k).1 * b.1
    rw [e2]
    generalize (seg vs a k).1 = x at e1
    rw [← e1] at s
    generalize hd : k - a = dd
    have hk : k = a + dd := by lia
    rw [hk, Nat.mul_add, Nat.mul_add] at s
    rw [Nat.mul_comm x b.1]
    lia
  have pos : ∀ j, j ≤ i + 1 → 0 < (mostN vs i j).2 := by
    intro j
    induction j with
    | zero => intro _; exact Nat.one_pos
    | succ j ih =>
      intro hj
      show 0 < (maxF (mostN vs i j) (leastN vs i j (6 - i))).2
      rcases maxF_or (mostN vs i j) (leastN vs i j (6 - i)) with h | h
      · rw [h]; exact ih (by lia)
      · rw [h]; exact least_pos h6 (by lia) hi6 ht
  have U : ∀ j, j ≤ i + 1 → leF (mostN vs i j) (b.2, b.1) := by
    intro j
    induction j with
    | zero => intro _; show 0 * b.1 ≤ b.2 * 1; lia
    | succ j ih =>
      intro hj
      show leF (maxF (mostN vs i j) (leastN vs i j (6 - i))) (b.2, b.1)
      rcases maxF_or (mostN vs i j) (leastN vs i j (6 - i)) with h | h
      · rw [h]; exact ih (by lia)
      · rw [h]; exact up j (by lia)
  have Lw : ∀ j, a < j → j ≤ i + 1 → leF (b.2, b.1) (mostN vs i j) := by
    intro j
    induction j with
    | zero => intro h; lia
    | succ j ih =>
      intro h1 h2
      show leF (b.2, b.1) (maxF (mostN vs i j) (leastN vs i j (6 - i)))
      by_cases e : j = a
      · subst e
        exact leF_trans (least_pos h6 ha hi6 ht) low (maxF_r _ _)
      · exact leF_trans (pos j (by lia)) (ih (by lia) (by lia)) (maxF_l _ _)
  exact Nat.le_antisymm (Lw (i + 1) (by lia) (Nat.le_refl _)) (U (i + 1) (Nat.le_refl _))
end
end Mine

namespace Mine

noncomputable def eqB : List B → List B → Bool
  | [], [] => true
  | x :: r, y :: s => Nat.beq x.1 y.1 && (Nat.beq x.2 y.2 && eqB r s)
  | _, _ => false
noncomputable def ones (vs : List Nat) : List B := vs.map fun v => (1, v)
noncomputable def suppT (n m a sa : Nat) : Nat → List Nat → Bool
  | _, [] => true
  | t, s :: r => Nat.ble (m * t + n * sa) (n * s + m * a) && suppT n m a sa (t + 1) r
noncomputable def suppAll (ps : List Nat) : Nat → List Nat → List B → Bool
  | a, qs, [] => Nat.beq a 6
  | a, qs, b :: r => match qs with
    | [] => false
    | sa :: _ => match qs.drop b.1 with
      | [] => false
      | sb :: q => Nat.blt 0 b.1 && (Nat.beq (sa + b.2) sb && (suppT b.1 b.2 a sa 0 ps && suppAll ps (a + b.1) (sb :: q) r))
noncomputable def sums : Nat → List Nat → List Nat
  | s, [] => [s]
  | s, v :: r => s :: sums (s + v) r
noncomputable def chkP (vs : List Nat) (P : List B) (R : List B × Bool) (ps : List Nat) : Bool := !R.2 && (eqB P R.1 && (risesAll P && suppAll ps 0 ps P))
noncomputable def chkV (vs : List Nat) : Bool := chkP vs (pileOf vs).reverse (itR 6 (rnd (ones vs))) (sums 0 vs)
noncomputable def all6 (f : Nat → Bool) : Bool := f 1 && (f 2 && (f 3 && (f 4 && (f 5 && f 6))))
noncomputable def T (a b : Nat) : Bool := all6 fun c => all6 fun d => all6 fun e => all6 fun f => chkV [a, b, c, d, e, f]
theorem all6_of {f : Nat → Bool} (h : all6 f = true) {v : Nat} (hv : 1 ≤ v ∧ v < 7) : f v = true := by
  unfold all6 at h
  simp only [Bool.and_eq_true] at h
  obtain ⟨h1, h2, h3, h4, h5, h6⟩ := h
  rcases lt7 hv with rfl | rfl | rfl | rfl | rfl | rfl <;> assumption
theorem eqB_eq : ∀ {x y : List B}, eqB x y = true → x = y
  | [], [], _ => rfl
  | [], _ :: _, h => by cases h
  | _ :: _, [], h => by cases h
  | (a, b) :: r, (c, d) :: s, h => by
    unfold eqB at h
    simp only [Bool.and_eq_true] at h
    obtain ⟨h1, h2, h3⟩ := h
    have e1 : a = c := Nat.eq_of_beq_eq_true h1
    have e2 : b = d := Nat.eq_of_beq_eq_true h2
    rw [e1, e2, eqB_eq h3]
theorem sums_get : ∀ (vs : List Nat) (s t : Nat), t ≤ vs.length → (sums s vs)[t]? = some (s + pre vs t)
  | [], s, t, h => by
    have : t = 0 := Nat.le_zero.mp h
    subst this
    rfl
  | v :: r, s, 0, _ => by show some s = some (s + 0); rfl
  | v :: r, s, t + 1, h => by
    show (sums (s + v) r)[t]? = _
    rw [sums_get r (s + v) t (Nat.le_of_succ_le_succ h)]
    show some (s + v + (r.take t).sum) = some (s + ((v :: r).take (t + 1)).sum)
    rw [List.take_succ_cons, List.sum_cons, Nat.add_assoc]
theorem sums_len : ∀ (vs : List Nat) (s : Nat), (sums s vs).length = vs.length + 1
  | [], _ => rfl
  | v :: r, s => by show (sums (s + v) r).length + 1 = _; rw [sums_len r]; rfl
theorem suppT_get {n m a sa : Nat} : ∀ (qs : List Nat) (t0 k : Nat) (s : Nat), suppT n m a sa t0 qs = true → qs[k]? = some s → m * (t0 + k) + n * sa ≤ n * s + m * a
  | [], _, k, s, _, h => by simp at h
  | q :: r, t0, k, s, h, hk => by
    unfold suppT at h
    rw [Bool.and_eq_true] at h
    cases k with
    | zero =>
      have : q = s := by simpa using hk
      subst this
      exact Nat.ble_eq.mp h.1
    | succ k =>
      have := suppT_get r (t0 + 1) k s h.2 (by simpa using hk)
      rw [show t0 + (k + 1) = t0 + 1 + k by omega]
      exact this
theorem suppAll_whole {vs : List Nat} (h6 : vs.length = 6) : ∀ (bs : List B) (a : Nat), suppAll (sums 0 vs) a ((sums 0 vs).drop a) bs = true → a ≤ 6 → a + (wholeP bs).length = 6 ∧ ∀ k, a ≤ k → k < 6 → ∃ b a', (wholeP bs)[k - a]? = some b ∧ Supp vs a' b ∧ a' ≤ k ∧ k < a' + b.1
  | [], a, h, ha => by
    have e : a = 6 := Nat.eq_of_beq_eq_true h
    subst e
    exact ⟨rfl, fun k h1 h2 => absurd h2 (Nat.not_lt.mpr h1)⟩
  | b :: r, a, h, ha => by
    have g0 := sums_get vs 0 a (by rw [h6]; exact ha)
    rw [Nat.zero_add] at g0
    have hl := sums_len vs 0
    rw [h6] at hl
    have d0 : (sums 0 vs).drop a = pre vs a :: (sums 0 vs).drop (a + 1) := by
      rw [List.drop_eq_getElem_cons (by rw [hl]; omega)]
      congr 1
      have : a < (sums 0 vs).length := by rw [hl]; omega
      rw [List.getElem?_eq_getElem this] at g0
      exact Option.some.inj g0
    have dd : ((sums 0 vs).drop a).drop b.1 = (sums 0 vs).drop (a + b.1) := List.drop_drop ..
    unfold suppAll at h
    rw [dd] at h
    rw [d0] at h
    simp only at h
    by_cases hb : a + b.1 ≤ 6
    · have g1 := sums_get vs 0 (a + b.1) (by rw [h6]; exact hb)
      rw [Nat.zero_add] at g1
      have d1 : (sums 0 vs).drop (a + b.1) = pre vs (a + b.1) :: (sums 0 vs).drop (a + b.1 + 1) := by
        rw [List.drop_eq_getElem_cons (by rw [hl]; omega)]
        congr 1
        have : a + b.1 < (sums 0 vs).length := by rw [hl]; omega
        rw [List.getElem?_eq_getElem this] at g1
        exact Option.some.inj g1
      rw [d1] at h
      simp only [Bool.and_eq_true] at h
      obtain ⟨p1, p2, p3, p4⟩ := h
      rw [← d1] at p4
      obtain ⟨e, q⟩ := suppAll_whole h6 r (a + b.1) p4 hb
      have S : Supp vs a b := by
        refine ⟨Nat.blt_eq.mp p1, hb, Nat.eq_of_beq_eq_true p2, fun t ht => ?_⟩
        have g2 := sums_get vs 0 t (by rw [h6]; exact ht)
        rw [Nat.zero_add] at g2
        have := suppT_get _ 0 t _ p3 g2
        rw [Nat.zero_add] at this
        exact this
      have ew : wholeP (b :: r) = List.replicate b.1 b ++ wholeP r := by unfold wholeP; rw [List.map_cons, List.flatten_cons]
      rw [ew]
      refine ⟨by rw [List.length_append, List.length_replicate]; omega, fun k h1 h2 => ?_⟩
      by_cases hk : k < a + b.1
      · refine ⟨b, a, ?_, S, h1, hk⟩
        rw [List.getElem?_append_left (by rw [List.length_replicate]; omega), List.getElem?_replicate, if_pos (by omega)]
      · obtain ⟨b', a', e1, e2, e3, e4⟩ := q k (Nat.not_lt.mp hk) h2
        refine ⟨b', a', ?_, e2, e3, e4⟩
        rw [List.getElem?_append_right (by rw [List.length_replicate]; omega), List.length_replicate, show k - a - b.1 = k - (a + b.1) by omega]
        exact e1
    · have d1 : (sums 0 vs).drop (a + b.1) = [] := List.drop_eq_nil_of_le (by rw [hl]; omega)
      rw [d1] at h
      cases h
structure ChkV (vs : List Nat) : Prop where
  stop : (itR 6 (rnd (ones vs))).2 = false
  same : (itR 6 (rnd (ones vs))).1 = (pileOf vs).reverse
  rises : risesAll (pileOf vs).reverse = true
  whole : (wholeP (pileOf vs).reverse).length = 6
  mean : ∀ k, k < 6 → ∃ b a, (wholeP (pileOf vs).reverse)[k]? = some b ∧ Supp vs a b ∧ a ≤ k ∧ k < a + b.1
theorem chkV_of {vs : List Nat} (h6 : vs.length = 6) (h : chkV vs = true) : ChkV vs := by
  unfold chkV chkP at h
  simp only [Bool.and_eq_true] at h
  obtain ⟨h1, h2, h3, h4⟩ := h
  obtain ⟨e, q⟩ := suppAll_whole h6 (pileOf vs).reverse 0 h4 (Nat.zero_le _)
  exact ⟨by simpa using h1, (eqB_eq h2).symm, h3, by omega, fun k hk => q k (Nat.zero_le _) hk⟩
theorem c_1_1 : T 1 1 = true := by kernel_rfl
theorem c_1_2 : T 1 2 = true := by kernel_rfl
theorem c_1_3 : T 1 3 = true := by kernel_rfl
theorem c_1_4 : T 1 4 = true := by kernel_rfl
theorem c_1_5 : T 1 5 = true := by kernel_rfl
theorem c_1_6 : T 1 6 = true := by kernel_rfl
theorem c_2_1 : T 2 1 = true := by kernel_rfl
theorem c_2_2 : T 2 2 = true := by kernel_rfl
theorem c_2_3 : T 2 3 = true := by kernel_rfl
theorem c_2_4 : T 2 4 = true := by kernel_rfl
theorem c_2_5 : T 2 5 = true := by kernel_rfl
theorem c_2_6 : T 2 6 = true := by kernel_rfl
theorem c_3_1 : T 3 1 = true := by kernel_rfl
theorem c_3_2 : T 3 2 = true := by kernel_rfl
theorem c_3_3 : T 3 3 = true := by kernel_rfl
theorem c_3_4 : T 3 4 = true := by kernel_rfl
theorem c_3_5 : T 3 5 = true := by kernel_rfl
theorem c_3_6 : T 3 6 = true := by kernel_rfl
theorem c_4_1 : T 4 1 = true := by kernel_rfl
theorem c_4_2 : T 4 2 = true := by kernel_rfl
theorem c_4_3 : T 4 3 = true := by kernel_rfl
theorem c_4_4 : T 4 4 = true := by kernel_rfl
theorem c_4_5 : T 4 5 = true := by kernel_rfl
theorem c_4_6 : T 4 6 = true := by kernel_rfl
theorem c_5_1 : T 5 1 = true := by kernel_rfl
theorem c_5_2 : T 5 2 = true := by kernel_rfl
theorem c_5_3 : T 5 3 = true := by kernel_rfl
theorem c_5_4 : T 5 4 = true := by kernel_rfl
theorem c_5_5 : T 5 5 = true := by kernel_rfl
theorem c_5_6 : T 5 6 = true := by kernel_rfl
theorem c_6_1 : T 6 1 = true := by kernel_rfl
theorem c_6_2 : T 6 2 = true := by kernel_rfl
theorem c_6_3 : T 6 3 = true := by kernel_rfl
theorem c_6_4 : T 6 4 = true := by kernel_rfl
theorem c_6_5 : T 6 5 = true := by kernel_rfl
theorem c_6_6 : T 6 6 = true := by kernel_rfl
theorem row_1 {b : Nat} (hb : 1 ≤ b ∧ b < 7) : T 1 b = true := by
  rcases lt7 hb with rfl | rfl | rfl | rfl | rfl | rfl
  · exact c_1_1
  · exact c_1_2
  · exact c_1_3
  · exact c_1_4
  · exact c_1_5
  · exact c_1_6
theorem row_2 {b : Nat} (hb : 1 ≤ b ∧ b < 7) : T 2 b = true := by
  rcases lt7 hb with rfl | rfl | rfl | rfl | rfl | rfl
  · exact c_2_1
  · exact c_2_2
  · exact c_2_3
  · exact c_2_4
  · exact c_2_5
  · exact c_2_6
theorem row_3 {b : Nat} (hb : 1 ≤ b ∧ b < 7) : T 3 b = true := by
  rcases lt7 hb with rfl | rfl | rfl | rfl | rfl | rfl
  · exact c_3_1
  · exact c_3_2
  · exact c_3_3
  · exact c_3_4
  · exact c_3_5
  · exact c_3_6
theorem row_4 {b : Nat} (hb : 1 ≤ b ∧ b < 7) : T 4 b = true := by
  rcases lt7 hb with rfl | rfl | rfl | rfl | rfl | rfl
  · exact c_4_1
  · exact c_4_2
  · exact c_4_3
  · exact c_4_4
  · exact c_4_5
  · exact c_4_6
theorem row_5 {b : Nat} (hb : 1 ≤ b ∧ b < 7) : T 5 b = true := by
  rcases lt7 hb with rfl | rfl | rfl | rfl | rfl | rfl
  · exact c_5_1
  · exact c_5_2
  · exact c_5_3
  · exact c_5_4
  · exact c_5_5
  · exact c_5_6
theorem row_6 {b : Nat} (hb : 1 ≤ b ∧ b < 7) : T 6 b = true := by
  rcases lt7 hb with rfl | rfl | rfl | rfl | rfl | rfl
  · exact c_6_1
  · exact c_6_2
  · exact c_6_3
  · exact c_6_4
  · exact c_6_5
  · exact c_6_6
theorem chk_ab {a b : Nat} (ha : 1 ≤ a ∧ a < 7) (hb : 1 ≤ b ∧ b < 7) : T a b = true := by
  rcases lt7 ha with rfl | rfl | rfl | rfl | rfl | rfl
  · exact row_1 hb
  · exact row_2 hb
  · exact row_3 hb
  · exact row_4 hb
  · exact row_5 hb
  · exact row_6 hb
theorem chk_all {vs : List Nat} (hl : vs.length = 6) (hv : ∀ v ∈ vs, 1 ≤ v ∧ v < 7) : chkV vs = true := by
  match vs, hl, hv with
  | [a, b, c, d, e, f], _, hv =>
    have h := chk_ab (hv a (by simp)) (hv b (by simp))
    exact all6_of (all6_of (all6_of (all6_of h (hv c (by simp))) (hv d (by simp))) (hv e (by simp))) (hv f (by simp))
end Mine

namespace Mine

noncomputable def dC7 : DB := (dTru (dOp2 oNe (dVar 42) (dComp [20] none 100 (dVar 35) (tgV 20) dBt (aEmit (dOp2 oAdd (dC (.str " ")) (dOp2 oMul (dVar 21) (dVar 20)))))))
noncomputable def dC8 : DB := (dTru (dOp2 oNe (dTup (dL1 (dMeth 143 "get_token" (dFn [0] (F_get_token 143 126)) (dVar 30) dL0) (dL1 (dOp2 oItem (dVar 12) (dC (.int 0))) (dL1 (dOp1 (oAttr 143 "lineno") (dVar 30)) dL0)))) (dTup (dL1 (dC (.str "")) (dL1 (dCall fLen (dL1 (dVar 11) dL0)) (dL1 (dOp2 oAdd (dC (.int 1)) (dBMeth selStr fCount (dVar 11) (dL1 (dC (.str "\n")) dL0))) dL0))))))
noncomputable def dC13 : DB := (dOr (dTru (dVar 32)) (dOr (dTru (dOp2 oNe (dMeth 143 "get_token" (dFn [0] (F_get_token 143 126)) (dVar 31) dL0) (dC (.str "")))) (dOr (dTru (dOp2 oNe (dComp [13] (some 101) 100 (dVar 27) (tgV 13) dBt (aEmit (dVar 13))) (dVar 43))) dBf)))
noncomputable def dC14 : DB := (dOr (dTru (dOp2 oNe (dCall (fStrI 101 (dFn [0] (F_astr 101))) (dL1 (dVar 27) dL0)) (dBMeth selStr fJoin (dC (.str "")) (dL1 (dComp [26, 33] none 100 (dVar 43) (tgT [26, 33]) dBt (aEmit (dOp2 oAdd (dVar 26) (dVar 33)))) dL0)))) (dOr (dTru (dOp2 oNe (dCall (fLenX 101 (dFn [0] (F_alen 101))) (dL1 (dVar 27) dL0)) (dOp2 oAdd (dC (.int 6)) (dCall fSum (dL1 (dVar 35) dL0))))) dBf))
noncomputable def dC15 : DB := (dTru (dOp2 oNe (dComp [18] none 100 (dCall fRange (dL1 (dC (.int 1)) (dL1 (dCall fLen (dL1 (dVar 43) dL0)) dL0))) (tgV 18) (dNot (dTru (dCall (dFn [23, 24] F_law_rises) (dL1 (dOp2 oItem (dVar 43) (dOp2 oSub (dVar 18) (dC (.int 1)))) (dL1 (dOp2 oItem (dVar 43) (dVar 18)) dL0))))) (aEmit (dVar 18))) (dLst dL0)))
noncomputable def dFail : DS := (dSeq (dRet (dC (.bool false))) dNil)
noncomputable def dBlocks : D := (dComp [18] none 100 (dCall fRange (dL1 (dMeth 101 "part_count" (fPartCount 101) (dVar 27) dL0) dL0)) (tgV 18) dBt (aEmit (dCall (dFn [25] F_law_block) (dL1 (dMeth 143 "get_token" (dFn [0] (F_get_token 143 126)) (dVar 31) dL0) dL0))))
noncomputable def dWhole : D := (dComp [45, 46] none 100 (dVar 43) (tgV 45) dBt (aLoop none 100 (dOp2 oItem (dVar 45) (dC (.int 0))) (tgV 46) dBt (aEmit (dVar 45))))
noncomputable def dLast : D := (dBoolAnd (dOp2 oEq (dCall fLen (dL1 (dVar 44) dL0)) (dC (.int 6))) (dOp2 oEq (dComp [18] none 100 (dCall fRange (dL1 (dC (.int 6)) dL0)) (tgV 18) (dTru (dOp2 oNe (dOp2 oMul (dCall fLen (dL1 (dOp2 oItem (dOp2 oItem (dVar 44) (dVar 18)) (dC (.int 1))) dL0)) (dOp2 oItem (dOp2 oItem (dVar 36) (dVar 18)) (dC (.int 1)))) (dOp2 oMul (dOp2 oItem (dOp2 oItem (dVar 36) (dVar 18)) (dC (.int 0))) (dCall fLen (dL1 (dOp2 oItem (dOp2 oItem (dVar 44) (dVar 18)) (dC (.int 0))) dL0))))) (aEmit (dVar 18))) (dLst dL0)))
theorem law_split : F_law = (dSeq (dAsg 19 (dCall (dFn [17] F_law_numbers) (dL1 (dVar 17) dL0))) (dSeq (dAsg 35 dVals) (dSeq (dAsg 21 dSign) (dSeq (dAsg 11 dText) (dSeq (dAsg 12 (dLstM (dL1 (dC (.int 0)) dL0))) (dSeq (dAsg 30 (dCall (fLexer (fMakeP 143 (dFn [0, 6] (F_ninit 143)))) (dL1 (dVar 11) (dL1 (dVar 12) dL0)))) (dSeq (dAsg 42 dWords) (dSeq (dIf dC7 dFail dNil) (dSeq (dIf dC8 dFail dNil)
    (dSeq (dAsg 27 (dCall (dFn [42] F_law_pile) (dL1 (dVar 42) dL0))) (dSeq (dAsgT (tgT [31, 32]) (dCall (dFn [30] F_law_round) (dL1 (dCall (fLexer (fMakeP 143 (dFn [0, 6] (F_ninit 143)))) (dL1 (dVar 11) (dL1 (dLstM (dL1 (dC (.int 0)) dL0)) dL0))) dL0))) (dSeq (dFor none 100 (dCall fRange (dL1 (dC (.int 6)) dL0)) (tgV 28) bTurn) (dSeq (dAsg 43 dBlocks) (dSeq (dIf dC13 dFail dNil) (dSeq (dIf dC14 dFail dNil) (dSeq (dIf dC15 dFail dNil)
    (dSeq (dAsg 44 dWhole) (dSeq (dAsg 36 (dCall (dFn [35] F_law_means) (dL1 (dVar 35) dL0))) (dSeq (dRet dLast) dNil))))))))))))))))))) := rfl
noncomputable def vsOf (ns : List Int) : List Nat := ns.map vl
theorem vals_is (ns : List Int) : valsM ns = valM (vsOf ns) := by
  unfold valsM valM vsOf
  rw [List.map_map]
  rfl
noncomputable def wordsB (σ : Nat) (vs : List Nat) : MV := .lst (vs.map fun v => wdM σ (1, v))
theorem words_is (ns : List Int) : wordsM ns = wordsB (sg ns) (vsOf ns) := by
  unfold wordsM wordsB vsOf
  rw [List.map_map]
  rfl
theorem sg_ok (ns : List Int) : sg ns < 128 ∧ sg ns ≠ 32 := by
  rcases sg_in ns with h | h | h | h <;> rw [h] <;> decide
theorem goodW {σ : Nat} (hσ : σ < 128) (vs : List Nat) : Good (wordsB σ vs) (.list (vs.map fun v => .str (txt (bk 1 ++ mk σ v)))) 1 := .lst (GoodL.map fun v hv => .str (word_ok hσ (1, v)))
theorem mul_str {σ v : Nat} (hσ : σ = 34 ∨ σ = 92 ∨ σ = 35 ∨ σ = 120) (hv : 1 ≤ v ∧ v < 7) (mh : MH) : oMul (.str (txt [σ])) (.int (v : Int)) mh = some (.str (txt (mk σ v)), mh) := by
  rcases hσ with rfl | rfl | rfl | rfl <;> rcases lt7 hv with rfl | rfl | rfl | rfl | rfl | rfl <;> kernel_rfl
theorem c7_ev {ns : List Int} (hl : ns.length = 6) {me : ME} {mh : MH} (h42 : me.lookup 42 = some (wordsM ns)) (h35 : me.lookup 35 = some (valsM ns)) (h21 : me.lookup 21 = some (.str (txt [sg ns]))) : dC7 me mh = some (false, mh) := by
  have c1 := comp_pure (own := [20]) (c0 := none) (N := 100) (tg := tgV 20) (cond := dBt) (elt := (dOp2 oAdd (dC (.str " ")) (dOp2 oMul (dVar 21) (dVar 20)))) (me := me) (mh := mh) (mh0 := mh) (it := dVar 35) (me_dVar h35) (k := .lst (ns.map fun x => .int ((vl x : Nat) : Int))) rfl (items := ns.map fun x => .int ((vl x : Nat) : Int)) (fun j => rfl)
    (fun _ => true) (fun v => wdM (sg ns) (1, (toI v).toNat)) (Sees [20] me) (Sees.drop me (by simp)) (by rw [List.length_map, hl]; decide) (by rw [List.length_map, hl]; decide) (fun j it me1 hj P => by
      rw [List.getElem?_map] at hj
      obtain ⟨x, hx, rfl⟩ := Option.map_eq_some_iff.mp hj
      have P' : Sees [20] me (upd me1 20 (.int ((vl x : Nat) : Int))) := P.upd (by simp)
      refine ⟨_, rfl, P', rfl, fun _ => ?_⟩
      have q1 := (op2_ev (o := oMul) (me_dVar (mh := mh) ((P' 21 (by decide)).trans h21)) (me_dVar lk_self)).trans (mul_str (sg_in ns) (vl_lt x) mh)
      have q2 := op2_ev (o := oAdd) (c_ev (v := .str " ") (me := upd me1 20 (.int ((vl x : Nat) : Int))) (mh := mh)) q1
      rw [show (" " : Str) = txt (bk 1) from s_blank, oAdd_str (by rw [bk_len, mk_len]; have := (vl_lt x).2; lia)] at q2
      exact q2)
  rw [filt_true, List.map_map] at c1
  have e : (ns.map ((fun v => wdM (sg ns) (1, (toI v).toNat)) ∘ fun x => .int ((vl x : Nat) : Int))) = (vsOf ns).map fun v => wdM (sg ns) (1, v) := by
    unfold vsOf
    rw [List.map_map]
    rfl
  rw [e] at c1
  rw [words_is] at h42
  exact tru_bool ((op2_ev (o := oNe) (me_dVar h42) c1).trans (goodW (sg_ok ns).1 (vsOf ns)).ne_self)
theorem c8_ev {ns : List Int} (hl : ns.length = 6) {i dd t pb : Nat} {mh : MH} (h : LexAt 143 mh i dd t pb (txt (textW ns)) (textW ns).length (1 + nls (textW ns))) (hpb : mh[pb]? = some (.list [])) (h1 : pb ≠ dd) (h2 : pb ≠ t)
    {me : ME} (h30 : me.lookup 30 = some (.ref i)) (h12 : me.lookup 12 = some (.ref t)) (h11 : me.lookup 11 = some (.str (txt (textW ns)))) : ∃ mh', dC8 me mh = some (false, mh') := by
  have hT := textW_len hl
  obtain ⟨_, cs, e⟩ := get_token_ev (rc := 126) (l := []) (tok := []) (l' := []) h (by lia) (textW_ok ns) List.nil_suffix hpb .eof
  have hz : (1 : Int) + nls (textW ns) + nls [] - nls [] = 1 + nls (textW ns) := by lia
  rw [hz, show (textW ns).length - ([] : List Nat).length = (textW ns).length from rfl, h.same] at e
  have h' := h.app [.citer 126 cs]
  refine ⟨mh ++ [.citer 126 cs], ?_⟩
  have t1 := (meth_gt (rc := 126) h h30).trans e
  have t2 : dOp2 oItem (dVar 12) (dC (.int 0)) me (mh ++ [.citer 126 cs]) = some (.int ((textW ns).length : Int), mh ++ [.citer 126 cs]) :=
    (op2_ev (me_dVar h12) c_ev).trans (item_ref (k := 0) (vs := [.int ((textW ns).length : Int)]) h'.at_ rfl (by simp))
  have t3 : dOp1 (oAttr 143 "lineno") (dVar 30) me (mh ++ [.citer 126 cs]) = some (.int (1 + nls (textW ns)), mh ++ [.citer 126 cs]) := by
    simp only [dOp1, dVar, h30]
    exact attr_ev h' lexA_lineno
  have t4 := tup_ev (l1 t1 (l1 t2 (l1 t3 l0))) (by simp)
  have s1 : dC (.str ("" : Str)) me (mh ++ [.citer 126 cs]) = some (.str (txt []), mh ++ [.citer 126 cs]) := by rw [s_nil]; rfl
  have s2 := (call_ev (den := fLen) (l1 (me_dVar (mh := mh ++ [.citer 126 cs]) h11) l0)).trans (fLen_str (by lia))
  have s3 : dBMeth selStr fCount (dVar 11) (dL1 (dC (.str "\n")) dL0) me (mh ++ [.citer 126 cs]) = some (.int (nls (textW ns)), mh ++ [.citer 126 cs]) := (bmeth_str (me_dVar h11) (l1 c_ev l0)).trans count_ev
  have s4 := (op2_ev (o := oAdd) (c_ev (v := .int 1)) s3).trans (show oAdd (.int 1) (.int (nls (textW ns))) (mh ++ [.citer 126 cs]) = some (.int (1 + nls (textW ns)), mh ++ [.citer 126 cs]) from rfl)
  have s5 := tup_ev (l1 s1 (l1 s2 (l1 s4 l0))) (by simp)
  have g : Good (.tup [.str (txt []), .int ((textW ns).length : Int), .int (1 + nls (textW ns))]) (.tuple [.str (txt []), .int ((textW ns).length : Int), .int (1 + nls (textW ns))]) 1 := .tup (.cons (.str (by simp)) (.cons .int (.cons .int .nil)))
  exact tru_bool ((op2_ev (o := oNe) t4 s5).trans g.ne_self)
theorem tells_text (ns : List Int) : Tells (sg ns) (textW ns) ((vsOf ns).map fun v => (1, v)) := by
  have key : ∀ (σ : Nat) (l : List Int), Tells σ (((l.map fun x => (wr σ (vl x) (mn x), 32 :: List.replicate (vl x) σ)).map (·.1)).flatten) ((l.map vl).map fun v => (1, v)) := by
    intro σ l
    induction l with
    | nil => exact .nil
    | cons x r ih => exact .cons (b := (1, vl x)) (fun y => wr_lex σ (vl x) (mn x) y) ih
  exact key (sg ns) ns
theorem law_front (sc : List Int) (hl : sc.length ≤ 63) {rest : DS} : ∃ ns : List Int, ns.length = 6 ∧ ∃ (me : ME) (mh : MH), me.lookup 42 = some (wordsB (sg ns) (vsOf ns)) ∧ me.lookup 35 = some (valM (vsOf ns)) ∧ me.lookup 11 = some (.str (txt (textW ns))) ∧
    (dSeq (dAsg 19 (dCall (dFn [17] F_law_numbers) (dL1 (dVar 17) dL0))) (dSeq (dAsg 35 dVals) (dSeq (dAsg 21 dSign) (dSeq (dAsg 11 dText) (dSeq (dAsg 12 (dLstM (dL1 (dC (.int 0)) dL0))) (dSeq (dAsg 30 (dCall (fLexer (fMakeP 143 (dFn [0, 6] (F_ninit 143)))) (dL1 (dVar 11) (dL1 (dVar 12) dL0)))) (dSeq (dAsg 42 dWords) (dSeq (dIf dC7 dFail dNil) (dSeq (dIf dC8 dFail dNil) rest))))))))) [(17, .lst (sc.map .int))] [] = rest me mh := by
  obtain ⟨ns, h6, en⟩ := numbers_ev sc hl
  refine ⟨ns, h6, ?_⟩
  have a0 := (call_ev (den := dFn [17] F_law_numbers) (l1 (me_dVar (me := [(17, .lst (sc.map .int))]) (mh := []) (x := 17) rfl) l0)).trans en
  have a1 := vals_ev h6 (me := [(17, .lst (sc.map .int)), (19, .ref 0)]) (mh := [.list (ns.map .int)]) rfl rfl
  have a2 := sign_ev (ns := ns) (me := [(17, .lst (sc.map .int)), (19, .ref 0), (35, valsM ns)]) (mh := [.list (ns.map .int)]) rfl rfl
  have a3 := text_ev h6 (me := [(17, .lst (sc.map .int)), (19, .ref 0), (35, valsM ns), (21, .str (txt [sg ns]))]) (mh := [.list (ns.map .int)]) rfl rfl rfl rfl
  have a4 : dLstM (dL1 (dC (.int 0)) dL0) [(17, .lst (sc.map .int)), (19, .ref 0), (35, valsM ns), (21, .str (txt [sg ns])), (11, .str (txt (textW ns)))] [.list (ns.map .int)] = some (.ref 1, [.list (ns.map .int), .list [.int 0]]) := rfl
  have a5 : dCall (fLexer (fMakeP 143 (dFn [0, 6] (F_ninit 143)))) (dL1 (dVar 11) (dL1 (dVar 12) dL0)) [(17, .lst (sc.map .int)), (19, .ref 0), (35, valsM ns), (21, .str (txt [sg ns])), (11, .str (txt (textW ns))), (12, .ref 1)] [.list (ns.map .int), .list [.int 0]] = some (.ref 3, [.list (ns.map .int), .list [.int 0], .attrs (lexA (txt (textW ns)) 1 4 1), .inst 143 2 none, .list []]) :=
    (call_ev (l1 (me_dVar rfl) (l1 (me_dVar rfl) l0))).trans lexer_ev
  have L0 : LexAt 143 [.list (ns.map .int), .list [.int 0], .attrs (lexA (txt (textW ns)) 1 4 1), .inst 143 2 none, .list []] 3 2 1 4 (txt (textW ns)) 0 1 := ⟨rfl, rfl, rfl, by decide, by decide, by decide⟩
  obtain ⟨css, hc, a6⟩ := words_ev h6 L0 (by decide) (by decide) rfl (me := [(17, .lst (sc.map .int)), (19, .ref 0), (35, valsM ns), (21, .str (txt [sg ns])), (11, .str (txt (textW ns))), (12, .ref 1), (30, .ref 3)]) rfl
  have L1 := ((L0.set (textW ns).length (1 + nls (textW ns))).app (css.map (MO.citer 126)))
  have a7 := c7_ev h6 (me := [(17, .lst (sc.map .int)), (19, .ref 0), (35, valsM ns), (21, .str (txt [sg ns])), (11, .str (txt (textW ns))), (12, .ref 1), (30, .ref 3), (42, wordsM ns)]) (mh := lexSet [.list (ns.map .int), .list [.int 0], .attrs (lexA (txt (textW ns)) 1 4 1), .inst 143 2 none, .list []] 2 1 4 (txt (textW ns)) (textW ns).length (1 + nls (textW ns)) ++ css.map (MO.citer 126)) rfl rfl rfl
  obtain ⟨mh', a8⟩ := c8_ev h6 L1 rfl (by decide) (by decide) (me := [(17, .lst (sc.map .int)), (19, .ref 0), (35, valsM ns), (21, .str (txt [sg ns])), (11, .str (txt (textW ns))), (12, .ref 1), (30, .ref 3), (42, wordsM ns)]) rfl rfl rfl
  refine ⟨[(17, .lst (sc.map .int)), (19, .ref 0), (35, valsM ns), (21, .str (txt [sg ns])), (11, .str (txt (textW ns))), (12, .ref 1), (30, .ref 3), (42, wordsM ns)], mh', by rw [← words_is]; rfl, by rw [← vals_is]; rfl, rfl, ?_⟩
  rw [seq_asg a0, show upd [(17, MV.lst (sc.map .int))] 19 (.ref 0) = [(17, .lst (sc.map .int)), (19, .ref 0)] from rfl, seq_asg a1]
  rw [show upd [(17, MV.lst (sc.map .int)), (19, .ref 0)] 35 (valsM ns) = [(17, .lst (sc.map .int)), (19, .ref 0), (35, valsM ns)] from rfl, seq_asg a2]
  rw [show upd [(17, MV.lst (sc.map .int)), (19, .ref 0), (35, valsM ns)] 21 (.str (txt [sg ns])) = [(17, .lst (sc.map .int)), (19, .ref 0), (35, valsM ns), (21, .str (txt [sg ns]))] from rfl, seq_asg a3]
  rw [show upd [(17, MV.lst (sc.map .int)), (19, .ref 0), (35, valsM ns), (21, .str (txt [sg ns]))] 11 (.str (txt (textW ns))) = [(17, .lst (sc.map .int)), (19, .ref 0), (35, valsM ns), (21, .str (txt [sg ns])), (11, .str (txt (textW ns)))] from rfl, seq_asg a4]
  rw [show upd [(17, MV.lst (sc.map .int)), (19, .ref 0), (35, valsM ns), (21, .str (txt [sg ns])), (11, .str (txt (textW ns)))] 12 (.ref 1) = [(17, .lst (sc.map .int)), (19, .ref 0), (35, valsM ns), (21, .str (txt [sg ns])), (11, .str (txt (textW ns))), (12, .ref 1)] from rfl, seq_asg a5]
  rw [show upd [(17, MV.lst (sc.map .int)), (19, .ref 0), (35, valsM ns), (21, .str (txt [sg ns])), (11, .str (txt (textW ns))), (12, .ref 1)] 30 (.ref 3) = [(17, .lst (sc.map .int)), (19, .ref 0), (35, valsM ns), (21, .str (txt [sg ns])), (11, .str (txt (textW ns))), (12, .ref 1), (30, .ref 3)] from rfl, seq_asg a6]
  rw [show upd [(17, MV.lst (sc.map .int)), (19, .ref 0), (35, valsM ns), (21, .str (txt [sg ns])), (11, .str (txt (textW ns))), (12, .ref 1), (30, .ref 3)] 42 (wordsM ns) = [(17, .lst (sc.map .int)), (19, .ref 0), (35, valsM ns), (21, .str (txt [sg ns])), (11, .str (txt (textW ns))), (12, .ref 1), (30, .ref 3), (42, wordsM ns)] from rfl, seq_if_f (g := dNil) a7, seq_if_f (g := dNil) a8]
end Mine

namespace Mine

theorem Line.get {σ : Nat} {mh : MH} {i : Nat} {own : List Nat} {rem : List B} (h : Line σ mh i own rem) (hl : rem.length < 1000) :
    ∃ mh', dFn [0] (F_get_token 143 126) [.ref i] mh = some (tokB σ rem, mh') ∧ Line σ mh' i own rem.tail ∧ Kp own mh mh' := by
  obtain ⟨dd, t, pb, rfl, h1, h2, h3, h4, h5⟩ := h.ex
  cases rem with
  | nil =>
    obtain ⟨_, cs, e⟩ := get_token_ev (rc := 126) (l0 := []) (l := []) (tok := []) (l' := []) h1 (by decide) (by simp) (List.suffix_refl _) h2 .eof
    have hz : (1 : Int) + nls [] - nls [] = 1 := by lia
    rw [hz, show ([] : List Nat).length - ([] : List Nat).length = 0 from rfl, h1.same] at e
    refine ⟨_, e, ⟨dd, t, pb, rfl, h1.app _, ?_, h3, h4, h5⟩, Kp.app _ _ _⟩
    rw [List.getElem?_append_left (mh_lt h2)]; exact h2
  | cons b r =>
    have e := get_token_pb (rc := 126) h1 h2 (by rw [List.length_map]; have : r.length + 1 < 1000 := hl; lia)
    refine ⟨_, e, ⟨dd, t, pb, rfl, set_ne4 h1 h3 h4 h5, ?_, h3, h4, h5⟩, Kp.set (by simp)⟩
    rw [List.getElem?_set_self (mh_lt h2)]; rfl
noncomputable def dG31 : D := (dMeth 143 "get_token" (dFn [0] (F_get_token 143 126)) (dVar 31) dL0)
noncomputable def dBl : D := (dCall (dFn [25] F_law_block) (dL1 dG31 dL0))
theorem g31_ev {σ : Nat} {mh : MH} {ln : Nat} {own : List Nat} {rem : List B} (h : Line σ mh ln own rem) (hl : rem.length < 1000) {me : ME} (h31 : me.lookup 31 = some (.ref ln)) : ∃ mh', dG31 me mh = some (tokB σ rem, mh') ∧ Line σ mh' ln own rem.tail ∧ Kp own mh mh' := by
  obtain ⟨mh', e, l, k⟩ := h.get hl
  obtain ⟨dd, t, pb, _, la, _⟩ := h.ex
  exact ⟨mh', (meth_gt (rc := 126) la h31).trans e, l, k⟩
theorem blocks_loop {σ : Nat} (h32 : σ ≠ 32) {ln m : Nat} {oL : List Nat} : ∀ (rem : List B) (n j : Nat) (acc : List MV) (me : ME) (mh : MH), rem.length < n → j + rem.length = m → acc.length + rem.length ≤ 900 → (∀ b ∈ rem, b.1 ≤ 100 ∧ b.2 ≤ 100) → Line σ mh ln oL rem → me.lookup 31 = some (.ref ln) →
    ∃ me' mh', dCompLoop (tgV 18) dBt (aEmit dBl) (.rng 0 (m : Int)) n j acc me mh = some (acc ++ rem.map (blM σ), me', mh') ∧ Line σ mh' ln oL [] ∧ Kp oL mh mh'
  | [], n, j, acc, me, mh, hn, hj, hl, hb, L, h31 => by
    cases n with
    | zero => exact absurd hn (Nat.not_lt_zero _)
    | succ n =>
      have hjm : j = m := hj
      refine ⟨me, mh, ?_, L, Kp.refl _ _⟩
      simp only [dCompLoop, rng_out (show ¬ j < m by lia), List.map_nil, List.append_nil]
  | b :: r, n, j, acc, me, mh, hn, hj, hl, hb, L, h31 => by
    cases n with
    | zero => exact absurd hn (Nat.not_lt_zero _)
    | succ n =>
      simp only [List.length_cons] at hn hj hl
      have h31' : (upd me 18 (.int (j : Int))).lookup 31 = some (.ref ln) := (lk_ne (by decide)).trans h31
      obtain ⟨mh2, e, L2, k2⟩ := g31_ev L (by show r.length + 1 < 1000; lia) h31'
      obtain ⟨b1, b2⟩ := hb b (List.mem_cons_self ..)
      have e2 : dBl (upd me 18 (.int (j : Int))) mh = some (blM σ b, mh2) := (call_ev (l1 e l0)).trans (block_ev h32 b1 b2 mh2)
      obtain ⟨me', mh', e3, L3, k3⟩ := blocks_loop h32 (m := m) r n (j + 1) (acc ++ [blM σ b]) (upd me 18 (.int (j : Int))) mh2 (by lia) (by lia) (by rw [List.length_append]; show acc.length + 1 + r.length ≤ 900; lia) (fun x hx => hb x (List.mem_cons_of_mem _ hx)) L2 h31'
      refine ⟨me', mh', ?_, L3, k2.trans k3⟩
      have hA : acc.length ≤ 100000 := by lia
      simp only [dCompLoop, rng_in (show j < m by lia), tgV, dBt, aEmit, e2, hA, if_true]
      rw [e3, List.append_assoc]
      rfl
structure PileS (σ : Nat) (mh : MH) (i dd : Nat) (P : List B) : Prop where
  at_i : mh[i]? = some (.inst 101 dd (some (P.map (blM σ))))
  at_d : mh[dd]? = some (.attrs accA)
theorem PileS.kp {σ : Nat} {mh mh' : MH} {i dd : Nat} {P : List B} {own : List Nat} (h : PileS σ mh i dd P) (k : Kp own mh mh') (h1 : i ∉ own) (h2 : dd ∉ own) : PileS σ mh' i dd P := ⟨k.at h.at_i h1, k.at h.at_d h2⟩
theorem count_p {σ : Nat} {mh : MH} {i dd : Nat} {P : List B} (h : PileS σ mh i dd P) (hl : P.length ≤ 100) {me : ME} (h27 : me.lookup 27 = some (.ref i)) : dMeth 101 "part_count" (fPartCount 101) (dVar 27) dL0 me mh = some (.int ((P.length : Nat) : Int), mh) := by
  refine (meth_acc h.at_i h.at_d accA_pc h27 l0).trans ?_
  have h2 : P.length ≤ 100000 := Nat.le_trans hl (by decide)
  simp only [fPartCount, h.at_i, true_and, List.length_map, h2, if_true]
theorem comp_of {own : List Nat} {c0 : Option Addr} {N : Nat} {it : D} {tg : Tg} {cond : DB} {act : DA} {me me' : ME} {mh0 mh mh' : MH} {v : MV} {k : ItK} {l : List MV} (h1 : it me mh0 = some (v, mh)) (h2 : itOf c0 v mh = some k) (h3 : dCompLoop tg cond act k N 0 [] (dropV own me) mh = some (l, me', mh')) :
    dComp own c0 N it tg cond act me mh0 = some (.lst l, mh') := by
  simp only [dComp, h1, h2, h3]
theorem dBlocks_eq : dBlocks = dComp [18] none 100 (dCall fRange (dL1 (dMeth 101 "part_count" (fPartCount 101) (dVar 27) dL0) dL0)) (tgV 18) dBt (aEmit dBl) := rfl
theorem blocks_ev {σ : Nat} (h32 : σ ≠ 32) {mh : MH} {i dd ln : Nat} {oL : List Nat} {P : List B} (h : PileS σ mh i dd P) (L : Line σ mh ln oL P) (hl : P.length ≤ 50) (hb : ∀ b ∈ P, b.1 ≤ 100 ∧ b.2 ≤ 100) {me : ME} (h27 : me.lookup 27 = some (.ref i)) (h31 : me.lookup 31 = some (.ref ln)) :
    ∃ mh', dBlocks me mh = some (.lst (P.map (blM σ)), mh') ∧ Line σ mh' ln oL [] ∧ Kp oL mh mh' := by
  obtain ⟨me', mh', e, L2, k2⟩ := blocks_loop (m := P.length) h32 P 100 0 [] (dropV [18] me) mh (by lia) (by lia) (by show 0 + P.length ≤ 900; lia) hb L (by rw [lookup_dropV' (by decide)]; exact h31)
  refine ⟨mh', ?_, L2, k2⟩
  have hi : dCall fRange (dL1 (dMeth 101 "part_count" (fPartCount 101) (dVar 27) dL0) dL0) me mh = some (.rng 0 ((P.length : Nat) : Int), mh) := (call_ev (l1 (count_p h (by lia) h27) l0)).trans rfl
  have hit : itOf none (.rng 0 ((P.length : Nat) : Int)) mh = some (.rng 0 ((P.length : Nat) : Int)) := it_rng (by lia)
  rw [dBlocks_eq]
  exact comp_of hi hit e
theorem good_bl {σ : Nat} (hσ : σ < 128) (b : B) : Good (blM σ b) (.tuple [.str (txt (bk b.1)), .str (txt (mk σ b.2))]) 1 :=
  .tup (.cons (.str fun c h => by rw [List.eq_of_mem_replicate h]; decide) (.cons (.str fun c h => by rw [List.eq_of_mem_replicate h]; exact hσ) .nil))
theorem good_bls {σ : Nat} (hσ : σ < 128) (P : List B) : Good (.lst (P.map (blM σ))) (.list (P.map fun b => .tuple [.str (txt (bk b.1)), .str (txt (mk σ b.2))])) 2 := .lst (GoodL.map fun b _ => good_bl hσ b)
theorem c13_ev {σ : Nat} (hσ : σ < 128) {mh : MH} {i dd ln : Nat} {oL : List Nat} {P : List B} (h : PileS σ mh i dd P) (L : Line σ mh ln oL []) (h1 : i ∉ oL) (h2 : dd ∉ oL) (hl : P.length ≤ 50) {me : ME} (h27 : me.lookup 27 = some (.ref i)) (h31 : me.lookup 31 = some (.ref ln)) (h32 : me.lookup 32 = some (.bool false)) (h43 : me.lookup 43 = some (.lst (P.map (blM σ)))) :
    ∃ mh', dC13 me mh = some (false, mh') ∧ PileS σ mh' i dd P := by
  obtain ⟨mh', e, _, k⟩ := g31_ev L (by decide) h31
  have h' := h.kp k h1 h2
  refine ⟨mh', ?_, h'⟩
  have t1 : dTru (dVar 32) me mh = some (false, mh) := tru_bool (me_dVar h32)
  have t2 : dTru (dOp2 oNe dG31 (dC (.str ""))) me mh = some (false, mh') := by
    have q := op2_ev (o := oNe) e (c_ev (v := .str "") (me := me) (mh := mh'))
    rw [s_nil] at q
    exact tru_bool (q.trans (Good.ne_self (k := 0) (.str (l := []) (by simp))))
  have w3 := comp_pure (own := [13]) (c0 := some 101) (N := 100) (tg := tgV 13) (cond := dBt) (elt := dVar 13) (me := me) (mh := mh') (mh0 := mh') (it := dVar 27) (me_dVar h27) (k := .list i) (by simp only [itOf, h'.at_i, if_true]) (items := P.map (blM σ)) (fun j => by simp only [nextOf, h'.at_i])
    (fun _ => true) id (fun _ => True) trivial (by rw [List.length_map]; lia) (by rw [List.length_map]; lia) (fun j it me1 hj P => ⟨_, rfl, trivial, rfl, fun _ => me_dVar lk_self⟩)
  rw [filt_true, List.map_id] at w3
  have t3 := tru_bool ((op2_ev (o := oNe) w3 (me_dVar h43)).trans (good_bls hσ P).ne_self)
  exact (or_f t1).trans ((or_f t2).trans ((or_f t3).trans rfl))
end Mine

namespace Mine

noncomputable def rowsB (σ : Nat) (P : List B) : List (List Nat × List Nat) := P.map fun b => (bk b.1, mk σ b.2)
theorem rowsB_is (σ : Nat) (P : List B) : (rowsB σ P).map rowM = P.map (blM σ) := by
  unfold rowsB
  rw [List.map_map]
  rfl
theorem rowsB_len (σ : Nat) (P : List B) : (rowsT (rowsB σ P)).length = tot P := by
  induction P with
  | nil => rfl
  | cons b r ih =>
    rw [tot_cons, ← ih]
    show ((bk b.1 ++ mk σ b.2) ++ rowsT (rowsB σ r)).length = _
    rw [List.length_append, List.length_append, bk_len, mk_len]
theorem rowsB_ok {σ : Nat} (hσ : σ < 128) (P : List B) : ∀ c ∈ rowsT (rowsB σ P), c < 128 := by
  intro c hc
  unfold rowsT rowsB at hc
  obtain ⟨l, hl, hc⟩ := List.mem_flatten.mp hc
  rw [List.map_map] at hl
  obtain ⟨b, _, rfl⟩ := List.mem_map.mp hl
  exact word_ok hσ b c hc
theorem tot_rev (r : List B) : tot r.reverse = tot r := by
  unfold tot
  rw [List.map_reverse, List.sum_reverse]
theorem fold_tot : ∀ (l : List Nat) (r : List B), tot (l.foldl pushR r) = tot r + (l.length + l.sum)
  | [], r => rfl
  | v :: l, r => by
    rw [List.foldl_cons, fold_tot l, pushR_tot, List.length_cons, List.sum_cons]
    lia
theorem join_b {rs : List (List Nat × List Nat)} (hl : rs.length ≤ 50) (hT : (rowsT rs).length ≤ 500) {me : ME} {mh : MH} (h43 : me.lookup 43 = some (.lst (rs.map rowM))) :
    dBMeth selStr fJoin (dC (.str "")) (dL1 (dComp [26, 33] none 100 (dVar 43) (tgT [26, 33]) dBt (aEmit (dOp2 oAdd (dVar 26) (dVar 33)))) dL0) me mh = some (.str (txt (rowsT rs)), mh) := by
  have c1 := comp_pure (own := [26, 33]) (c0 := none) (N := 100) (tg := tgT [26, 33]) (cond := dBt) (elt := dOp2 oAdd (dVar 26) (dVar 33)) (me := me) (mh := mh) (mh0 := mh) (it := dVar 43) (me_dVar h43) (k := .lst (rs.map rowM)) rfl (items := rs.map rowM) (fun j => rfl)
    (fun _ => true) (fun v => match v with | .tup [.str a, .str b] => .str (a ++ b) | _ => .none) (fun _ => True) trivial (by rw [List.length_map]; omega) (by rw [List.length_map]; omega) (fun j it me1 hj P => by
      rw [List.getElem?_map] at hj
      obtain ⟨ab, hab, rfl⟩ := Option.map_eq_some_iff.mp hj
      have hle := row_le (List.mem_of_getElem? hab)
      refine ⟨upd (upd me1 26 (.str (txt ab.1))) 33 (.str (txt ab.2)), rfl, trivial, rfl, fun _ => ?_⟩
      have e := op2_ev (o := oAdd) (me_dVar (mh := mh) (show (upd (upd me1 26 (.str (txt ab.1))) 33 (.str (txt ab.2))).lookup 26 = some (.str (txt ab.1)) by rw [lk_ne (by decide)]; exact lk_self)) (me_dVar lk_self)
      rw [e, oAdd_str (by omega)]
      show _ = some (MV.str (txt ab.1 ++ txt ab.2), mh)
      rw [str_app])
  rw [filt_true] at c1
  have e1 : (rs.map rowM).map (fun v => match v with | .tup [.str a, .str b] => MV.str (a ++ b) | _ => .none) = (rs.map fun ab => ab.1 ++ ab.2).map fun l => .str (txt l) := by
    rw [List.map_map, List.map_map]
    apply List.map_congr_left
    intro ab _
    show MV.str (txt ab.1 ++ txt ab.2) = .str (txt (ab.1 ++ ab.2))
    rw [str_app]
  rw [e1] at c1
  have e2 := l1 c1 (l0 (me := me))
  have e3 : selStr (.str ("" : Str)) mh = true := rfl
  have e4 := join_ev (ls := rs.map fun ab => ab.1 ++ ab.2) (mh := mh) (by have : (rs.map fun ab => ab.1 ++ ab.2).flatten = rowsT rs := rfl; rw [this]; omega)
  simp only [dBMeth, dC, e3, if_true, e2, e4]
  rfl
theorem c14_ev {σ : Nat} (hσ : σ < 128) {vs : List Nat} {mh : MH} {i dd : Nat} {P : List B} (h : PileS σ mh i dd P) (hl : P.length ≤ 50) (ht : tot P = 6 + vs.sum) (ht2 : tot P ≤ 100) {me : ME} (h27 : me.lookup 27 = some (.ref i)) (h35 : me.lookup 35 = some (valM vs)) (h43 : me.lookup 43 = some (.lst (P.map (blM σ)))) :
    dC14 me mh = some (false, mh) := by
  have hi := h.at_i
  rw [← rowsB_is σ P] at hi h43
  have hrl : (rowsB σ P).length ≤ 50 := by unfold rowsB; rw [List.length_map]; exact hl
  have hrt : (rowsT (rowsB σ P)).length ≤ 100 := by rw [rowsB_len]; exact ht2
  have t1 := (call_ev (den := fStrI 101 (dFn [0] (F_astr 101))) (l1 (me_dVar (mh := mh) h27) l0)).trans (astr_ev hi h.at_d (by lia) (by lia))
  have t2 := join_b hrl (by lia) (mh := mh) h43
  have g : Good (.str (txt (rowsT (rowsB σ P)))) (.str (txt (rowsT (rowsB σ P)))) 0 := .str (rowsB_ok hσ P)
  have q1 := tru_bool ((op2_ev (o := oNe) t1 t2).trans g.ne_self)
  have t3 := (call_ev (den := fLenX 101 (dFn [0] (F_alen 101))) (l1 (me_dVar (mh := mh) h27) l0)).trans (alen_ev hi h.at_d (by lia) (by lia))
  rw [rowsB_len, ht] at t3
  have t4 := (call_ev (den := fSum) (l1 (me_dVar (mh := mh) h35) l0)).trans (fSum_ev vs mh)
  have t5 : dOp2 oAdd (dC (.int 6)) (dCall fSum (dL1 (dVar 35) dL0)) me mh = some (.int ((6 + vs.sum : Nat) : Int), mh) := by
    refine (op2_ev c_ev t4).trans ?_
    show some (MV.int (6 + ((vs.sum : Nat) : Int)), mh) = _
    rw [Int.natCast_add]
    rfl
  have q2 := tru_bool ((op2_ev (o := oNe) t3 t5).trans (Good.ne_self (k := 0) .int))
  exact (or_f q1).trans ((or_f q2).trans rfl)
theorem rises_at : ∀ {P : List B}, risesAll P = true → ∀ (k : Nat) (x y : B), P[k]? = some x → P[k + 1]? = some y → risesB x y = true
  | [], _, k, x, y, h, _ => by simp at h
  | [a], _, k, x, y, _, h => by simp at h
  | a :: b :: r, h, 0, x, y, h1, h2 => by
    unfold risesAll at h
    rw [Bool.and_eq_true] at h
    have e1 : a = x := by simpa using h1
    have e2 : b = y := by simpa using h2
    rw [← e1, ← e2]
    exact h.1
  | a :: b :: r, h, k + 1, x, y, h1, h2 => by
    unfold risesAll at h
    rw [Bool.and_eq_true] at h
    exact rises_at h.2 k x y (by simpa using h1) (by simpa using h2)
theorem not_ev {c : DB} {me : ME} {mh mh1 : MH} {b : Bool} (h : c me mh = some (b, mh1)) : dNot c me mh = some (!b, mh1) := by simp only [dNot, h]
theorem c15_ev {σ : Nat} {mh : MH} {P : List B} (hl : P.length ≤ 50) (hne : P ≠ []) (hb : ∀ b ∈ P, b.1 ≤ 100 ∧ b.2 ≤ 100) (hr : risesAll P = true) {me : ME} (h43 : me.lookup 43 = some (.lst (P.map (blM σ)))) : dC15 me mh = some (false, mh) := by
  have hlen : P.length = 1 + (P.length - 1) := by
    have : P.length ≠ 0 := fun e => hne (List.length_eq_zero_iff.mp e)
    lia
  have t1 : dCall fLen (dL1 (dVar 43) dL0) me mh = some (.int ((P.length : Nat) : Int), mh) := by
    refine (call_ev (l1 (me_dVar h43) l0)).trans ?_
    rw [fLen_lst (by rw [List.length_map]; lia), List.length_map]
  have t2 : dCall fRange (dL1 (dC (.int 1)) (dL1 (dCall fLen (dL1 (dVar 43) dL0)) dL0)) me mh = some (.rng ((1 : Nat) : Int) ((1 + (P.length - 1) : Nat) : Int), mh) := by
    rw [← hlen]
    exact (call_ev (l1 (c_ev (v := .int 1)) (l1 t1 l0))).trans rfl
  have c1 := comp_pure (own := [18]) (c0 := none) (N := 100) (tg := tgV 18) (cond := (dNot (dTru (dCall (dFn [23, 24] F_law_rises) (dL1 (dOp2 oItem (dVar 43) (dOp2 oSub (dVar 18) (dC (.int 1)))) (dL1 (dOp2 oItem (dVar 43) (dVar 18)) dL0)))))) (elt := dVar 18) (me := me) (mh := mh) (mh0 := mh) t2 (k := .rng ((1 : Nat) : Int) ((1 + (P.length - 1) : Nat) : Int)) (it_rng (by lia)) (items := (List.range (P.length - 1)).map fun t => MV.int ((1 + t : Nat) : Int)) (fun j => nx_rng2 j)
    (fun _ => false) id (Sees [18] me) (Sees.drop me (by simp)) (by rw [List.length_map, List.length_range]; lia) (by rw [List.length_map, List.length_range]; lia) (fun j it me1 hj S => by
      have hj' : j < P.length - 1 := by have := (List.getElem?_eq_some_iff.mp hj).1; rw [List.length_map, List.length_range] at this; exact this
      rw [List.getElem?_map, List.getElem?_range hj'] at hj
      have hit : it = .int ((1 + j : Nat) : Int) := by cases hj; rfl
      subst hit
      have S' : Sees [18] me (upd me1 18 (.int ((1 + j : Nat) : Int))) := S.upd (by simp)
      refine ⟨_, rfl, S', ?_, fun h => by cases h⟩
      obtain ⟨x, hx⟩ : ∃ x, P[j]? = some x := ⟨_, List.getElem?_eq_getElem (by lia)⟩
      obtain ⟨y, hy⟩ : ∃ y, P[j + 1]? = some y := ⟨_, List.getElem?_eq_getElem (by lia)⟩
      have k43 := me_dVar (mh := mh) ((S' 43 (by decide)).trans h43)
      have q0 : dOp2 oSub (dVar 18) (dC (.int 1)) (upd me1 18 (.int ((1 + j : Nat) : Int))) mh = some (.int (j : Int), mh) := by
        refine (op2_ev (me_dVar lk_self) c_ev).trans ?_
        show some (MV.int (((1 + j : Nat) : Int) - 1), mh) = _
        congr 3
        lia
      have q1 : dOp2 oItem (dVar 43) (dOp2 oSub (dVar 18) (dC (.int 1))) (upd me1 18 (.int ((1 + j : Nat) : Int))) mh = some (blM σ x, mh) :=
        (op2_ev k43 q0).trans (item_lst (by rw [List.getElem?_map, hx]; rfl) (by rw [List.length_map]; lia))
      have q2 : dOp2 oItem (dVar 43) (dVar 18) (upd me1 18 (.int ((1 + j : Nat) : Int))) mh = some (blM σ y, mh) :=
        (op2_ev k43 (me_dVar lk_self)).trans (item_lst (by rw [List.getElem?_map, Nat.add_comm, hy]; rfl) (by rw [List.length_map]; lia))
      obtain ⟨x1, x2⟩ := hb x (List.mem_of_getElem? hx)
      obtain ⟨y1, y2⟩ := hb y (List.mem_of_getElem? hy)
      have q3 := tru_bool ((call_ev (l1 q1 (l1 q2 l0))).trans (rises_ev (σ := σ) (by lia) (by lia) (by lia) (by lia) mh))
      rw [rises_at hr j x y hx hy] at q3
      exact not_ev q3)
  have hf : ((List.range (P.length - 1)).map fun t => MV.int ((1 + t : Nat) : Int)).filter (fun _ => false) = [] := List.filter_eq_nil_iff.mpr (by simp)
  rw [hf] at c1
  have e : dLst dL0 me mh = some (.lst [], mh) := rfl
  exact tru_bool ((op2_ev (o := oNe) c1 e).trans (Good.ne_self (.lst (k := 0) .nil)))
end Mine

namespace Mine

theorem nx_str {l : List Nat} {mh : MH} (j : Nat) : nextOf (.str (txt l)) mh j = some ((l.map fun c => MV.str (ch1 c))[j]?) := by
  rw [List.getElem?_map]
  have h : (txt l).cps[j]? = l[j]? := by simp [txt]
  simp only [nextOf, h]
  cases l[j]? <;> rfl
theorem it_str {l : List Nat} (h : ∀ c ∈ l, c < 128) (mh : MH) : itOf none (.str (txt l)) mh = some (.str (txt l)) := by
  have : (txt l).cps.all (· < 128) = true := by
    simp only [txt, List.all_toArray, List.all_eq_true]
    intro c hc
    exact decide_eq_true (h c hc)
  simp only [itOf, this, if_true]
theorem inner_w {σ : Nat} {b : B} (h1 : b.1 ≤ 50) {me : ME} {mh : MH} (h45 : me.lookup 45 = some (blM σ b)) : ∀ (n j : Nat) (acc : List MV) (me : ME), b.1 - j < n → j ≤ b.1 → acc.length + b.1 ≤ 500 + j → me.lookup 45 = some (blM σ b) →
    ∃ me', me'.lookup 45 = some (blM σ b) ∧ me'.lookup 45 = me'.lookup 45 ∧ dCompLoop (tgV 46) dBt (aEmit (dVar 45)) (.str (txt (bk b.1))) n j acc me mh = some (acc ++ List.replicate (b.1 - j) (blM σ b), me', mh) := by
  intro n
  induction n with
  | zero => intro j acc me h; exact absurd h (Nat.not_lt_zero _)
  | succ n ih =>
    intro j acc me hn hj ha h
    have hx := nx_str (l := bk b.1) (mh := mh) j
    have hlen : ((bk b.1).map fun c => MV.str (ch1 c)).length = b.1 := by rw [List.length_map, bk_len]
    by_cases hj' : j < b.1
    · have e1 : ((bk b.1).map fun c => MV.str (ch1 c))[j]? = some (((bk b.1).map fun c => MV.str (ch1 c))[j]'(by rw [hlen]; exact hj')) := List.getElem?_eq_getElem _
      rw [e1] at hx
      generalize ((bk b.1).map fun c => MV.str (ch1 c))[j]'(by rw [hlen]; exact hj') = v at hx
      have h' : (upd me 46 v).lookup 45 = some (blM σ b) := (lk_ne (by decide)).trans h
      obtain ⟨me', k1, k2, e⟩ := ih (j + 1) (acc ++ [blM σ b]) (upd me 46 v) (by lia) hj' (by rw [List.length_append]; show acc.length + 1 + b.1 ≤ 500 + (j + 1); lia) h'
      refine ⟨me', k1, k2, ?_⟩
      have hA : acc.length ≤ 100000 := by lia
      have v45 : dVar 45 (upd me 46 v) mh = some (blM σ b, mh) := me_dVar h'
      simp only [dCompLoop, hx, tgV, dBt, aEmit, v45, hA, if_true]
      rw [e, List.append_assoc, show b.1 - j = (b.1 - (j + 1)) + 1 by lia, List.replicate_succ]
      rfl
    · have e1 : ((bk b.1).map fun c => MV.str (ch1 c))[j]? = none := List.getElem?_eq_none (by rw [hlen]; lia)
      rw [e1] at hx
      refine ⟨me, h, rfl, ?_⟩
      simp only [dCompLoop, hx]
      rw [show b.1 - j = 0 by lia, List.replicate_zero, List.append_nil]
noncomputable def actW : DA := (aLoop none 100 (dOp2 oItem (dVar 45) (dC (.int 0))) (tgV 46) dBt (aEmit (dVar 45)))
theorem actW_ev {σ : Nat} {b : B} (h1 : b.1 ≤ 50) {me : ME} {mh : MH} {acc : List MV} (ha : acc.length ≤ 400) (h45 : me.lookup 45 = some (blM σ b)) : ∃ me', actW acc me mh = some (acc ++ List.replicate b.1 (blM σ b), me', mh) := by
  obtain ⟨me', _, _, e⟩ := inner_w (σ := σ) h1 (mh := mh) h45 100 0 acc me (by lia) (Nat.zero_le _) (by lia) h45
  have t1 := bl_0 (me_dVar (mh := mh) h45)
  have t2 := it_str (l := bk b.1) (fun c h => by rw [List.eq_of_mem_replicate h]; decide) mh
  refine ⟨me', ?_⟩
  unfold actW
  simp only [aLoop, t1, t2]
  exact e
theorem whole_loop {σ : Nat} {mh : MH} {P : List B} : ∀ (r : List B) (n j : Nat) (acc : List MV) (me : ME), r.length < n → P.drop j = r → (∀ b ∈ r, b.1 ≤ 50) → acc.length + (wholeP r).length ≤ 400 →
    ∃ me', dCompLoop (tgV 45) dBt actW (.lst (P.map (blM σ))) n j acc me mh = some (acc ++ (wholeP r).map (blM σ), me', mh)
  | [], n, j, acc, me, hn, hd, hb, ha => by
    cases n with
    | zero => exact absurd hn (Nat.not_lt_zero _)
    | succ n =>
      have hx : (P.map (blM σ))[j]? = none := by
        rw [List.getElem?_map, List.getElem?_eq_none (List.drop_eq_nil_iff.mp hd)]; rfl
      refine ⟨me, ?_⟩
      have e : nextOf (.lst (P.map (blM σ))) mh j = some none := by simp only [nextOf, hx]
      simp only [dCompLoop, e]
      show _ = some (acc ++ [], me, mh)
      rw [List.append_nil]
  | b :: r, n, j, acc, me, hn, hd, hb, ha => by
    cases n with
    | zero => exact absurd hn (Nat.not_lt_zero _)
    | succ n =>
      have hg : P[j]? = some b := by
        have : (P.drop j)[0]? = some b := by rw [hd]; rfl
        simpa using this
      have hd' : P.drop (j + 1) = r := by
        have : (P.drop j).drop 1 = r := by rw [hd]; rfl
        rw [List.drop_drop] at this
        exact this
      have e : nextOf (.lst (P.map (blM σ))) mh j = some (some (blM σ b)) := by simp only [nextOf, List.getElem?_map, hg]; rfl
      have ew : wholeP (b :: r) = List.replicate b.1 b ++ wholeP r := by unfold wholeP; rw [List.map_cons, List.flatten_cons]
      rw [ew, List.length_append, List.length_replicate] at ha
      obtain ⟨me2, e2⟩ := actW_ev (σ := σ) (hb b (List.mem_cons_self ..)) (me := upd me 45 (blM σ b)) (mh := mh) (acc := acc) (by lia) lk_self
      obtain ⟨me', e3⟩ := whole_loop r n (j + 1) (acc ++ List.replicate b.1 (blM σ b)) me2 (by have : r.length + 1 < n + 1 := hn; lia) hd' (fun x hx => hb x (List.mem_cons_of_mem _ hx)) (by rw [List.length_append, List.length_replicate]; lia)
      refine ⟨me', ?_⟩
      simp only [dCompLoop, e, tgV, dBt, e2]
      rw [e3, ew, List.map_append, List.map_replicate, List.append_assoc]
theorem dWhole_eq : dWhole = dComp [45, 46] none 100 (dVar 43) (tgV 45) dBt actW := rfl
theorem whole_ev {σ : Nat} {mh : MH} {P : List B} (hl : P.length ≤ 50) (hb : ∀ b ∈ P, b.1 ≤ 50) (hw : (wholeP P).length ≤ 400) {me : ME} (h43 : me.lookup 43 = some (.lst (P.map (blM σ)))) : dWhole me mh = some (.lst ((wholeP P).map (blM σ)), mh) := by
  obtain ⟨me', e⟩ := whole_loop (σ := σ) (mh := mh) (P := P) P 100 0 [] (dropV [45, 46] me) (by lia) rfl hb (by show 0 + (wholeP P).length ≤ 400; lia)
  rw [dWhole_eq]
  exact comp_of (me_dVar h43) rfl e
theorem last_ev {σ : Nat} {vs : List Nat} {mh : MH} {P : List B} (h6 : vs.length = 6) (hs : vs.sum ≤ 100) (hw : (wholeP P).length = 6) (hm : ∀ k, k < 6 → ∃ b a, (wholeP P)[k]? = some b ∧ Supp vs a b ∧ a ≤ k ∧ k < a + b.1) (hb : ∀ (k : Nat) (b : B), (wholeP P)[k]? = some b → b.1 ≤ 100 ∧ b.2 ≤ 100)
    {i : Nat} (hi : mh[i]? = some (.list ((meansP vs).map pM))) {me : ME} (h44 : me.lookup 44 = some (.lst ((wholeP P).map (blM σ)))) (h36 : me.lookup 36 = some (.ref i)) : dLast me mh = some (.bool true, mh) := by
  have t1 : dOp2 oEq (dCall fLen (dL1 (dVar 44) dL0)) (dC (.int 6)) me mh = some (.bool true, mh) := by
    have q : dCall fLen (dL1 (dVar 44) dL0) me mh = some (.int 6, mh) := by
      refine (call_ev (l1 (me_dVar h44) l0)).trans ?_
      rw [fLen_lst (by rw [List.length_map, hw]; decide), List.length_map, hw]
      rfl
    exact (op2_ev q c_ev).trans (Good.eq_self (k := 0) .int)
  have hml : (meansP vs).length = 6 := by unfold meansP; rw [List.length_map, List.length_range]
  have c1 := comp_pure (own := [18]) (c0 := none) (N := 100) (tg := tgV 18) (cond := (dTru (dOp2 oNe (dOp2 oMul (dCall fLen (dL1 (dOp2 oItem (dOp2 oItem (dVar 44) (dVar 18)) (dC (.int 1))) dL0)) (dOp2 oItem (dOp2 oItem (dVar 36) (dVar 18)) (dC (.int 1)))) (dOp2 oMul (dOp2 oItem (dOp2 oItem (dVar 36) (dVar 18)) (dC (.int 0))) (dCall fLen (dL1 (dOp2 oItem (dOp2 oItem (dVar 44) (dVar 18)) (dC (.int 0))) dL0)))))) (elt := dVar 18) (me := me) (mh := mh) (mh0 := mh) (it := dCall fRange (dL1 (dC (.int 6)) dL0)) (v := .rng 0 6) rfl (k := .rng 0 6) (it_rng (by decide)) (items := rngI 6) (fun j => nx_rng (n := 6) j)
    (fun _ => false) id (Sees [18] me) (Sees.drop me (by simp)) (by rw [rngI_len]; decide) (by rw [rngI_len]; decide) (fun j it me1 hj S => by
      obtain ⟨hk, rfl⟩ := rngI_get hj
      have S' : Sees [18] me (upd me1 18 (.int (j : Int))) := S.upd (by simp)
      refine ⟨_, rfl, S', ?_, fun h => by cases h⟩
      obtain ⟨b, a, e1, sp, e3, e4⟩ := hm j hk
      obtain ⟨b1, b2⟩ := hb j b e1
      have k18 := me_dVar (mh := mh) (lk_self (me := me1) (x := 18) (v := .int (j : Int)))
      have q1 : dOp2 oItem (dVar 44) (dVar 18) (upd me1 18 (.int (j : Int))) mh = some (blM σ b, mh) :=
        (op2_ev (me_dVar ((S' 44 (by decide)).trans h44)) k18).trans (item_lst (by rw [List.getElem?_map, e1]; rfl) (by rw [List.length_map, hw]; decide))
      have q2 : dOp2 oItem (dVar 36) (dVar 18) (upd me1 18 (.int (j : Int))) mh = some (pM (mostN vs j (j + 1)), mh) :=
        (op2_ev (me_dVar ((S' 36 (by decide)).trans h36)) k18).trans (item_ref hi (by unfold meansP; rw [List.getElem?_map, List.getElem?_map, List.getElem?_range hk]; rfl) (by rw [List.length_map, hml]; decide))
      have sm := mostN_sm hs (i := j) (by lia) (j + 1)
      have r1 := (call_ev (den := fLen) (l1 (bl_1 q1) l0)).trans (fLen_str (by rw [mk_len]; lia))
      have r2 := (call_ev (den := fLen) (l1 (bl_0 q1) l0)).trans (fLen_str (by rw [bk_len]; lia))
      rw [mk_len] at r1
      rw [bk_len] at r2
      have m1 := (op2_ev (o := oMul) r1 (p_1 q2)).trans (mul_int (by lia))
      have m2 := (op2_ev (o := oMul) (p_0 q2) r2).trans (mul_int (by have := sm.1; lia))
      rw [most_eq h6 sp e3 e4] at m1
      exact tru_bool ((op2_ev (o := oNe) m1 m2).trans (Good.ne_self (k := 0) .int)))
  have hf : (rngI 6).filter (fun _ => false) = [] := List.filter_eq_nil_iff.mpr (by simp)
  rw [hf] at c1
  have t2 : dOp2 oEq (dComp [18] none 100 (dCall fRange (dL1 (dC (.int 6)) dL0)) (tgV 18) (dTru (dOp2 oNe (dOp2 oMul (dCall fLen (dL1 (dOp2 oItem (dOp2 oItem (dVar 44) (dVar 18)) (dC (.int 1))) dL0)) (dOp2 oItem (dOp2 oItem (dVar 36) (dVar 18)) (dC (.int 1)))) (dOp2 oMul (dOp2 oItem (dOp2 oItem (dVar 36) (dVar 18)) (dC (.int 0))) (dCall fLen (dL1 (dOp2 oItem (dOp2 oItem (dVar 44) (dVar 18)) (dC (.int 0))) dL0))))) (aEmit (dVar 18))) (dLst dL0) me mh = some (.bool true, mh) := by
    have e : dLst dL0 me mh = some (.lst [], mh) := rfl
    exact (op2_ev c1 e).trans (Good.eq_self (.lst (k := 0) .nil))
  unfold dLast
  simp only [dBoolAnd, t1]
  exact t2
end Mine

namespace Mine

noncomputable def lexH (T : List Nat) (mh : MH) : MH := mh ++ [.list [.int 0], .attrs (lexA (txt T) mh.length (mh.length + 3) 1), .inst 143 (mh.length + 1) none, .list []]
theorem lexH_ev {T : List Nat} {me : ME} {mh : MH} (h11 : me.lookup 11 = some (.str (txt T))) : dCall (fLexer (fMakeP 143 (dFn [0, 6] (F_ninit 143)))) (dL1 (dVar 11) (dL1 (dLstM (dL1 (dC (.int 0)) dL0)) dL0)) me mh = some (.ref (mh.length + 2), lexH T mh) := by
  have e1 : dLstM (dL1 (dC (.int 0)) dL0) me mh = some (.ref mh.length, mh ++ [.list [.int 0]]) := rfl
  have e2 := (call_ev (den := fLexer (fMakeP 143 (dFn [0, 6] (F_ninit 143)))) (l1 (me_dVar (mh := mh) h11) (l1 e1 l0))).trans (lexer_ev (N := 143) (x := txt T) (t := mh.length) (mh := mh ++ [.list [.int 0]]))
  rw [e2, List.length_append, List.append_assoc]
  rfl
theorem lexH_src {σ : Nat} {T : List Nat} {bs : List B} (mh : MH) (hT : T.length ≤ 900) (hc : ∀ c ∈ T, c < 128) (ht : Tells σ T bs) : Src σ (lexH T mh) (mh.length + 2) [mh.length + 2, mh.length + 1, mh.length, mh.length + 3] bs := by
  have g : ∀ k (o : MO), ([MO.list [.int 0], .attrs (lexA (txt T) mh.length (mh.length + 3) 1), .inst 143 (mh.length + 1) none, .list []] : MH)[k]? = some o → (lexH T mh)[mh.length + k]? = some o := fun k o e => by
    unfold lexH
    rw [List.getElem?_append_right (Nat.le_add_right _ _), Nat.add_sub_cancel_left]
    exact e
  have L : LexAt 143 (lexH T mh) (mh.length + 2) (mh.length + 1) mh.length (mh.length + 3) (txt T) (T.length - T.length) 1 := by
    rw [Nat.sub_self]
    exact ⟨g 2 _ rfl, g 1 _ rfl, g 0 _ rfl, by lia, by lia, by lia⟩
  exact .text rfl L (g 3 _ rfl) (by lia) (by lia) (by lia) hT hc (List.suffix_refl _) ht
theorem sum_le7 : ∀ l : List Nat, (∀ v ∈ l, v < 7) → l.sum ≤ 6 * l.length
  | [], _ => Nat.le_refl _
  | v :: r, h => by
    have h1 := sum_le7 r fun x hx => h x (List.mem_cons_of_mem _ hx)
    have h2 := h v (List.mem_cons_self ..)
    rw [List.sum_cons, List.length_cons]
    lia
theorem tot_ones : ∀ l : List Nat, tot (ones l) = l.length + l.sum
  | [] => rfl
  | v :: r => by
    show tot ((1, v) :: ones r) = _
    rw [tot_cons, tot_ones r, List.length_cons, List.sum_cons]
    show 1 + v + (r.length + r.sum) = _
    lia
theorem law_ev (sc : List Int) (hl : sc.length ≤ 63) : ∃ mh', dFn [17] F_law [.lst (sc.map .int)] [] = some (.bool true, mh') := by
  obtain ⟨ns, n6, me, mh, k42, k35, k11, ef⟩ := law_front sc hl (rest := (dSeq (dAsg 27 (dCall (dFn [42] F_law_pile) (dL1 (dVar 42) dL0))) (dSeq (dAsgT (tgT [31, 32]) (dCall (dFn [30] F_law_round) (dL1 (dCall (fLexer (fMakeP 143 (dFn [0, 6] (F_ninit 143)))) (dL1 (dVar 11) (dL1 (dLstM (dL1 (dC (.int 0)) dL0)) dL0))) dL0))) (dSeq (dFor none 100 (dCall fRange (dL1 (dC (.int 6)) dL0)) (tgV 28) bTurn) (dSeq (dAsg 43 dBlocks) (dSeq (dIf dC13 dFail dNil) (dSeq (dIf dC14 dFail dNil) (dSeq (dIf dC15 dFail dNil)
    (dSeq (dAsg 44 dWhole) (dSeq (dAsg 36 (dCall (dFn [35] F_law_means) (dL1 (dVar 35) dL0))) (dSeq (dRet dLast) dNil)))))))))))
  obtain ⟨hσ, h32⟩ := sg_ok ns
  have v6 : (vsOf ns).length = 6 := by unfold vsOf; rw [List.length_map, n6]
  have vb : ∀ v ∈ vsOf ns, 1 ≤ v ∧ v < 7 := fun v hv => by
    unfold vsOf at hv
    obtain ⟨x, _, rfl⟩ := List.mem_map.mp hv
    exact vl_lt x
  have tl := tells_text ns
  have hT := textW_len n6
  have hc := textW_ok ns
  generalize sg ns = σ at hσ h32 k42 tl
  generalize textW ns = T at k11 tl hT hc
  generalize vsOf ns = vs at v6 vb k42 k35 tl
  have C := chkV_of v6 (chk_all v6 vb)
  have hs := sum_le7 vs fun v hv => (vb v hv).2
  rw [v6] at hs
  have hpt : tot (pileOf vs) = 6 + vs.sum := by
    have := fold_tot vs []
    rw [v6] at this
    unfold pileOf
    rw [this]
    show 0 + _ = _
    lia
  have hPt : tot (pileOf vs).reverse = 6 + vs.sum := (tot_rev _).trans hpt
  have hPl : (pileOf vs).reverse.length ≤ 6 := by rw [List.length_reverse]; exact Nat.le_trans (pileOf_len vs) (Nat.le_of_eq v6)
  have hPb : ∀ b ∈ (pileOf vs).reverse, b.1 ≤ 50 ∧ b.2 ≤ 50 := fun b hb => by
    have := tot_mem hb
    lia
  -- the pile
  have K : PileAt (mh ++ [.attrs accA, .inst 101 mh.length (some [])]) (mh.length + 1) mh.length := by
    refine ⟨?_, ?_, by lia⟩
    · rw [List.length_append]; show mh.length + 1 < mh.length + 2; lia
    · rw [List.getElem?_append_right (Nat.le_refl _), Nat.sub_self]; rfl
  have a9 := (call_ev (den := fun a b => dFn [42] F_law_pile a b) (l1 (me_dVar (mh := mh) k42) l0)).trans (pile_ev (mh0 := mh) (σ := σ) v6 fun v hv => Nat.le_of_lt_succ (vb v hv).2)
  have PS : PileS σ (HP (mh ++ [.attrs accA, .inst 101 mh.length (some [])]) (mh.length + 1) mh.length σ (pileOf vs)) (mh.length + 1) mh.length (pileOf vs).reverse := ⟨pl_i K _, pl_d K _⟩
  have hlen9 : (HP (mh ++ [.attrs accA, .inst 101 mh.length (some [])]) (mh.length + 1) mh.length σ (pileOf vs)).length = mh.length + 2 := by
    unfold HP
    rw [List.length_set, List.length_append]
    rfl
  generalize HP (mh ++ [.attrs accA, .inst 101 mh.length (some [])]) (mh.length + 1) mh.length σ (pileOf vs) = mh9 at a9 PS hlen9
  generalize hi : mh.length + 1 = i at a9 PS
  generalize hd : mh.length = dd at PS
  have i9 : i < mh9.length := by lia
  have d9 : dd < mh9.length := by lia
  -- the first round
  have O0 : OkB (ones vs) := by
    refine ⟨fun e => ?_, by unfold ones; rw [List.length_map, v6]; exact Nat.le_refl _, by rw [tot_ones, v6]; lia, fun b hb => ?_⟩
    · have := congrArg List.length e
      unfold ones at this
      rw [List.length_map, v6] at this
      cases this
    · unfold ones at hb
      obtain ⟨v, _, rfl⟩ := List.mem_map.mp hb
      exact Nat.le_refl 1
  have e10 := lexH_ev (mh := mh9) (me := upd me 27 (.ref i)) ((lk_ne (by decide)).trans k11)
  have S10 : Src σ (lexH T mh9) (mh9.length + 2) [mh9.length + 2, mh9.length + 1, mh9.length, mh9.length + 3] (ones vs) := lexH_src mh9 (by lia) hc tl
  obtain ⟨mh10, ln, oL, r10, L10, kk10, ge10⟩ := round_ev hσ h32 S10 O0
  have a10 : dAsgT (tgT [31, 32]) (dCall (dFn [30] F_law_round) (dL1 (dCall (fLexer (fMakeP 143 (dFn [0, 6] (F_ninit 143)))) (dL1 (dVar 11) (dL1 (dLstM (dL1 (dC (.int 0)) dL0)) dL0))) dL0)) (upd me 27 (.ref i)) mh9 = some (.next, upd (upd (upd me 27 (.ref i)) 31 (.ref ln)) 32 (.bool (rnd (ones vs)).2), mh10) := by
    have b1 := (call_ev (den := dFn [30] F_law_round) (l1 e10 l0)).trans r10
    simp only [dAsgT, b1]
    rfl
  have hlenL : mh9.length ≤ (lexH T mh9).length := (Kp.app [] mh9 _).len
  have St : StT σ mh9.length mh9 (upd me 27 (.ref i)) (upd (upd (upd me 27 (.ref i)) 31 (.ref ln)) 32 (.bool (rnd (ones vs)).2)) mh10 (rnd (ones vs)) := by
    refine ⟨⟨ln, oL, L10, (lk_ne (by decide)).trans lk_self, fun x hx => Nat.le_trans hlenL (ge10 x hx)⟩, O0.rnd, ⟨_, (Kp.app _ mh9 _).trans kk10, fun x hx => ?_⟩, lk_self, ((Sees.refl _ _).upd (by simp)).upd (by simp)⟩
    simp only [List.mem_cons, List.not_mem_nil, or_false] at hx
    lia
  -- the other rounds
  obtain ⟨me11, mh11, e11, S11⟩ := turns hσ h32 (Nat.le_refl mh9.length) 100 0 _ mh10 _ (by decide) (by decide) St
  have hst : itR (6 - 0) (rnd (ones vs)) = ((pileOf vs).reverse, false) := Prod.ext C.same C.stop
  rw [hst] at S11
  have a11 := (for_rng (g := dL1 (dC (.int 6)) dL0) (a := 0) (b := 6) (me := upd (upd (upd me 27 (.ref i)) 31 (.ref ln)) 32 (.bool (rnd (ones vs)).2)) (mh := mh10) rfl (by decide)).trans e11
  obtain ⟨ln2, oL2, L11, k31, b11⟩ := S11.line
  obtain ⟨own, ko, kb⟩ := S11.kp
  have PS11 := PS.kp ko (fun hm => Nat.lt_irrefl _ (Nat.lt_of_lt_of_le i9 (kb _ hm))) (fun hm => Nat.lt_irrefl _ (Nat.lt_of_lt_of_le d9 (kb _ hm)))
  have k27 : me11.lookup 27 = some (.ref i) := (S11.sees 27 (by decide)).trans lk_self
  have k35' : me11.lookup 35 = some (valM vs) := (S11.sees 35 (by decide)).trans ((lk_ne (by decide)).trans k35)
  have iL : i ∉ oL2 := fun hm => Nat.lt_irrefl _ (Nat.lt_of_lt_of_le i9 (b11 _ hm))
  have dL : dd ∉ oL2 := fun hm => Nat.lt_irrefl _ (Nat.lt_of_lt_of_le d9 (b11 _ hm))
  -- the blocks and the comparisons
  obtain ⟨mh12, e12, L12, kk12⟩ := blocks_ev (P := (pileOf vs).reverse) h32 PS11 L11 (by lia) (fun b hb => ⟨Nat.le_trans (hPb b hb).1 (by decide), Nat.le_trans (hPb b hb).2 (by decide)⟩) k27 k31
  have PS12 := PS11.kp kk12 iL dL
  have m43 : (upd me11 43 (.lst ((pileOf vs).reverse.map (blM σ)))).lookup 43 = some (.lst ((pileOf vs).reverse.map (blM σ))) := lk_self
  have m27 : (upd me11 43 (.lst ((pileOf vs).reverse.map (blM σ)))).lookup 27 = some (.ref i) := (lk_ne (by decide)).trans k27
  have m35 : (upd me11 43 (.lst ((pileOf vs).reverse.map (blM σ)))).lookup 35 = some (valM vs) := (lk_ne (by decide)).trans k35'
  obtain ⟨mh13, e13, PS13⟩ := c13_ev hσ PS12 L12 iL dL (by lia) m27 ((lk_ne (by decide)).trans k31) ((lk_ne (by decide)).trans S11.v32) m43
  have e14 := c14_ev hσ PS13 (by lia) hPt (by lia) m27 m35 m43
  have e15 := c15_ev (σ := σ) (mh := mh13) (P := (pileOf vs).reverse) (by lia) S11.ok.ne (fun b hb => ⟨Nat.le_trans (hPb b hb).1 (by decide), Nat.le_trans (hPb b hb).2 (by decide)⟩) C.rises m43
  have e16 := whole_ev (σ := σ) (mh := mh13) (by lia) (fun b hb => (hPb b hb).1) (by rw [C.whole]; decide) m43
  have e17 := (call_ev (den := dFn [35] F_law_means) (l1 (me_dVar (mh := mh13) (me := upd (upd me11 43 (.lst ((pileOf vs).reverse.map (blM σ)))) 44 (.lst ((wholeP (pileOf vs).reverse).map (blM σ)))) (x := 35) ((lk_ne (by decide)).trans m35)) l0)).trans (means_ev v6 (by lia) mh13)
  have hmem : ∀ (k : Nat) (b : B), (wholeP (pileOf vs).reverse)[k]? = some b → b.1 ≤ 100 ∧ b.2 ≤ 100 := fun k b h => by
    have h1 := List.mem_of_getElem? h
    unfold wholeP at h1
    obtain ⟨l, hl1, hl2⟩ := List.mem_flatten.mp h1
    obtain ⟨b', hb', rfl⟩ := List.mem_map.mp hl1
    rw [List.eq_of_mem_replicate hl2]
    exact ⟨Nat.le_trans (hPb b' hb').1 (by decide), Nat.le_trans (hPb b' hb').2 (by decide)⟩
  have e18 := last_ev (σ := σ) (vs := vs) (P := (pileOf vs).reverse) (mh := mh13 ++ [.list ((meansP vs).map pM)]) (i := mh13.length) (me := upd (upd (upd me11 43 (.lst ((pileOf vs).reverse.map (blM σ)))) 44 (.lst ((wholeP (pileOf vs).reverse).map (blM σ)))) 36 (.ref mh13.length)) v6 (by lia) C.whole C.mean hmem
    (by rw [List.getElem?_append_right (Nat.le_refl _), Nat.sub_self]; rfl) ((lk_ne (by decide)).trans lk_self) lk_self
  refine ⟨mh13 ++ [.list ((meansP vs).map pM)], ?_⟩
  have key : F_law [(17, .lst (sc.map .int))] [] = some (.ret (.bool true), upd (upd (upd me11 43 (.lst ((pileOf vs).reverse.map (blM σ)))) 44 (.lst ((wholeP (pileOf vs).reverse).map (blM σ)))) 36 (.ref mh13.length), mh13 ++ [.list ((meansP vs).map pM)]) := by
    rw [law_split]
    refine ef.trans ?_
    rw [seq_asg a9, seq_next a10, seq_next a11, seq_asg e12, seq_if_f (g := dNil) e13, seq_if_f (g := dNil) e14, seq_if_f (g := dNil) e15, seq_asg e16, seq_asg e17]
    exact seq_ret e18
  simp only [dFn, List.length_cons, List.length_nil, if_true, zipE, key]
end Mine

namespace Mine

theorem ints_of {R : WRecords} : ∀ xs : List WData, WShape.hasItems R xs .int = true → ∃ ns : List Int, xs = ns.map .int
  | [], _ => ⟨[], rfl⟩
  | x :: r, h => by
    have h' : WShape.has R x .int = true ∧ WShape.hasItems R r .int = true := Bool.and_eq_true_iff.mp h
    obtain ⟨ns, rfl⟩ := ints_of r h'.2
    cases x <;> first | exact ⟨_ :: ns, rfl⟩ | exact Bool.noConfusion (show false = true from h'.1)
theorem holds_bool {R : WRecords} {t : WTm} {e : WCtx} {b : Bool} (h : t.value R e = some (.bool b)) (h' : t.holds R e = true) : b = true := by
  unfold WTm.holds at h'
  rw [h] at h'
  cases b with
  | true => rfl
  | false => exact h'
theorem law_args {l : OpenLaw} (hm : l.most = some 63) (hb : l.bound = none) {args : List WData} (hpre : l.row.claim.pre args = true) : ∃ ns : List Int, args = [.list (ns.map .int)] ∧ ns.length ≤ 63 := by
  obtain ⟨h1, h2⟩ := pre_splitW hpre
  obtain ⟨d, r, rfl, h3, h4⟩ := hasAllW_cons h1
  have := hasAllW_nil h4
  subst this
  obtain ⟨xs, rfl, h5⟩ := hasW_list h3
  obtain ⟨ns, rfl⟩ := ints_of xs h5
  refine ⟨ns, rfl, ?_⟩
  have h6 : l.pre.holds [] { args := [.list (ns.map .int)] } = true := h2
  unfold OpenLaw.pre at h6
  rw [hm, hb] at h6
  have h7 := (holds_andW h6).1
  have h8 := holds_bool (b := !decide ((63 : Int) < (((ns.map WData.int).length : Nat) : Int))) rfl h7
  rw [List.length_map] at h8
  cases hq : decide (63 < (ns.length : Int)) with
  | true => rw [hq] at h8; cases h8
  | false => have := of_decide_eq_false hq; lia
theorem ints_well {P : Params} {h : Heap} {ρ : Wd} : ∀ (ns : List Int) (vs : List Value), WellAll P h vs (ns.map .int) → VRs ρ (ns.map .int) vs
  | [], vs, w => by cases w; exact .nil
  | n :: r, vs, w => by
    cases w with
    | cons w1 w2 =>
      cases w1
      exact .cons .int' (ints_well r _ w2)
theorem Aok.caller {d : Nat} (hd : d ≤ 50) : Aok d callerA := by
  refine ⟨?_, ?_, rfl⟩
  · show (1 + claimMargin) + 2 * d ≤ 900
    have : claimMargin ≤ 700 := by decide
    lia
  · show 4 + 16 * d ≤ 9000
    lia
theorem law_done {l : OpenLaw} {C : Cx} {den : DF} {d : Nat} {fA : Addr} {s1 : Shared} {cl : Str → Option Addr} {mean : ExcName → Option Value} {args : List WData} {vals : List Value} {E : Value → Shared → Prop}
    (hm : l.most = some 63) (hb : l.bound = none) (ok : C.Ok) (hC : C.base = s1.heap) (hos : C.os = s1.os) (hgens : s1.gens = #[]) (hT : ∀ p ∈ C.T, CodeTab s1.heap p.1 p.2 #[]) (hd : d ≤ 50) (hr : RF C d fA den)
    (hev : ∀ sc : List Int, sc.length ≤ 63 → ∃ mh', den [.lst (sc.map .int)] [] = some (.bool true, mh')) (hpre : l.row.claim.pre args = true) (hwell : WellAll C.w.params s1.heap vals args) :
    wpAny C.M callerA (call (.ref fA) vals) (fun v s' => GoodWG l.row.claim cl mean args s1 (.ok (.ret v)) s') E s1 := by
  obtain ⟨ns, rfl, hlen⟩ := law_args hm hb hpre
  obtain ⟨mh', he⟩ := hev ns hlen
  cases hwell with
  | cons w1 w2 =>
    cases w2
    cases w1 with
    | @list la vs _ hla wv =>
      have hx : ∀ p ∈ C.T, s1.heap.get? p.2 = some { cls := .none, data := .fields #[] } := fun p hp => (hT p hp).2.2
      have hnx : la ∉ C.X := fun hm => by
        obtain ⟨p, hp, e⟩ := List.mem_map.mp hm
        have := hx p hp
        rw [e, hla] at this
        cases this
      have I : Inv C ⟨[], [(la, listO vs 0)], [], (C.prog, C.w)⟩ [] s1.heap := by
        refine ⟨rfl, List.nodup_nil, fun i mo hi => by simp at hi, fun p hp => ?_, fun p hp => by simp, fun p hp => by simp at hp, fun a ha => by simp at ha, fun p hp => ?_, fun b o e hb => by rw [← hC]; exact e, fun p hp => ⟨#[], hT p hp, fun pos q _ cv hc => by simp [codeAmong] at hc⟩, fun p hp => ⟨?_, ?_, ?_⟩, rfl⟩
        · simp at hp; subst hp; exact hla
        · simp at hp; subst hp; exact hnx
        · obtain ⟨⟨o, vs', h1, h2⟩, _⟩ := (hT p hp).2
          exact ⟨o, by rw [hC]; exact h1⟩
        · exact ⟨_, by rw [hC]; exact hx p hp⟩
        · intro hm
          obtain ⟨q, hq, e⟩ := List.mem_map.mp hm
          obtain ⟨⟨o, vs', h1, h2, _⟩, _⟩ := (hT p hp).2
          have := hx q hq
          rw [e, h1] at this
          cases this
          cases h2
      have so : SOk C s1 := ⟨hos.symm, by rw [hgens]; exact AllBare.empty⟩
      refine wpAny_call (hr he (Aok.caller hd) I so (.cons (.lst' (List.mem_singleton.mpr rfl) (ints_well ns vs wv)) .nil) fun v ρ' s' x I' so' hv => ?_)
      have := hv.bool_
      subst this
      refine ⟨.inl ⟨.bool true, .bool true, [], rfl, fun cls => rfl, .bool true, postW_of (X := same (.bool true) (.bool true)) rfl rfl (same_self _), fun _ => ⟨List.nodup_nil, fun a ha => by simp at ha⟩⟩, ⟨fun b o e => ?_, fun b o e => x.live b o e⟩, so'.os.trans hos, so'.gens⟩
      by_cases hbx : b ∈ C.X
      · obtain ⟨p, hp, rfl⟩ := List.mem_map.mp hbx
        obtain ⟨ps, hc, _⟩ := I'.tab p hp
        have h0 := hx p hp
        rw [h0] at e
        cases e
        exact .inr (.inl ⟨(hT p hp).2.isCodeTable, rfl, #[], ps, rfl, by rw [hc.2.2]; simp⟩)
      · exact .inl (I'.keep b o (by rw [hC]; exact e) hbx)
end Mine

namespace Mine
theorem said04 : PySem.Challenge.rw_ph0056_04.wellSaid = true := by kernel_rfl
theorem tbl04_nd : tbl04.Nodup := by decide +kernel
set_option maxHeartbeats 4000000 in
theorem ok04 {w : World} {s1 : Shared} {mg mb : Str → Option Value} {p : Program} {loose : List Str} {mean : ExcName → Option Value} (T : Top p loose mean mg mb s1.heap) (X : Frag.In (K04 w.params) s1.heap) (hx : ∀ P ∈ [63, 70, 163], s1.heap.get? P = some (tabObj #[])) : (cx04 w s1.heap s1.os mg mb).Ok where
  g := T.g
  b := T.b
  nolimit := T.nolimit
  builtins := T.builtins
  k := X
  kx := fun a ha => by
    have : a = 63 ∨ a = 70 ∨ a = 163 := by simpa [cx04, Cx.X] using ha
    rcases this with rfl | rfl | rfl <;> kernel_rfl
  gx := by show mainGlobals ∉ [63, 70, 163]; decide
  bx := by show builtinsNs ∉ [63, 70, 163]; decide
  sx := by show cStatics ∉ [63, 70, 163]; decide
  nd := tbl04_nd
  tu := by show ∀ p ∈ [(67, 63), (74, 70), (167, 163)], ∀ q ∈ [(67, 63), (74, 70), (167, 163)], q.2 = p.2 → q = p; decide
  mod := by
    obtain ⟨bm, ob, h1, h2, h3, h4, h5, h6⟩ := T.bmain
    refine ⟨bm, ob, h1, h2, h3, h4, h5, h6, fun hm => ?_⟩
    have := hx bm hm
    rw [h3] at this
    cases this
    cases h4
set_option maxHeartbeats 4000000 in
theorem g04 {w : World} {s1 : Shared} {mg mb : Str → Option Value} {p : Program} {loose : List Str} {mean : ExcName → Option Value} (T : Top p loose mean mg mb s1.heap) (X : Frag.In (K04 w.params) s1.heap) : G04 mg mb where
  range := ⟨mg_none_of X T.g (by kernel_rfl), (T.builtins _ (by decide)).trans (by kernel_rfl)⟩
  len := ⟨mg_none_of X T.g (by kernel_rfl), (T.builtins _ (by decide)).trans (by kernel_rfl)⟩
  sum := ⟨mg_none_of X T.g (by kernel_rfl), (T.builtins _ (by decide)).trans (by kernel_rfl)⟩
  iter := ⟨mg_none_of X T.g (by kernel_rfl), (T.builtins _ (by decide)).trans (by kernel_rfl)⟩
  super := ⟨mg_none_of X T.g (by kernel_rfl), (T.builtins _ (by decide)).trans (by kernel_rfl)⟩
  str := ⟨mg_none_of X T.g (by kernel_rfl), (T.builtins _ (by decide)).trans (by kernel_rfl)⟩
  empty := ⟨_, mg_of X T.g rfl⟩
  acc := mg_of X T.g (by kernel_rfl)
  nrc := mg_of X T.g (by kernel_rfl)
  law_numbers := mg_of X T.g (by kernel_rfl)
  law_written := mg_of X T.g (by kernel_rfl)
  law_lexer := mg_of X T.g (by kernel_rfl)
  law_rises := mg_of X T.g (by kernel_rfl)
  law_block := mg_of X T.g (by kernel_rfl)
  law_pile := mg_of X T.g (by kernel_rfl)
  law_round := mg_of X T.g (by kernel_rfl)
  law_means := mg_of X T.g (by kernel_rfl)
theorem tab04 {w : World} {s1 : Shared} {mg mb : Str → Option Value} (X : Frag.In (K04 w.params) s1.heap) (hx : ∀ P ∈ [63, 70, 163], s1.heap.get? P = some (tabObj #[])) : ∀ p ∈ (cx04 w s1.heap s1.os mg mb).T, CodeTab s1.heap p.1 p.2 #[] := by
  have key : ∀ c P, codeHdIn (K04 w.params) c P = true → P ∈ [63, 70, 163] → CodeTab s1.heap c P #[] := fun c P h hP => by
    obtain ⟨o, vs, f, tf, fl, tg, b, n, tt, h1, h2, h3, h4, h5, h6, h7, h8, h9, h10⟩ := codeHd_of_K X h
    exact ⟨⟨o, vs, f, tf, fl, tg, b, n, tt, _, h1, h3, h5, h6, h7, h8, h9, hx P hP, rfl, trivial, h10⟩, ⟨o, vs, h1, h2, h3, h4⟩, hx P hP⟩
  intro p hp
  have : p = (67, 63) ∨ p = (74, 70) ∨ p = (167, 163) := by simpa [cx04] using hp
  rcases this with rfl | rfl | rfl
  · exact key _ _ (by kernel_rfl) (by decide)
  · exact key _ _ (by kernel_rfl) (by decide)
  · exact key _ _ (by kernel_rfl) (by decide)
noncomputable def lawV04 : Program := keepB PySem.Challenge.pw_ph0056_04 [15]
noncomputable def hook04 : Hook := kmHook K04 [2, 3, 20, 21, 25, 30, 37, 38, 44, 45, 46, 52, 53, 60, 61, 67, 68, 74, 75, 76, 82, 83, 89, 90, 97, 98, 100, 101, 118, 119, 125, 126, 132, 133, 139, 140, 142, 143, 153, 154, 160, 161, 167, 168, 174, 175, 181, 182, 188, 189, 195, 196, 202, 203, 207, 208] (fun _ => by kernel_rfl) [63, 70, 163]
end Mine
set_option maxHeartbeats 8000000 in
theorem PySem.Challenge.cw_ph0056_04_holds : PySem.Challenge.rw_ph0056_04.Holds := by
  w_on
  refine holds_law Mine.said04 fun said => ?_
  refine holds_open (q := Mine.lawV04) (loose := ["_wall", "EMPTYSTRING", "_Accumulator", "_netrclex", "_law_numbers", "_law_written", "_law_lexer", "_law_rises", "_law_block", "_law_pile", "_law_round", "_law_means"]) (Xt := fun s => xlAt Mine.lawV04 [] s && recOk (RowW.records PySem.Challenge.rw_ph0056_04.row.toRowW) s) (XP := XL Mine.lawV04 []) (Yf := Hook.obs Mine.hook04) (Ya := Hook.val Mine.hook04) (YP := Hook.says Mine.hook04) (N := 1500) ?hl (Hook.of Mine.hook04) (Hook.keeps Mine.hook04) (fun s e => xl_of s (Bool.and_eq_true_iff.mp e).1) XL.keeps (by rfl) (by rfl) (by rfl) (fun s e => recFacts_of (Bool.and_eq_true_iff.mp e).2) (by rfl) (by first | assumption | decide +kernel) (by decide +kernel) ⟨rfl, rfl, rfl, rfl, rfl, by decide +kernel⟩ ?hw ?hc
  case hw => w_witness2
  case hl => intro w; kernel_rfl
  intro w s0 s1 mg mb G Y a o pm cd doc dV kV ho hd hcd hdf hmg hgens args vals as hpre hlay hrd hwell hlow
  have X : Frag.In (Mine.K04 w.params) s1.heap := km_in_of Y
  have hx : ∀ P ∈ [63, 70, 163], s1.heap.get? P = some (tabObj #[]) := km_tabs_of Y
  have e : mg "law" = some (.ref 208) := mg_of X G.T.g (by kernel_rfl)
  have ea : a = 208 := by
    have h : mg "law" = some (.ref a) := hmg
    rw [e] at h
    cases h; rfl
  subst ea
  clear hd hcd hdf hmg ho hlay hrd hlow
  exact Mine.law_done rfl rfl (Mine.ok04 G.T X hx) rfl rfl hgens (Mine.tab04 X hx) (by decide) (Mine.RF_law (Mine.ok04 G.T X hx) (Mine.g04 G.T X)) Mine.law_ev hpre hwell

