import PyProof.Rows.All
import Wide.All
import OpenK.AllK
import Wide.FinOn
import Lean
import PySem.Challenge.RW_ph0056_03
open PySem PySem.W PyProof.Rows
set_option linter.unusedSimpArgs false
set_option linter.unusedVariables false
set_option linter.unusedSectionVars false
set_option Elab.async false
set_option maxRecDepth 100000
namespace Mine

/-! ## mini values: pure data, and handles of what changes -/
inductive MV where
  | none
  | bool (b : Bool)
  | int (i : Int)
  | str (s : Str)
  | ref (i : Nat)
  | tup (vs : List MV)
  | lst (vs : List MV)
  | rng (a b : Int)
  | strm (text : Str) (t : Nat)

inductive MO where
  | list (vs : List MV)
  | inst (c : Addr) (d : Nat) (items : Option (List MV))
  | attrs (l : List (Str × MV))
  | dict (l : List (Str × MV))
  | citer (f : Addr) (i : Option Nat)

noncomputable abbrev MH := List MO
noncomputable abbrev ME := List (Nat × MV)

/-- what stands for the whole call: the program, the world, the heap at the law's entry, the code objects that grow (with their tables) -/
structure Cx where
  prog : Program
  w : World
  base : Heap
  T : List (Addr × Addr)
  os : OsState
  K : Frag
  mg : Str → Option Value
  mb : Str → Option Value
  tbl : List Str
  give : FuncData → Prop
  gv : Addr → Option (Pos × Str)

noncomputable abbrev Cx.M (C : Cx) : Model := model C.prog C.w
noncomputable abbrev Cx.X (C : Cx) : List Addr := C.T.map (·.2)

/-- a world: the addresses of the mini heap, the objects that will never change -/
structure Wd where
  ids : List Addr
  fz : List (Addr × Obj)
  st : List (Str × Addr × Addr)
  pw : Program × World

noncomputable def Wd.has (ρ : Wd) (a : Addr) : Prop := a ∈ ρ.ids ∨ ∃ o, (a, o) ∈ ρ.fz
structure Wd.le (ρ ρ' : Wd) : Prop where
  ids : ρ.ids <+: ρ'.ids
  fz : ∀ p ∈ ρ.fz, p ∈ ρ'.fz
  st : ∀ p ∈ ρ.st, p ∈ ρ'.st
  pw : ρ'.pw = ρ.pw
theorem Wd.le.refl (ρ : Wd) : ρ.le ρ := ⟨⟨[], by simp⟩, fun _ h => h, fun _ h => h, rfl⟩
theorem Wd.le.trans {ρ ρ' ρ'' : Wd} (x : ρ.le ρ') (y : ρ'.le ρ'') : ρ.le ρ'' := ⟨x.ids.trans y.ids, fun p h => y.fz p (x.fz p h), fun p h => y.st p (x.st p h), y.pw.trans x.pw⟩
noncomputable abbrev Wd.push (ρ : Wd) (a : Addr) : Wd := ⟨ρ.ids ++ [a], ρ.fz, ρ.st, ρ.pw⟩
noncomputable abbrev Wd.froze (ρ : Wd) (a : Addr) (o : Obj) : Wd := ⟨ρ.ids, (a, o) :: ρ.fz, ρ.st, ρ.pw⟩
theorem Wd.le_push (ρ : Wd) (a : Addr) : ρ.le (ρ.push a) := ⟨⟨[a], rfl⟩, fun _ h => h, fun _ h => h, rfl⟩
theorem Wd.le_froze (ρ : Wd) (a : Addr) (o : Obj) : ρ.le (ρ.froze a o) := ⟨⟨[], by simp⟩, fun _ h => List.mem_cons_of_mem _ h, fun _ h => h, rfl⟩
theorem pre_get0 {l l' : List Addr} (hp : l <+: l') {i : Nat} {a : Addr} (h : l[i]? = some a) : l'[i]? = some a := by
  obtain ⟨t, rfl⟩ := hp
  rw [List.getElem?_append_left]
  · exact h
  · exact (List.getElem?_eq_some_iff.mp h).1
theorem pre_get {ρ ρ' : Wd} (hp : ρ.le ρ') {i : Nat} {a : Addr} (h : ρ.ids[i]? = some a) : ρ'.ids[i]? = some a := pre_get0 hp.ids h

noncomputable abbrev listO (vs : List Value) (n : Nat) : Obj := { cls := .type "list", data := .seq vs.toArray n }
noncomputable abbrev tupO (vs : List Value) (n : Nat) : Obj := { cls := .type "tuple", data := .seq vs.toArray n }
noncomputable abbrev rngO (a b : Int) (t u v : Tok) : Obj := { cls := .type "range", dict := none, data := .fields #[.int a t, .int b u, .int 1 v], slots := #[] }

/-- a code object among the frozen -/
noncomputable def CodeFz (fz : List (Addr × Obj)) (cv : Value) (q : Str) : Prop := ∃ a o vs t, cv = .ref a ∧ (a, o) ∈ fz ∧ o.data = .fields vs ∧ vs[1]? = some (.str q t)
theorem CodeFz.mono {fz fz' : List (Addr × Obj)} (hz : ∀ p ∈ fz, p ∈ fz') {cv : Value} {q : Str} (h : CodeFz fz cv q) : CodeFz fz' cv q :=
  let ⟨a, o, vs, t, e, m, r⟩ := h; ⟨a, o, vs, t, e, hz _ m, r⟩
/-- the code that a table keeps for the one place that is asked -/
noncomputable def TabQ (gv : Addr → Option (Pos × Str)) (fz : List (Addr × Obj)) (P : Addr) (ps : Array Value) : Prop := ∀ pos q, gv P = some (pos, q) → ∀ cv, codeAmong pos ps.toList = some cv → CodeFz fz cv q
theorem TabQ.mono {gv : Addr → Option (Pos × Str)} {fz fz' : List (Addr × Obj)} (hz : ∀ p ∈ fz, p ∈ fz') {P : Addr} {ps : Array Value} (h : TabQ gv fz P ps) : TabQ gv fz' P ps := fun pos q e cv hc => (h pos q e cv hc).mono hz
/-- the frozen objects that make a stream -/
noncomputable def StrmOk (give : FuncData → Prop) (fz : List (Addr × Obj)) (x : Str) (at_ a : Addr) : Prop :=
  ∃ o od oD c oc fd ct tt cat, (a, o) ∈ fz ∧ o.cls = .type "function" ∧ (∃ f, o.data = .func f) ∧ o.dict = some od ∧
    (od, oD) ∈ fz ∧ lookIn "read" oD = some (some (.ref c)) ∧ (c, oc) ∈ fz ∧ oc.cls = .type "function" ∧ oc.data = .func fd ∧ (give fd ∧ CodeFz fz fd.code fd.qualname) ∧
    fd.closure.lookup ("at" : Str) = some cat ∧ fd.closure.lookup ("text" : Str) = some ct ∧
    (∃ o, (ct, o) ∈ fz ∧ o.data = .cell (some (.str x tt))) ∧ (∃ o, (cat, o) ∈ fz ∧ o.data = .cell (some (.ref at_)))

mutual
noncomputable def VR (ρ : Wd) : MV → Value → Prop
  | .none, v => v = .none
  | .bool b, v => v = .bool b
  | .int i, v => ∃ t, v = .int i t
  | .str s, v => ∃ t, v = .str s t
  | .ref i, v => ∃ a, ρ.ids[i]? = some a ∧ v = .ref a
  | .tup ms, v => ∃ a vs n, (a, tupO vs n) ∈ ρ.fz ∧ v = .ref a ∧ VRl ρ ms vs
  | .lst ms, v => ∃ a vs n, (a, listO vs n) ∈ ρ.fz ∧ v = .ref a ∧ VRl ρ ms vs
  | .rng x y, v => ∃ a t u w, (a, rngO x y t u w) ∈ ρ.fz ∧ v = .ref a
  | .strm x t, v => ∃ a at_, v = .ref a ∧ ρ.ids[t]? = some at_ ∧ (x, at_, a) ∈ ρ.st
noncomputable def VRl (ρ : Wd) : List MV → List Value → Prop
  | [], vs => vs = []
  | m :: ms, vs => ∃ v ws, vs = v :: ws ∧ VR ρ m v ∧ VRl ρ ms ws
end

mutual
theorem VR.mono {ρ ρ' : Wd} (hp : ρ.le ρ') : ∀ {mv : MV} {v : Value}, VR ρ mv v → VR ρ' mv v
  | .none, _, h => by unfold VR at h ⊢; exact h
  | .bool _, _, h => by unfold VR at h ⊢; exact h
  | .int _, _, h => by unfold VR at h ⊢; exact h
  | .str _, _, h => by unfold VR at h ⊢; exact h
  | .ref _, _, h => by unfold VR at h ⊢; obtain ⟨a, h1, h2⟩ := h; exact ⟨a, pre_get hp h1, h2⟩
  | .tup ms, _, h => by unfold VR at h ⊢; obtain ⟨a, vs, n, h1, h2, h3⟩ := h; exact ⟨a, vs, n, hp.fz _ h1, h2, VRl.mono hp h3⟩
  | .lst ms, _, h => by unfold VR at h ⊢; obtain ⟨a, vs, n, h1, h2, h3⟩ := h; exact ⟨a, vs, n, hp.fz _ h1, h2, VRl.mono hp h3⟩
  | .rng _ _, _, h => by unfold VR at h ⊢; obtain ⟨a, t, u, w, h1, h2⟩ := h; exact ⟨a, t, u, w, hp.fz _ h1, h2⟩
  | .strm _ _, _, h => by unfold VR at h ⊢; obtain ⟨a, at_, h1, h2, h3⟩ := h; exact ⟨a, at_, h1, pre_get hp h2, hp.st _ h3⟩
theorem VRl.mono {ρ ρ' : Wd} (hp : ρ.le ρ') : ∀ {ms : List MV} {vs : List Value}, VRl ρ ms vs → VRl ρ' ms vs
  | [], _, h => by unfold VRl at h ⊢; exact h
  | m :: ms, _, h => by unfold VRl at h ⊢; obtain ⟨v, ws, h1, h2, h3⟩ := h; exact ⟨v, ws, h1, VR.mono hp h2, VRl.mono hp h3⟩
end

/-- pairwise -/
inductive VRs (ρ : Wd) : List MV → List Value → Prop where
  | nil : VRs ρ [] []
  | cons {m v ms vs} : VR ρ m v → VRs ρ ms vs → VRs ρ (m :: ms) (v :: vs)

theorem VRl.s {ρ : Wd} : ∀ {ms : List MV} {vs : List Value}, VRl ρ ms vs → VRs ρ ms vs
  | [], _, h => by unfold VRl at h; subst h; exact .nil
  | m :: ms, _, h => by unfold VRl at h; obtain ⟨v, ws, rfl, h2, h3⟩ := h; exact .cons h2 h3.s
theorem VRs.l {ρ : Wd} {ms : List MV} {vs : List Value} (h : VRs ρ ms vs) : VRl ρ ms vs := by
  induction h with
  | nil => unfold VRl; rfl
  | cons h _ ih => unfold VRl; exact ⟨_, _, rfl, h, ih⟩

section
variable {ρ : Wd} {v : Value}
theorem VR.none_ (h : VR ρ .none v) : v = .none := by unfold VR at h; exact h
theorem VR.bool_ {b : Bool} (h : VR ρ (.bool b) v) : v = .bool b := by unfold VR at h; exact h
theorem VR.int_ {i : Int} (h : VR ρ (.int i) v) : ∃ t, v = .int i t := by unfold VR at h; exact h
theorem VR.str_ {x : Str} (h : VR ρ (.str x) v) : ∃ t, v = .str x t := by unfold VR at h; exact h
theorem VR.ref_ {i : Nat} (h : VR ρ (.ref i) v) : ∃ a, ρ.ids[i]? = some a ∧ v = .ref a := by unfold VR at h; exact h
theorem VR.tup_ {ms : List MV} (h : VR ρ (.tup ms) v) : ∃ a vs n, (a, tupO vs n) ∈ ρ.fz ∧ v = .ref a ∧ VRs ρ ms vs := by
  unfold VR at h; obtain ⟨a, vs, n, h1, h2, h3⟩ := h; exact ⟨a, vs, n, h1, h2, h3.s⟩
theorem VR.lst_ {ms : List MV} (h : VR ρ (.lst ms) v) : ∃ a vs n, (a, listO vs n) ∈ ρ.fz ∧ v = .ref a ∧ VRs ρ ms vs := by
  unfold VR at h; obtain ⟨a, vs, n, h1, h2, h3⟩ := h; exact ⟨a, vs, n, h1, h2, h3.s⟩
theorem VR.rng_ {x y : Int} (h : VR ρ (.rng x y) v) : ∃ a t u w, (a, rngO x y t u w) ∈ ρ.fz ∧ v = .ref a := by unfold VR at h; exact h
theorem VR.strm_ {x : Str} {t : Nat} (h : VR ρ (.strm x t) v) : ∃ a at_, v = .ref a ∧ ρ.ids[t]? = some at_ ∧ (x, at_, a) ∈ ρ.st := by unfold VR at h; exact h
theorem VR.none' : VR ρ .none .none := by unfold VR; rfl
theorem VR.bool' {b : Bool} : VR ρ (.bool b) (.bool b) := by unfold VR; rfl
theorem VR.int' {i : Int} {t : Tok} : VR ρ (.int i) (.int i t) := by unfold VR; exact ⟨t, rfl⟩
theorem VR.str' {x : Str} {t : Tok} : VR ρ (.str x) (.str x t) := by unfold VR; exact ⟨t, rfl⟩
theorem VR.ref' {i : Nat} {a : Addr} (h : ρ.ids[i]? = some a) : VR ρ (.ref i) (.ref a) := by unfold VR; exact ⟨a, h, rfl⟩
theorem VR.tup' {a : Addr} {vs : List Value} {n : Nat} {ms : List MV} (h : (a, tupO vs n) ∈ ρ.fz) (hv : VRs ρ ms vs) : VR ρ (.tup ms) (.ref a) := by unfold VR; exact ⟨a, vs, n, h, rfl, hv.l⟩
theorem VR.lst' {a : Addr} {vs : List Value} {n : Nat} {ms : List MV} (h : (a, listO vs n) ∈ ρ.fz) (hv : VRs ρ ms vs) : VR ρ (.lst ms) (.ref a) := by unfold VR; exact ⟨a, vs, n, h, rfl, hv.l⟩
theorem VR.rng' {a : Addr} {x y : Int} {t u w : Tok} (h : (a, rngO x y t u w) ∈ ρ.fz) : VR ρ (.rng x y) (.ref a) := by unfold VR; exact ⟨a, t, u, w, h, rfl⟩
end

namespace VRs
variable {ρ ρ' : Wd} {ms : List MV} {vs : List Value}
theorem mono (h : VRs ρ ms vs) (hp : ρ.le ρ') : VRs ρ' ms vs := by
  induction h with
  | nil => exact .nil
  | cons h _ ih => exact .cons (h.mono hp) ih
theorem length (h : VRs ρ ms vs) : vs.length = ms.length := by
  induction h with
  | nil => rfl
  | cons _ _ ih => simp [ih]
theorem get {i : Nat} {m : MV} (h : VRs ρ ms vs) (hi : ms[i]? = some m) : ∃ v, vs[i]? = some v ∧ VR ρ m v := by
  induction h generalizing i with
  | nil => simp at hi
  | cons h _ ih =>
    cases i with
    | zero => simp at hi; subst hi; exact ⟨_, rfl, h⟩
    | succ i => simpa using ih (by simpa using hi)
theorem get_none {i : Nat} (h : VRs ρ ms vs) (hi : ms[i]? = none) : vs[i]? = none := by
  rw [List.getElem?_eq_none_iff] at hi ⊢
  rw [h.length]; exact hi
theorem append {ms' : List MV} {vs' : List Value} (h : VRs ρ ms vs) (h' : VRs ρ ms' vs') : VRs ρ (ms ++ ms') (vs ++ vs') := by
  induction h with
  | nil => exact h'
  | cons h _ ih => exact .cons h ih
theorem one {m : MV} {v : Value} (h : VR ρ m v) : VRs ρ [m] [v] := .cons h .nil
theorem set {i : Nat} {m : MV} {v : Value} (h : VRs ρ ms vs) (hm : VR ρ m v) : VRs ρ (ms.set i m) (vs.set i v) := by
  induction h generalizing i with
  | nil => exact .nil
  | cons h t ih =>
    cases i with
    | zero => exact .cons hm t
    | succ i => exact .cons h ih
theorem drop {n : Nat} (h : VRs ρ ms vs) : VRs ρ (ms.drop n) (vs.drop n) := by
  induction h generalizing n with
  | nil => simp; exact .nil
  | cons h t ih =>
    cases n with
    | zero => exact .cons h t
    | succ n => exact ih
theorem take {n : Nat} (h : VRs ρ ms vs) : VRs ρ (ms.take n) (vs.take n) := by
  induction h generalizing n with
  | nil => simp; exact .nil
  | cons h t ih =>
    cases n with
    | zero => exact .nil
    | succ n => exact .cons h ih
theorem reverse (h : VRs ρ ms vs) : VRs ρ ms.reverse vs.reverse := by
  induction h with
  | nil => exact .nil
  | cons h _ ih => rw [List.reverse_cons, List.reverse_cons]; exact ih.append (.one h)
theorem eraseIdx {i : Nat} (h : VRs ρ ms vs) : VRs ρ (ms.eraseIdx i) (vs.eraseIdx i) := by
  induction h generalizing i with
  | nil => exact .nil
  | cons h t ih =>
    cases i with
    | zero => exact t
    | succ i => exact .cons h ih
end VRs

/-- entries under texts, in their order -/
inductive AttrsR (ρ : Wd) : List (Str × MV) → List DictEntry → Prop where
  | nil : AttrsR ρ [] []
  | cons {k mv e l es} : (∃ t, e.key = .str k t) → VR ρ mv e.val → AttrsR ρ l es → AttrsR ρ ((k, mv) :: l) (e :: es)
theorem AttrsR.mono {ρ ρ' : Wd} {l : List (Str × MV)} {es : List DictEntry} (h : AttrsR ρ l es) (hp : ρ.le ρ') : AttrsR ρ' l es := by
  induction h with
  | nil => exact .nil
  | cons h1 h2 _ ih => exact .cons h1 (h2.mono hp) ih
/-- a dict tells these entries -/
noncomputable def NsO (ρ : Wd) (l : List (Str × MV)) (o : Obj) : Prop := ∃ es n, o = dictOf es n ∧ AttrsR ρ l es

/-- a dict under texts, in its order -/
noncomputable def DictR (p : Program) (w : World) (ρ : Wd) (l : List (Str × MV)) (o : Obj) : Prop := ∃ kvs : List (Str × Value), o.IsDictOf (strKind p w) kvs ∧ kvs.map (·.1) = l.map (·.1) ∧ VRs ρ (l.map (·.2)) (kvs.map (·.2))
theorem DictR.mono {p : Program} {w : World} {ρ ρ' : Wd} {l : List (Str × MV)} {o : Obj} (h : DictR p w ρ l o) (hp : ρ.le ρ') : DictR p w ρ' l o := let ⟨kvs, a, b, c⟩ := h; ⟨kvs, a, b, c.mono hp⟩
theorem DictR.live {p : Program} {w : World} {ρ : Wd} {l : List (Str × MV)} {o : Obj} (h : DictR p w ρ l o) : o.isFreed = false := by
  obtain ⟨kvs, ⟨es, ep, _, hd, _⟩, _⟩ := h
  exact Obj.isFreed_of_dict hd

noncomputable def ObjR (ρ : Wd) (a : Addr) : MO → Obj → Prop
  | .list ms, o => ∃ vs n, o = listO vs n ∧ VRs ρ ms vs
  | .inst c d none, o => ∃ da, ρ.ids[d]? = some da ∧ o = { cls := .ref c, dict := some da, data := .plain }
  | .inst c d (some ms), o => ∃ da vs n, ρ.ids[d]? = some da ∧ o = { cls := .ref c, dict := some da, data := .seq vs.toArray n } ∧ VRs ρ ms vs
  | .attrs l, o => NsO ρ l o
  | .dict l, o => (a == sysModules) = false ∧ DictR ρ.pw.1 ρ.pw.2 ρ l o
  | .citer f (some i), o => ∃ x ma te, ρ.ids[i]? = some x ∧ (ma, ({ cls := .type "method", data := .fields #[.ref f, .ref x] } : Obj)) ∈ ρ.fz ∧ o = { cls := .type "callable_iterator", data := .fields #[.ref ma, .str "" te, .bool false] }
  | .citer _ none, o => o = { cls := .type "callable_iterator", data := .fields #[.none, .none, .bool true] }

theorem NsO.mono {ρ ρ' : Wd} {l : List (Str × MV)} {o : Obj} (h : NsO ρ l o) (hp : ρ.le ρ') : NsO ρ' l o :=
  let ⟨es, n, e, r⟩ := h; ⟨es, n, e, r.mono hp⟩

theorem ObjR.mono {ρ ρ' : Wd} {a : Addr} {mo : MO} {o : Obj} (h : ObjR ρ a mo o) (hp : ρ.le ρ') : ObjR ρ' a mo o := by
  cases mo with
  | list ms => obtain ⟨vs, n, e, r⟩ := h; exact ⟨vs, n, e, r.mono hp⟩
  | inst c d it =>
    cases it with
    | none => obtain ⟨da, hd, e⟩ := h; exact ⟨da, pre_get hp hd, e⟩
    | some ms => obtain ⟨da, vs, n, hd, e, r⟩ := h; exact ⟨da, vs, n, pre_get hp hd, e, r.mono hp⟩
  | attrs l => exact NsO.mono h hp
  | dict l => exact ⟨h.1, by rw [hp.pw]; exact DictR.mono h.2 hp⟩
  | citer f i =>
    cases i with
    | none => exact h
    | some i => obtain ⟨x, ma, te, h1, h2, h3⟩ := h; exact ⟨x, ma, te, pre_get hp h1, hp.fz _ h2, h3⟩

theorem ObjR.live {ρ : Wd} {a : Addr} {mo : MO} {o : Obj} (h : ObjR ρ a mo o) : o.isFreed = false := by
  cases mo with
  | list ms => obtain ⟨vs, n, rfl, r⟩ := h; rfl
  | inst c d it =>
    cases it with
    | none => obtain ⟨da, hd, rfl⟩ := h; rfl
    | some ms => obtain ⟨da, vs, n, hd, rfl, r⟩ := h; rfl
  | attrs l => obtain ⟨es, n, rfl, r⟩ := h; rfl
  | dict l => exact DictR.live h.2
  | citer f i =>
    cases i with
    | none => cases h; rfl
    | some i => obtain ⟨x, ma, te, h1, h2, rfl⟩ := h; rfl

/-- a code object and its table -/
noncomputable def CodeTab (h : Heap) (c P : Addr) (ps : Array Value) : Prop := h.IsCode c P ps ∧ h.TableAt c P ps
theorem CodeTab.keeps {h h' : Heap} {c P : Addr} {ps : Array Value} (x : CodeTab h c P ps) (hk : ∀ b o, h.get? b = some o → h'.get? b = some o) : CodeTab h' c P ps := ⟨x.1.keeps hk, x.2.keeps hk⟩
theorem CodeTab.extBut {h h' : Heap} {c P a : Addr} {ps : Array Value} (x : CodeTab h c P ps) (hs : Heap.ExtBut a h h') (hc : c ≠ a) (hP : P ≠ a) : CodeTab h' c P ps := ⟨x.1.extBut hs hc hP, x.2.extBut hs hc hP⟩
/-- the mini heap stands in the heap -/
structure Inv (C : Cx) (ρ : Wd) (mh : MH) (h : Heap) : Prop where
  len : ρ.ids.length = mh.length
  nd : ρ.ids.Nodup
  obj : ∀ (i : Nat) (mo : MO), mh[i]? = some mo → ∃ (a : Addr) (o : Obj), ρ.ids[i]? = some a ∧ h.get? a = some o ∧ ObjR ρ a mo o
  fz : ∀ p ∈ ρ.fz, h.get? p.1 = some p.2
  sep : ∀ p ∈ ρ.fz, p.1 ∉ ρ.ids
  st : ∀ p ∈ ρ.st, StrmOk C.give ρ.fz p.1 p.2.1 p.2.2
  new : ∀ a ∈ ρ.ids, C.base.get? a = none
  newf : ∀ p ∈ ρ.fz, p.1 ∉ C.X
  keep : ∀ b o, C.base.get? b = some o → b ∉ C.X → h.get? b = some o
  tab : ∀ p ∈ C.T, ∃ ps, CodeTab h p.1 p.2 ps ∧ TabQ C.gv ρ.fz p.2 ps
  xb : ∀ p ∈ C.T, (∃ o, C.base.get? p.1 = some o) ∧ (∃ o, C.base.get? p.2 = some o) ∧ p.1 ∉ C.X
  pw : ρ.pw = (C.prog, C.w)

theorem Inv.x_base {C : Cx} {ρ : Wd} {mh : MH} {h : Heap} (I : Inv C ρ mh h) {a : Addr} (ha : a ∈ C.X) : ∃ o, C.base.get? a = some o := by
  obtain ⟨p, hp, rfl⟩ := List.mem_map.mp ha
  exact (I.xb p hp).2.1
theorem Inv.x_live {C : Cx} {ρ : Wd} {mh : MH} {h : Heap} (I : Inv C ρ mh h) {a : Addr} (ha : a ∈ C.X) : ∃ o, h.get? a = some o := by
  obtain ⟨p, hp, rfl⟩ := List.mem_map.mp ha
  obtain ⟨ps, ⟨⟨o, vs, file, tf, flags, tg, inF, text, tt, op, ho, hd, h11, h2, h7, h9, h10, hop, r⟩, _⟩, _⟩ := I.tab p hp
  exact ⟨op, hop⟩
theorem Inv.not_x {C : Cx} {ρ : Wd} {mh : MH} {h : Heap} (I : Inv C ρ mh h) {a : Addr} (ha : C.base.get? a = none) : a ∉ C.X := fun hx => by
  obtain ⟨o, e⟩ := I.x_base hx
  rw [e] at ha; cases ha
theorem Inv.id_x {C : Cx} {ρ : Wd} {mh : MH} {h : Heap} (I : Inv C ρ mh h) {a : Addr} (ha : a ∈ ρ.ids) : a ∉ C.X := I.not_x (I.new a ha)

theorem Inv.at {C : Cx} {ρ : Wd} {mh : MH} {h : Heap} (I : Inv C ρ mh h) {i : Nat} {mo : MO} (hi : mh[i]? = some mo) {a : Addr} (ha : ρ.ids[i]? = some a) :
    ∃ o, h.get? a = some o ∧ ObjR ρ a mo o := by
  obtain ⟨a', o, h1, h2, h3⟩ := I.obj i mo hi
  rw [ha] at h1; cases h1
  exact ⟨o, h2, h3⟩

theorem Inv.liveId {C : Cx} {ρ : Wd} {mh : MH} {h : Heap} (I : Inv C ρ mh h) {a : Addr} (ha : a ∈ ρ.ids) : ∃ o, h.get? a = some o := by
  obtain ⟨i, hi, e⟩ := List.mem_iff_getElem.mp ha
  have hl : i < mh.length := I.len ▸ hi
  obtain ⟨a', o, h1, h2, _⟩ := I.obj i mh[i] (List.getElem?_eq_getElem hl)
  rw [List.getElem?_eq_getElem hi, e] at h1
  cases h1
  exact ⟨o, h2⟩
theorem Inv.live {C : Cx} {ρ : Wd} {mh : MH} {h : Heap} (I : Inv C ρ mh h) {a : Addr} (ha : ρ.has a) : ∃ o, h.get? a = some o := by
  rcases ha with ha | ⟨o, ha⟩
  · exact I.liveId ha
  · exact ⟨o, I.fz _ ha⟩

theorem get_size (h : Heap) : h.get? h.objs.size = none := by
  cases e : h.get? h.objs.size with
  | none => rfl
  | some o => exact absurd (Heap.lt_size e) (Nat.lt_irrefl _)

theorem Inv.fresh {C : Cx} {ρ : Wd} {mh : MH} {h : Heap} (I : Inv C ρ mh h) {a : Addr} (ha : h.get? a = none) : ¬ ρ.has a ∧ C.base.get? a = none := by
  have h1 : ¬ ρ.has a := fun hm => by obtain ⟨o, e⟩ := I.live hm; rw [e] at ha; cases ha
  refine ⟨h1, ?_⟩
  cases e : C.base.get? a with
  | none => rfl
  | some o =>
    by_cases hx : a ∈ C.X
    · obtain ⟨o', e'⟩ := I.x_live hx; rw [e'] at ha; cases ha
    · rw [I.keep a o e hx] at ha; cases ha

theorem Inv.tabKeep {C : Cx} {ρ : Wd} {mh : MH} {h h' : Heap} (I : Inv C ρ mh h) (hk : ∀ p ∈ C.T, ∀ b o, b = p.1 ∨ b = p.2 → h.get? b = some o → h'.get? b = some o) : ∀ p ∈ C.T, ∃ ps, CodeTab h' p.1 p.2 ps ∧ TabQ C.gv ρ.fz p.2 ps := by
  intro p hp
  obtain ⟨ps, ⟨⟨o, vs, file, tf, flags, tg, inF, text, tt, op, ho, hd, h11, h2, h7, h9, h10, hop, r⟩, ⟨o', vs', a', r'⟩, t'⟩, tq⟩ := I.tab p hp
  exact ⟨ps, ⟨⟨o, vs, file, tf, flags, tg, inF, text, tt, op, hk p hp _ _ (.inl rfl) ho, hd, h11, h2, h7, h9, h10, hk p hp _ _ (.inr rfl) hop, r⟩, ⟨o', vs', hk p hp _ _ (.inl rfl) a', r'⟩, hk p hp _ _ (.inr rfl) t'⟩, tq⟩

theorem mem_X {C : Cx} {p : Addr × Addr} (h : p ∈ C.T) : p.2 ∈ C.X := List.mem_map.mpr ⟨p, h, rfl⟩

/-- all stands -/
theorem Inv.junk {C : Cx} {ρ : Wd} {mh : MH} {h h' : Heap} (I : Inv C ρ mh h) (hk : ∀ b o, h.get? b = some o → h'.get? b = some o) : Inv C ρ mh h' :=
  ⟨I.len, I.nd, fun i mo hi => let ⟨a, o, h1, h2, h3⟩ := I.obj i mo hi; ⟨a, o, h1, hk _ _ h2, h3⟩, fun p hp => hk _ _ (I.fz p hp), I.sep, I.st, I.new, I.newf,
    fun b o e hx => hk _ _ (I.keep b o e hx), I.tabKeep fun _ _ b o _ e => hk b o e, I.xb, I.pw⟩

/-- a new object of the mini heap -/
theorem Inv.push {C : Cx} {ρ : Wd} {mh : MH} {h : Heap} (I : Inv C ρ mh h) {mo : MO} {o : Obj} (ho : ObjR ρ h.objs.size mo o) :
    Inv C (ρ.push h.objs.size) (mh ++ [mo]) (h.push o) := by
  have fr := I.fresh (get_size h)
  have J := I.junk (h' := h.push o) fun b o' e => Heap.get?_push_of_some _ e
  have hp : ρ.le (ρ.push h.objs.size) := ρ.le_push _
  refine ⟨by simp [I.len], ?_, fun i mo' hi => ?_, J.fz, fun p hm => ?_, J.st, fun a ha => ?_, J.newf, J.keep, J.tab, J.xb, I.pw⟩
  · show (ρ.ids ++ [h.objs.size]).Nodup
    rw [List.nodup_append]
    refine ⟨I.nd, by simp, fun a ha b hb => ?_⟩
    simp at hb; subst hb
    exact fun e => fr.1 (.inl (e ▸ ha))
  · by_cases hl : i < mh.length
    · rw [List.getElem?_append_left hl] at hi
      obtain ⟨a, o', h1, h2, h3⟩ := J.obj i mo' hi
      exact ⟨a, o', pre_get hp h1, h2, h3.mono hp⟩
    · rw [List.getElem?_append_right (Nat.not_lt.mp hl)] at hi
      have h0 : i - mh.length = 0 := by
        cases hk : i - mh.length with
        | zero => rfl
        | succ n => rw [hk] at hi; simp at hi
      rw [h0] at hi
      simp at hi; subst hi
      have : i = ρ.ids.length := by rw [I.len]; omega
      subst this
      exact ⟨h.objs.size, o, by simp, Heap.get?_push_size _ ho.live, ho.mono hp⟩
  · show p.1 ∉ ρ.ids ++ [h.objs.size]
    rw [List.mem_append]
    rintro (q | q)
    · exact I.sep p hm q
    · simp at q; exact fr.1 (.inr ⟨p.2, by rw [← q]; exact hm⟩)
  · rcases List.mem_append.mp ha with ha | ha
    · exact I.new a ha
    · simp at ha; subst ha; exact fr.2

/-- a new object that will never change -/
theorem Inv.pushF {C : Cx} {ρ : Wd} {mh : MH} {h : Heap} (I : Inv C ρ mh h) {o : Obj} (ho : o.isFreed = false) :
    Inv C (ρ.froze h.objs.size o) mh (h.push o) := by
  have fr := I.fresh (get_size h)
  have J := I.junk (h' := h.push o) fun b o' e => Heap.get?_push_of_some _ e
  have hp : ρ.le (ρ.froze h.objs.size o) := ρ.le_froze _ _
  refine ⟨I.len, I.nd, fun i mo' hi => ?_, fun p hm => ?_, fun p hm => ?_, fun p hm => ?_, I.new, fun p hm => ?_, J.keep, fun p hm => let ⟨ps, h1, h2⟩ := J.tab p hm; ⟨ps, h1, h2.mono hp.fz⟩, J.xb, I.pw⟩
  · obtain ⟨a, o', h1, h2, h3⟩ := J.obj i mo' hi
    exact ⟨a, o', h1, h2, h3.mono hp⟩
  · rcases List.mem_cons.mp hm with rfl | hm
    · exact Heap.get?_push_size _ ho
    · exact J.fz p hm
  · rcases List.mem_cons.mp hm with rfl | hm
    · exact fun q => fr.1 (.inl q)
    · exact I.sep p hm
  · obtain ⟨o1, od, oD, c, oc, fd, ct, tt, cat, a1, a2, a3, a4, a5, a6, a7, a8, a9, a10, a11, a12, a13, a14⟩ := I.st p hm
    exact ⟨o1, od, oD, c, oc, fd, ct, tt, cat, hp.fz _ a1, a2, a3, a4, hp.fz _ a5, a6, hp.fz _ a7, a8, a9, ⟨a10.1, a10.2.mono hp.fz⟩, a11, a12, let ⟨o, m, r⟩ := a13; ⟨o, hp.fz _ m, r⟩, let ⟨o, m, r⟩ := a14; ⟨o, hp.fz _ m, r⟩⟩
  · rcases List.mem_cons.mp hm with rfl | hm
    · exact I.not_x fr.2
    · exact I.newf p hm

/-- one address of no concern changed -/
theorem Inv.ext {C : Cx} {ρ : Wd} {mh : MH} {h h' : Heap} (I : Inv C ρ mh h) {c : Addr} (hc : ¬ ρ.has c) (hb : C.base.get? c = none) (hk : Heap.ExtBut c h h') : Inv C ρ mh h' := by
  have bl : ∀ b o, C.base.get? b = some o → b ≠ c := fun b o e z => by subst z; rw [hb] at e; cases e
  refine ⟨I.len, I.nd, fun i mo hi => ?_, fun p hm => ?_, I.sep, I.st, I.new, I.newf, fun b o e hx => hk b o (bl b o e) (I.keep b o e hx), I.tabKeep fun p hp b o hb' e => hk b o ?_ e, I.xb, I.pw⟩
  · obtain ⟨a, o, h1, h2, h3⟩ := I.obj i mo hi
    exact ⟨a, o, h1, hk a o (fun e => hc (.inl (e ▸ List.mem_of_getElem? h1))) h2, h3⟩
  · exact hk _ _ (fun e => hc (.inr ⟨p.2, e ▸ hm⟩)) (I.fz p hm)
  · obtain ⟨⟨o1, e1⟩, ⟨o2, e2⟩, _⟩ := I.xb p hp
    rcases hb' with rfl | rfl
    · exact bl _ _ e1
    · exact bl _ _ e2

/-- a code table grew -/
theorem Inv.grow {C : Cx} {ρ : Wd} {mh : MH} {h h' : Heap} (I : Inv C ρ mh h) {p : Addr × Addr} (hp : p ∈ C.T) (hk : Heap.ExtBut p.2 h h') {ps : Array Value} (hc : CodeTab h' p.1 p.2 ps) (htq : TabQ C.gv ρ.fz p.2 ps)
    (hu : ∀ q ∈ C.T, q.2 = p.2 → q = p) : Inv C ρ mh h' := by
  have hx := mem_X hp
  refine ⟨I.len, I.nd, fun i mo hi => ?_, fun q hm => hk _ _ (fun e => I.newf q hm (e ▸ hx)) (I.fz q hm), I.sep, I.st, I.new, I.newf, fun b o e hb => hk b o (fun e' => hb (e' ▸ hx)) (I.keep b o e hb), fun q hq => ?_, I.xb, I.pw⟩
  · obtain ⟨a, o, h1, h2, h3⟩ := I.obj i mo hi
    exact ⟨a, o, h1, hk a o (fun e => I.id_x (List.mem_of_getElem? h1) (e ▸ hx)) h2, h3⟩
  · by_cases e : q.2 = p.2
    · rw [hu q hq e]; exact ⟨ps, hc, htq⟩
    · obtain ⟨qs, x, tq⟩ := I.tab q hq
      refine ⟨qs, x.extBut hk (fun z => ?_) e, tq⟩
      exact (I.xb q hq).2.2 (z ▸ hx)

/-- an object of the mini heap changed -/
theorem Inv.set {C : Cx} {ρ : Wd} {mh : MH} {h h' : Heap} (I : Inv C ρ mh h) {i : Nat} {a : Addr} {mo : MO} {o : Obj} (hi : i < mh.length) (ha : ρ.ids[i]? = some a)
    (hs : Heap.ExtBut a h h') (hg : h'.get? a = some o) (ho : ObjR ρ a mo o) : Inv C ρ (mh.set i mo) h' := by
  have hm := List.mem_of_getElem? ha
  have bl : ∀ b o, C.base.get? b = some o → b ≠ a := fun b o e z => by subst z; rw [I.new b hm] at e; cases e
  refine ⟨by simp [I.len], I.nd, fun j mo' hj => ?_, fun p hp => hs _ _ (fun e => I.sep p hp (e ▸ hm)) (I.fz p hp), I.sep, I.st, I.new, I.newf, fun b o' e hb => hs b o' (bl b o' e) (I.keep b o' e hb), I.tabKeep fun p hp b o hb' e => hs b o ?_ e, I.xb, I.pw⟩
  · by_cases hij : i = j
    · subst hij
      rw [List.getElem?_set_self hi] at hj
      cases hj
      exact ⟨a, o, ha, hg, ho⟩
    · rw [List.getElem?_set_ne hij] at hj
      obtain ⟨b, o', h1, h2, h3⟩ := I.obj j mo' hj
      refine ⟨b, o', h1, hs b o' (fun e => hij ?_) h2, h3⟩
      subst e
      obtain ⟨li, ei⟩ := List.getElem?_eq_some_iff.mp ha
      obtain ⟨lj, ej⟩ := List.getElem?_eq_some_iff.mp h1
      exact (List.getElem_inj I.nd).mp (ei.trans ej.symm)
  · obtain ⟨⟨o1, e1⟩, ⟨o2, e2⟩, _⟩ := I.xb p hp
    rcases hb' with rfl | rfl
    · exact bl _ _ e1
    · exact bl _ _ e2

/-- the state beyond the heap -/
structure SOk (C : Cx) (s : Shared) : Prop where
  os : s.os = C.os
  gens : AllBare s.gens

theorem SOk.heap {C : Cx} {s : Shared} (h : SOk C s) (x : Heap) (t : Nat) : SOk C { s with heap := x, toks := t } := ⟨h.os, h.gens⟩

/-- from h to h' : the mini heap grew, all that is not of it stands, but for the code tables and the addresses of F -/
structure Ext (C : Cx) (ρ : Wd) (F : List Addr) (h : Heap) (ρ' : Wd) (h' : Heap) : Prop where
  pre : ρ.le ρ'
  keep : ∀ b o, h.get? b = some o → b ∉ ρ.ids → b ∉ C.X → b ∉ F → h'.get? b = some o
  freshI : ∀ a ∈ ρ'.ids, a ∈ ρ.ids ∨ h.get? a = none
  fresh : ∀ a, ρ'.has a → ρ.has a ∨ h.get? a = none
  live : ∀ b o, h.get? b = some o → ∃ o', h'.get? b = some o'

theorem Ext.refl {C : Cx} (ρ : Wd) (F : List Addr) (h : Heap) : Ext C ρ F h ρ h := ⟨.refl ρ, fun _ _ e _ _ _ => e, fun _ ha => .inl ha, fun _ ha => .inl ha, fun _ o e => ⟨o, e⟩⟩
theorem Ext.trans {C : Cx} {ρ ρ' ρ'' : Wd} {F : List Addr} {h h' h'' : Heap} (x : Ext C ρ F h ρ' h') (y : Ext C ρ' F h' ρ'' h'') : Ext C ρ F h ρ'' h'' := by
  have back : ∀ a, h'.get? a = none → h.get? a = none := fun a q => by
    cases e : h.get? a with
    | none => rfl
    | some o => obtain ⟨o', e'⟩ := x.live a o e; rw [e'] at q; cases q
  refine ⟨x.pre.trans y.pre, fun b o e hb hx hf => ?_, fun a ha => ?_, fun a ha => ?_, fun b o e => ?_⟩
  · refine y.keep b o (x.keep b o e hb hx hf) (fun hm => ?_) hx hf
    rcases x.freshI b hm with q | q
    · exact hb q
    · rw [e] at q; cases q
  · rcases y.freshI a ha with q | q
    · exact x.freshI a q
    · exact .inr (back a q)
  · rcases y.fresh a ha with q | q
    · exact x.fresh a q
    · exact .inr (back a q)
  · obtain ⟨o', e'⟩ := x.live b o e
    exact y.live b o' e'
theorem Ext.more {C : Cx} {ρ ρ' : Wd} {F G : List Addr} {h h' : Heap} (x : Ext C ρ F h ρ' h') (hs : ∀ a ∈ F, a ∈ G ∨ h.get? a = none) : Ext C ρ G h ρ' h' :=
  ⟨x.pre, fun b o e hb hx hg => x.keep b o e hb hx fun hm => (hs b hm).elim hg fun q => absurd (e.symm.trans q) (by simp), x.freshI, x.fresh, x.live⟩
/-- a step at an address that was not there -/
theorem Ext.step {C : Cx} {ρ ρ' : Wd} {F : List Addr} {h h' h'' : Heap} (x : Ext C ρ F h ρ' h') {c : Addr} (hc : h.get? c = none) (hk : Heap.ExtBut c h' h'') : Ext C ρ F h ρ' h'' := by
  have ne : ∀ b o, h.get? b = some o → b ≠ c := fun b o e z => by subst z; rw [hc] at e; cases e
  exact ⟨x.pre, fun b o e hb hx hf => hk b o (ne b o e) (x.keep b o e hb hx hf), x.freshI, x.fresh, fun b o e => let ⟨o', e'⟩ := x.live b o e; ⟨o', hk b o' (ne b o e) e'⟩⟩
theorem Ext.all {C : Cx} {ρ : Wd} {h h' : Heap} (hk : ∀ b o, h.get? b = some o → h'.get? b = some o) : Ext C ρ [] h ρ h' :=
  ⟨.refl ρ, fun b o e _ _ _ => hk b o e, fun _ ha => .inl ha, fun _ ha => .inl ha, fun b o e => ⟨o, hk b o e⟩⟩
theorem Ext.push {C : Cx} (ρ : Wd) (h : Heap) (o : Obj) : Ext C ρ [] h (ρ.push h.objs.size) (h.push o) := by
  refine ⟨ρ.le_push _, fun b o' e _ _ _ => Heap.get?_push_of_some _ e, fun a ha => ?_, fun a ha => ?_, fun b o' e => ⟨o', Heap.get?_push_of_some _ e⟩⟩
  · rcases List.mem_append.mp ha with q | q
    · exact .inl q
    · simp at q; subst q; exact .inr (get_size _)
  · rcases ha with ha | ha
    · rcases List.mem_append.mp ha with q | q
      · exact .inl (.inl q)
      · simp at q; subst q; exact .inr (get_size _)
    · exact .inl (.inr ha)
theorem Ext.pushF {C : Cx} (ρ : Wd) (h : Heap) (o : Obj) : Ext C ρ [] h (ρ.froze h.objs.size o) (h.push o) := by
  refine ⟨ρ.le_froze _ _, fun b o' e _ _ _ => Heap.get?_push_of_some _ e, fun a ha => .inl ha, fun a ha => ?_, fun b o' e => ⟨o', Heap.get?_push_of_some _ e⟩⟩
  rcases ha with ha | ⟨o', ha⟩
  · exact .inl (.inl ha)
  · rcases List.mem_cons.mp ha with e | q
    · cases e; exact .inr (get_size _)
    · exact .inl (.inr ⟨o', q⟩)
theorem Ext.set {C : Cx} {ρ : Wd} {h h' : Heap} {a : Addr} (ha : a ∈ ρ.ids) (hs : Heap.SameBut a h h') (hl : ∃ o, h'.get? a = some o) : Ext C ρ [] h ρ h' :=
  ⟨.refl ρ, fun b o e hb _ _ => (hs.2 b fun z => hb (z ▸ ha)).trans e, fun _ q => .inl q, fun _ q => .inl q, fun b o e => by
    by_cases z : b = a
    · subst z; exact hl
    · exact ⟨o, (hs.2 b z).trans e⟩⟩
theorem Ext.one {C : Cx} {ρ : Wd} {F : List Addr} {h h' : Heap} {a : Addr} (hs : Heap.SameBut a h h') (ha : a ∈ F) (hl : ∃ o, h'.get? a = some o) : Ext C ρ F h ρ h' :=
  ⟨.refl ρ, fun b o e _ _ hf => (hs.2 b fun z => hf (z ▸ ha)).trans e, fun _ q => .inl q, fun _ q => .inl q, fun b o e => by
    by_cases z : b = a
    · subst z; exact hl
    · exact ⟨o, (hs.2 b z).trans e⟩⟩
theorem Ext.grow {C : Cx} {ρ : Wd} {h h' : Heap} {P : Addr} (hP : P ∈ C.X) (hk : Heap.ExtBut P h h') (hl : ∃ o, h'.get? P = some o) : Ext C ρ [] h ρ h' :=
  ⟨.refl ρ, fun b o e _ hx _ => hk b o (fun z => hx (z ▸ hP)) e, fun _ q => .inl q, fun _ q => .inl q, fun b o e => by
    by_cases z : b = P
    · subst z; exact hl
    · exact ⟨o, hk b o z e⟩⟩
theorem Ext.wide {C : Cx} {ρ ρ' : Wd} {G : List Addr} {h h' : Heap} (x : Ext C ρ [] h ρ' h') : Ext C ρ G h ρ' h' := x.more (by simp)

/-- what is known of the heap at the law's entry -/
structure Cx.Ok (C : Cx) : Prop where
  g : C.base.Ns mainGlobals C.mg
  b : C.base.Ns builtinsNs C.mb
  nolimit : C.base.NoLimit
  builtins : ∀ x : Str, x ≠ "__name__" → C.mb x = bootBuiltins x
  k : C.K.In C.base
  kx : ∀ a ∈ C.X, C.K.lookup a = none
  gx : mainGlobals ∉ C.X
  bx : builtinsNs ∉ C.X
  sx : cStatics ∉ C.X
  nd : C.tbl.Nodup
  tu : ∀ p ∈ C.T, ∀ q ∈ C.T, q.2 = p.2 → q = p
  mod : ∃ bm o, C.mg "__builtins__" = some (.ref bm) ∧ bm ≠ builtinsNs ∧ C.base.get? bm = some o ∧ o.cls = .type "module" ∧ o.dict = some builtinsNs ∧ o.data = .plain ∧ bm ∉ C.X

theorem Ns.uniq {h : Heap} {a : Addr} {m m' : Str → Option Value} (x : h.Ns a m) (y : h.Ns a m') : m = m' := by
  obtain ⟨o, es, ep, ho, hd, _, hf⟩ := x
  obtain ⟨o', es', ep', ho', hd', _, hf'⟩ := y
  rw [ho] at ho'; cases ho'
  rw [hd] at hd'; cases hd'
  funext n
  rw [← hf, ← hf']

theorem Ns.keep1 {h h' : Heap} {a : Addr} {m : Str → Option Value} (x : h.Ns a m) (hk : ∀ o, h.get? a = some o → h'.get? a = some o) : h'.Ns a m :=
  let ⟨o, es, ep, ho, r⟩ := x; ⟨o, es, ep, hk o ho, r⟩
theorem Ns.live {h : Heap} {a : Addr} {m : Str → Option Value} (x : h.Ns a m) : ∃ o, h.get? a = some o := let ⟨o, _, _, ho, _⟩ := x; ⟨o, ho⟩
theorem IsCell.keep1 {h h' : Heap} {a : Addr} {v : Option Value} (x : h.IsCell a v) (hk : ∀ o, h.get? a = some o → h'.get? a = some o) : h'.IsCell a v :=
  let ⟨o, ho, r⟩ := x; ⟨o, hk o ho, r⟩

theorem Inv.g {C : Cx} {ρ : Wd} {mh : MH} {h : Heap} (I : Inv C ρ mh h) (ok : C.Ok) : h.Ns mainGlobals C.mg := Ns.keep1 ok.g fun o e => I.keep _ o e ok.gx
theorem Inv.b {C : Cx} {ρ : Wd} {mh : MH} {h : Heap} (I : Inv C ρ mh h) (ok : C.Ok) : h.Ns builtinsNs C.mb := Ns.keep1 ok.b fun o e => I.keep _ o e ok.bx
theorem Inv.nolimit {C : Cx} {ρ : Wd} {mh : MH} {h : Heap} (I : Inv C ρ mh h) (ok : C.Ok) : h.NoLimit :=
  let ⟨mc, hn, e⟩ := ok.nolimit; ⟨mc, Ns.keep1 hn fun o e => I.keep _ o e ok.sx, e⟩
theorem Inv.k {C : Cx} {ρ : Wd} {mh : MH} {h : Heap} (I : Inv C ρ mh h) (ok : C.Ok) : C.K.In h := fun a o e => I.keep a o (ok.k a o e) fun hx => by
  rw [ok.kx a hx] at e; cases e

/-! ## frames -/
noncomputable def fa (env : Env) : List Addr := env.locals :: env.cells.map (·.2)

noncomputable def VarAt (env : Env) (h : Heap) (n : Str) (v : Value) : Prop :=
  match env.kindOf n with
  | some .local => ∃ m, h.Ns env.locals m ∧ m n = some v
  | some .cell => ∃ c, env.cells.lookup n = some c ∧ h.IsCell c (some v)
  | some .free => ∃ c, env.cells.lookup n = some c ∧ h.IsCell c (some v)
  | _ => True

structure FR (C : Cx) (ρ : Wd) (env : Env) (me : ME) (h : Heap) : Prop where
  kind : env.scope.kind = .function
  glob : env.globals = mainGlobals
  bui : env.builtins = builtinsNs
  ns : ∃ m, h.Ns env.locals m
  cells : ∀ n c, (n, c) ∈ env.cells → ∃ v, h.IsCell c v
  out : ∀ a ∈ fa env, ¬ ρ.has a ∧ C.base.get? a = none
  outX : ∀ a ∈ fa env, a ∉ C.X
  apart : env.cells.Pairwise fun x y => x.2 ≠ y.2
  nl : ∀ n c, (n, c) ∈ env.cells → c ≠ env.locals
  has : ∀ n, env.kindOf n = some .cell → ∃ c, env.cells.lookup n = some c
  hasF : ∀ n, env.kindOf n = some .free → ∃ c, env.cells.lookup n = some c
  var : ∀ x mv n, me.lookup x = some mv → C.tbl[x]? = some n → ∃ v, VR ρ mv v ∧ VarAt env h n v

theorem FR.liveFa {C : Cx} {ρ : Wd} {env : Env} {me : ME} {h : Heap} (F : FR C ρ env me h) {a : Addr} (ha : a ∈ fa env) : ∃ o, h.get? a = some o := by
  unfold fa at ha
  rcases List.mem_cons.mp ha with rfl | ha
  · obtain ⟨m, hm⟩ := F.ns; exact Ns.live hm
  · obtain ⟨⟨n, c⟩, hm, rfl⟩ := List.mem_map.mp ha
    obtain ⟨v, o, ho, _⟩ := F.cells n c hm
    exact ⟨o, ho⟩

theorem VarAt.keep {env : Env} {h h' : Heap} {n : Str} {v : Value} (x : VarAt env h n v) (hk : ∀ a ∈ fa env, ∀ o, h.get? a = some o → h'.get? a = some o) : VarAt env h' n v := by
  unfold VarAt at x ⊢
  have hl : env.locals ∈ fa env := by simp [fa]
  have hc : ∀ c, env.cells.lookup n = some c → c ∈ fa env := fun c e => by
    unfold fa
    exact List.mem_cons_of_mem _ (List.mem_map.mpr ⟨(n, c), mem_of_lookup e, rfl⟩)
  split at x
  · obtain ⟨m, hm, e⟩ := x; exact ⟨m, Ns.keep1 hm (hk _ hl), e⟩
  · obtain ⟨c, e, hv⟩ := x; exact ⟨c, e, IsCell.keep1 hv (hk _ (hc c e))⟩
  · obtain ⟨c, e, hv⟩ := x; exact ⟨c, e, IsCell.keep1 hv (hk _ (hc c e))⟩
  · trivial

/-- a frame stands while its objects do -/
theorem FR.keep {C : Cx} {ρ ρ' : Wd} {env : Env} {me : ME} {h h' : Heap} (F : FR C ρ env me h) (hp : ρ.le ρ') (hk : ∀ a ∈ fa env, ∀ o, h.get? a = some o → h'.get? a = some o) (hn : ∀ a ∈ fa env, ¬ ρ'.has a) : FR C ρ' env me h' := by
  have hl : env.locals ∈ fa env := by simp [fa]
  refine ⟨F.kind, F.glob, F.bui, ?_, fun n c hm => ?_, fun a ha => ⟨hn a ha, (F.out a ha).2⟩, F.outX, F.apart, F.nl, F.has, F.hasF, fun x mv n hx ht => ?_⟩
  · obtain ⟨m, hm⟩ := F.ns; exact ⟨m, Ns.keep1 hm (hk _ hl)⟩
  · obtain ⟨v, hv⟩ := F.cells n c hm
    exact ⟨v, IsCell.keep1 hv (hk c (by unfold fa; exact List.mem_cons_of_mem _ (List.mem_map.mpr ⟨(n, c), hm, rfl⟩)))⟩
  · obtain ⟨v, h1, h2⟩ := F.var x mv n hx ht
    exact ⟨v, h1.mono hp, h2.keep hk⟩

theorem not_has_ids {ρ : Wd} {a : Addr} (h : ¬ ρ.has a) : a ∉ ρ.ids := fun q => h (.inl q)

theorem FR.ext {C : Cx} {ρ ρ' : Wd} {G : List Addr} {env : Env} {me : ME} {h h' : Heap} (F : FR C ρ env me h) (x : Ext C ρ G h ρ' h') (hG : ∀ a ∈ fa env, a ∉ G) : FR C ρ' env me h' := by
  refine F.keep x.pre (fun a ha o e => x.keep a o e (not_has_ids (F.out a ha).1) (F.outX a ha) (hG a ha)) fun a ha hm => ?_
  rcases x.fresh a hm with q | q
  · exact (F.out a ha).1 q
  · obtain ⟨o, e⟩ := F.liveFa ha
    rw [e] at q; cases q
theorem FR.ext0 {C : Cx} {ρ ρ' : Wd} {env : Env} {me : ME} {h h' : Heap} (F : FR C ρ env me h) (x : Ext C ρ [] h ρ' h') : FR C ρ' env me h' := F.ext x fun _ _ => by simp

/-- how deep, how much room -/
structure Aok (d : Nat) (A : Around) : Prop where
  depth : A.depth + 2 * d ≤ 900
  units : A.units + 16 * d ≤ 9000
  handled : A.handled = none

theorem Aok.deeper {d : Nat} {A : Around} {env : Env} (h : Aok (d + 1) A) : Aok d (A.deeper env) := by
  refine ⟨?_, ?_, h.handled⟩
  · have := h.depth; show A.depth + 1 + 2 * d ≤ 900; omega
  · have := h.units; show A.units + 3 + 16 * d ≤ 9000; omega
theorem Aok.less {d d' : Nat} {A : Around} (h : Aok d A) (hd : d' ≤ d) : Aok d' A := ⟨by have := h.depth; omega, by have := h.units; omega, h.handled⟩
theorem Aok.room {d : Nat} {A : Around} (h : Aok d A) : A.depth < recursionLimit := by have := h.depth; show A.depth < 1000; omega

noncomputable abbrev D := ME → MH → Option (MV × MH)
noncomputable abbrev DL := ME → MH → Option (List MV × MH)
noncomputable abbrev DB := ME → MH → Option (Bool × MH)

noncomputable abbrev Post (C : Cx) (ρ : Wd) (h : Heap) (mh' : MH) (mv : MV) (Q : Value → Shared → Prop) : Prop :=
  ∀ v ρ' s', Ext C ρ [] h ρ' s'.heap → Inv C ρ' mh' s'.heap → SOk C s' → VR ρ' mv v → Q v s'

/-- a tree refines a plain function -/
noncomputable def RT (C : Cx) (d : Nat) (env : Env) (t : Sem Value) (f : D) : Prop :=
  ∀ {me mh mv mh'}, f me mh = some (mv, mh') → ∀ {ρ A s Q E}, Aok d A → Inv C ρ mh s.heap → SOk C s → FR C ρ env me s.heap →
    Post C ρ s.heap mh' mv Q → wpAny C.M A t Q E s
noncomputable abbrev RE (C : Cx) (d : Nat) (env : Env) (e : PySem.Expr) (f : D) : Prop := RT C d env (eval e env) f

noncomputable def RL (C : Cx) (d : Nat) (env : Env) (t : Sem (List Value)) (f : DL) : Prop :=
  ∀ {me mh mvs mh'}, f me mh = some (mvs, mh') → ∀ {ρ A s Q E}, Aok d A → Inv C ρ mh s.heap → SOk C s → FR C ρ env me s.heap →
    (∀ vs ρ' s', Ext C ρ [] s.heap ρ' s'.heap → Inv C ρ' mh' s'.heap → SOk C s' → VRs ρ' mvs vs → Q vs s') → wpAny C.M A t Q E s

noncomputable def RB (C : Cx) (d : Nat) (env : Env) (t : Sem Bool) (f : DB) : Prop :=
  ∀ {me mh b mh'}, f me mh = some (b, mh') → ∀ {ρ A s Q E}, Aok d A → Inv C ρ mh s.heap → SOk C s → FR C ρ env me s.heap →
    (∀ ρ' s', Ext C ρ [] s.heap ρ' s'.heap → Inv C ρ' mh' s'.heap → SOk C s' → Q b s') → wpAny C.M A t Q E s

/-- an operation on values -/
noncomputable abbrev Op1 := MV → MH → Option (MV × MH)
noncomputable abbrev Op2 := MV → MV → MH → Option (MV × MH)
noncomputable def RO1 (C : Cx) (d : Nat) (t : Value → Sem Value) (op : Op1) : Prop :=
  ∀ {a mh mv mh'}, op a mh = some (mv, mh') → ∀ {ρ A s Q E va}, Aok d A → Inv C ρ mh s.heap → SOk C s → VR ρ a va →
    Post C ρ s.heap mh' mv Q → wpAny C.M A (t va) Q E s
noncomputable def RO2 (C : Cx) (d : Nat) (t : Value → Value → Sem Value) (op : Op2) : Prop :=
  ∀ {a b mh mv mh'}, op a b mh = some (mv, mh') → ∀ {ρ A s Q E va vb}, Aok d A → Inv C ρ mh s.heap → SOk C s → VR ρ a va → VR ρ b vb →
    Post C ρ s.heap mh' mv Q → wpAny C.M A (t va vb) Q E s

inductive Fl where
  | next | brk | cont
  | ret (v : MV)
noncomputable def FlR (ρ : Wd) : Fl → Flow → Prop
  | .next, f => f = .next
  | .brk, f => f = .brk
  | .cont, f => f = .cont
  | .ret m, f => ∃ v, f = .ret v ∧ VR ρ m v
noncomputable abbrev DS := ME → MH → Option (Fl × ME × MH)

noncomputable def RS (C : Cx) (d : Nat) (env : Env) (t : Sem Flow) (f : DS) : Prop :=
  ∀ {me mh fl me' mh'}, f me mh = some (fl, me', mh') → ∀ {ρ A s Q E}, Aok d A → Inv C ρ mh s.heap → SOk C s → FR C ρ env me s.heap →
    (∀ fl' ρ' s', Ext C ρ (fa env) s.heap ρ' s'.heap → Inv C ρ' mh' s'.heap → SOk C s' → FR C ρ' env me' s'.heap → FlR ρ' fl fl' → Q fl' s') → wpAny C.M A t Q E s

end Mine

namespace Mine
variable {C : Cx} {d : Nat} {env : Env}

/-! ## plain parts -/
noncomputable def dVar (x : Nat) : D := fun me mh => match me.lookup x with | some v => some (v, mh) | none => none
noncomputable def dC (v : MV) : D := fun _ mh => some (v, mh)
noncomputable def dOp1 (o : Op1) (f : D) : D := fun me mh => match f me mh with | some (a, mh1) => o a mh1 | none => none
noncomputable def dOp2 (o : Op2) (f g : D) : D := fun me mh => match f me mh with
  | some (a, mh1) => (match g me mh1 with | some (b, mh2) => o a b mh2 | none => none)
  | none => none

theorem dOp1_some {o : Op1} {f : D} {me : ME} {mh : MH} {r : MV × MH} (h : dOp1 o f me mh = some r) : ∃ a mh1, f me mh = some (a, mh1) ∧ o a mh1 = some r := by
  unfold dOp1 at h
  split at h
  · exact ⟨_, _, by assumption, h⟩
  · cases h
theorem dOp2_some {o : Op2} {f g : D} {me : ME} {mh : MH} {r : MV × MH} (h : dOp2 o f g me mh = some r) :
    ∃ a mh1 b mh2, f me mh = some (a, mh1) ∧ g me mh1 = some (b, mh2) ∧ o a b mh2 = some r := by
  unfold dOp2 at h
  split at h
  · split at h
    · exact ⟨_, _, _, _, by assumption, by assumption, h⟩
    · cases h
  · cases h

/-- a value is made, the heap stands -/
theorem Post.same {ρ : Wd} {mh : MH} {mv : MV} {Q : Value → Shared → Prop} {s : Shared} (h : Post C ρ s.heap mh mv Q) (I : Inv C ρ mh s.heap) (so : SOk C s) (v : Value) (hv : VR ρ mv v) (t : Nat) :
    Q v { s with toks := t } := h v ρ _ (Ext.refl _ _ _) I (so.heap _ _) hv
theorem Post.here {ρ : Wd} {mh : MH} {mv : MV} {Q : Value → Shared → Prop} {s : Shared} (h : Post C ρ s.heap mh mv Q) (I : Inv C ρ mh s.heap) (so : SOk C s) (v : Value) (hv : VR ρ mv v) :
    Q v s := h v ρ _ (Ext.refl _ _ _) I so hv

/-- a new object of the mini heap -/
theorem Post.new {ρ : Wd} {mh : MH} {mo : MO} {Q : Value → Shared → Prop} {s : Shared} (h : Post C ρ s.heap (mh ++ [mo]) (.ref mh.length) Q) (I : Inv C ρ mh s.heap) (so : SOk C s) {o : Obj}
    (ho : ObjR ρ s.heap.objs.size mo o) (t : Nat) : Q (.ref s.heap.objs.size) { s with heap := s.heap.push o, toks := t } :=
  h _ _ _ (Ext.push _ _ _) (I.push ho) (so.heap _ _) (.ref' (by rw [← I.len]; simp))
/-- a new object of pure data -/
theorem Post.newF {ρ : Wd} {mh : MH} {mv : MV} {Q : Value → Shared → Prop} {s : Shared} (h : Post C ρ s.heap mh mv Q) (I : Inv C ρ mh s.heap) (so : SOk C s) {o : Obj} (hl : o.isFreed = false)
    (ho : VR (ρ.froze s.heap.objs.size o) mv (.ref s.heap.objs.size)) (t : Nat) : Q (.ref s.heap.objs.size) { s with heap := s.heap.push o, toks := t } :=
  h _ _ _ (Ext.pushF _ _ _) (I.pushF hl) (so.heap _ _) ho
theorem mem_froze {ρ : Wd} {a : Addr} {o : Obj} : (a, o) ∈ (ρ.froze a o).fz := List.mem_cons_self
theorem Post.lst {ρ : Wd} {mh : MH} {ms : List MV} {vs : List Value} {n : Nat} {Q : Value → Shared → Prop} {s : Shared} (h : Post C ρ s.heap mh (.lst ms) Q) (I : Inv C ρ mh s.heap) (so : SOk C s) (hv : VRs ρ ms vs) (t : Nat) :
    Q (.ref s.heap.objs.size) { s with heap := s.heap.push (listO vs n), toks := t } :=
  h.newF I so rfl (.lst' mem_froze (hv.mono (ρ.le_froze _ _))) t
theorem Post.tup {ρ : Wd} {mh : MH} {ms : List MV} {vs : List Value} {n : Nat} {Q : Value → Shared → Prop} {s : Shared} (h : Post C ρ s.heap mh (.tup ms) Q) (I : Inv C ρ mh s.heap) (so : SOk C s) (hv : VRs ρ ms vs) (t : Nat) :
    Q (.ref s.heap.objs.size) { s with heap := s.heap.push (tupO vs n), toks := t } :=
  h.newF I so rfl (.tup' mem_froze (hv.mono (ρ.le_froze _ _))) t

/-! ## names, constants -/
theorem RE_Name {x : Nat} {n : Str} {pos : Pos} (hx : C.tbl[x]? = some n) (hk : env.kindOf n = some .local ∨ env.kindOf n = some .cell ∨ env.kindOf n = some .free)
    (hd : (n == ("__debug__" : Str)) = false) (hc : (n == ("__classdict__" : Str)) = false) : RE C d env (.Name n pos) (dVar x) := by
  intro me mh mv mh' hf ρ A s Q E ao I so F hQ
  unfold dVar at hf
  split at hf
  · rename_i v hv
    cases hf
    obtain ⟨rv, h1, h2⟩ := F.var x mv n hv hx
    refine wpAny_Name ?_ hd
    unfold VarAt at h2
    rcases hk with e | e | e
    · rw [e] at h2
      obtain ⟨m, hm, hn⟩ := h2
      exact wpAny_loadName_local F.kind e hm hn (hQ.here I so _ h1)
    · rw [e] at h2
      obtain ⟨c, hc, hn⟩ := h2
      exact wpAny_loadName_cell F.kind e hc hn (hQ.here I so _ h1)
    · rw [e] at h2
      obtain ⟨c, hcc, hn⟩ := h2
      exact wpAny_loadName_free F.kind e hcc hn (hQ.here I so _ h1) hc
  · cases hf

theorem RE_int {i : Int} {k pos} : RE C d env (.Constant (.int i) k pos) (dC (.int i)) := by
  intro me mh mv mh' hf ρ A s Q E ao I so F hQ
  cases hf
  exact wpAny_Constant_int (hQ.same I so _ .int' _)
theorem RE_str {x : Str} {k pos} : RE C d env (.Constant (.str x) k pos) (dC (.str x)) := by
  intro me mh mv mh' hf ρ A s Q E ao I so F hQ
  cases hf
  exact wpAny_Constant_str (hQ.same I so _ .str' _)
theorem RE_bool {b : Bool} {k pos} : RE C d env (.Constant (.bool b) k pos) (dC (.bool b)) := by
  intro me mh mv mh' hf ρ A s Q E ao I so F hQ
  cases hf
  exact wpAny_Constant_bool (hQ.here I so _ .bool')
/-! ## operators -/
theorem RE_BinOp {l r : PySem.Expr} {op : Operator} {pos : Pos} {f g : D} {o : Op2} (hl : RE C d env l f) (hr : RE C d env r g) (ho : RO2 C d (binaryOp op) o) :
    RE C d env (.BinOp l op r pos) (dOp2 o f g) := by
  intro me mh mv mh' hf ρ A s Q E ao I so F hQ
  obtain ⟨a, mh1, b, mh2, h1, h2, h3⟩ := dOp2_some hf
  exact wpAny_BinOp (hl h1 ao I so F fun va ρ1 s1 x1 I1 so1 v1 => hr h2 ao I1 so1 (F.ext0 x1) fun vb ρ2 s2 x2 I2 so2 v2 =>
    ho h3 ao I2 so2 (v1.mono x2.pre) v2 fun v ρ3 s3 x3 I3 so3 v3 => hQ v ρ3 s3 (x1.trans (x2.trans x3)) I3 so3 v3)

theorem RE_Compare {l r : PySem.Expr} {op : CmpOp} {pos : Pos} {f g : D} {o : Op2} (hl : RE C d env l f) (hr : RE C d env r g) (ho : RO2 C d (compareOp op) o)
    (hm : behindInMarks op r = false := by with_unfolding_all rfl) :
    RE C d env (.Compare l [op] [r] pos) (dOp2 o f g) := by
  intro me mh mv mh' hf ρ A s Q E ao I so F hQ
  obtain ⟨a, mh1, b, mh2, h1, h2, h3⟩ := dOp2_some hf
  exact wpAny_Compare1 (hl h1 ao I so F fun va ρ1 s1 x1 I1 so1 v1 => hr h2 ao I1 so1 (F.ext0 x1) fun vb ρ2 s2 x2 I2 so2 v2 =>
    ho h3 ao I2 so2 (v1.mono x2.pre) v2 fun v ρ3 s3 x3 I3 so3 v3 => hQ v ρ3 s3 (x1.trans (x2.trans x3)) I3 so3 v3) hm

/-! ### ints and strs -/
noncomputable def oAdd : Op2 := fun a b mh => match a, b with
  | .int x, .int y => some (.int (x + y), mh)
  | .str x, .str y => if x.length + y.length ≤ sizeLine then some (.str (x ++ y), mh) else none
  | .lst xs, .lst ys => if xs.length + ys.length ≤ sizeLine then some (.lst (xs ++ ys), mh) else none
  | _, _ => none
noncomputable def oSub : Op2 := fun a b mh => match a, b with
  | .int x, .int y => some (.int (x - y), mh)
  | _, _ => none
noncomputable def oDiv : Op2 := fun a b mh => match a, b with
  | .int x, .int y => if 0 < y ∧ y < 1073741824 then some (.int (x.fdiv y), mh) else none
  | _, _ => none
noncomputable def oMod : Op2 := fun a b mh => match a, b with
  | .int x, .int y => if 0 < y then some (.int (x.fmod y), mh) else none
  | _, _ => none
noncomputable def oPow : Op2 := fun a b mh => match a, b with
  | .int x, .int y => if x = 2 ∧ 0 ≤ y ∧ y ≤ 1000 then some (.int (x ^ y.toNat), mh) else none
  | _, _ => none
noncomputable def oMul : Op2 := fun a b mh => match a, b with
  | .int x, .int y => if -1073741824 < x ∧ x < 1073741824 then some (.int (x * y), mh) else none
  | .str x, .int n => if 0 ≤ n ∧ n ≤ 1000 ∧ x.length ≤ 1000 then some (.str (Txt.mul x n), mh) else none
  | _, _ => none

theorem str_len0 {x : Str} (h : (x.length == 0) = true) : x = ⟨#[]⟩ := by
  cases x with | mk c =>
  have : c.size = 0 := by simpa [Str.length] using h
  rw [Array.size_eq_zero_iff.mp this]

theorem str_app_nil (x : Str) : x ++ (⟨#[]⟩ : Str) = x := by
  cases x with | mk c =>
  show Str.mk (c ++ #[]) = _
  rw [Array.append_empty]
theorem str_nil_app (x : Str) : (⟨#[]⟩ : Str) ++ x = x := by
  cases x with | mk c =>
  show Str.mk (#[] ++ c) = _
  rw [Array.empty_append]
theorem isL_of {h : Heap} {a : Addr} {vs : List Value} {n : Nat} (e : h.get? a = some (listO vs n)) : IsL h a vs.toArray n := e

theorem rAdd : RO2 C d (binaryOp .Add) oAdd := by
  intro a b mh mv mh' h ρ A s Q E va vb ao I so ha hb hQ
  unfold oAdd at h
  split at h
  · cases h
    obtain ⟨t, rfl⟩ := ha.int_
    obtain ⟨u, rfl⟩ := hb.int_
    exact add_int (hQ.same I so _ .int' _)
  · split at h
    · rename_i x y hl
      cases h
      obtain ⟨t, rfl⟩ := ha.str_
      obtain ⟨u, rfl⟩ := hb.str_
      refine PySem.P.add_str ?_
      split
      · rename_i e
        have : x ++ y = y := by rw [str_len0 e, str_nil_app]
        exact hQ.here I so _ (by rw [this]; exact .str')
      · split
        · rename_i e
          have : x ++ y = x := by rw [str_len0 e, str_app_nil]
          exact hQ.here I so _ (by rw [this]; exact .str')
        · refine ⟨?_, hQ.same I so _ .str' _⟩
          show (x.cps ++ y.cps).size ≤ sizeLine
          rw [Array.size_append]; exact hl
    · cases h
  · split at h
    · rename_i xs ys hl
      cases h
      obtain ⟨a, vs, n, ea, rfl, r1⟩ := ha.lst_
      obtain ⟨b, ws, m, eb, rfl, r2⟩ := hb.lst_
      refine PySem.P.add_list (isL_of (I.fz _ ea)) (isL_of (I.fz _ eb)) ?_ (by simp [r1.length, r2.length]; exact hl)
      have := hQ.lst (n := 0) I so (r1.append r2) s.toks
      simpa using this
    · cases h
  · cases h

theorem rSub : RO2 C d (binaryOp .Sub) oSub := by
  intro a b mh mv mh' h ρ A s Q E va vb ao I so ha hb hQ
  unfold oSub at h
  split at h
  · cases h
    obtain ⟨t, rfl⟩ := ha.int_
    obtain ⟨u, rfl⟩ := hb.int_
    exact sub_int (hQ.same I so _ .int' _)
  · cases h
theorem rDiv : RO2 C d (binaryOp .FloorDiv) oDiv := by
  intro a b mh mv mh' h ρ A s Q E va vb ao I so ha hb hQ
  unfold oDiv at h
  split at h
  · split at h
    · rename_i x y hy
      cases h
      obtain ⟨t, rfl⟩ := ha.int_
      obtain ⟨u, rfl⟩ := hb.int_
      exact floordiv_int (by omega) (hQ.same I so _ .int' _) (.inl (PyProof.noPylong_small (by omega)))
    · cases h
  · cases h
theorem rMod : RO2 C d (binaryOp .Mod) oMod := by
  intro a b mh mv mh' h ρ A s Q E va vb ao I so ha hb hQ
  unfold oMod at h
  split at h
  · split at h
    · rename_i x y hy
      cases h
      obtain ⟨t, rfl⟩ := ha.int_
      obtain ⟨u, rfl⟩ := hb.int_
      exact mod_int' (by omega) (hQ.same I so _ .int' _)
    · cases h
  · cases h
theorem rPow : RO2 C d (binaryOp .Pow) oPow := by
  intro a b mh mv mh' h ρ A s Q E va vb ao I so ha hb hQ
  unfold oPow at h
  split at h
  · split at h
    · rename_i x y hy
      obtain ⟨rfl, h0, h1⟩ := hy
      cases h
      obtain ⟨t, rfl⟩ := ha.int_
      obtain ⟨u, rfl⟩ := hb.int_
      refine pow_int h0 ?_ (hQ.same I so _ .int' _)
      have : Builtin.Int.intBits 2 = 2 := by decide +kernel
      rw [this]; omega
    · cases h
  · cases h
theorem rMul : RO2 C d (binaryOp .Mult) oMul := by
  intro a b mh mv mh' h ρ A s Q E va vb ao I so ha hb hQ
  unfold oMul at h
  split at h
  · split at h
    · rename_i x y hy
      cases h
      obtain ⟨t, rfl⟩ := ha.int_
      obtain ⟨u, rfl⟩ := hb.int_
      exact mul_int (hQ.same I so _ .int' _) (IntMulOk.of_left (intBits_le_64 (by omega) (by omega)))
    · cases h
  · split at h
    · rename_i x n hn
      obtain ⟨h0, h1, h2⟩ := hn
      cases h
      obtain ⟨t, rfl⟩ := ha.str_
      obtain ⟨u, rfl⟩ := hb.int_
      exact SB.mul (mulOk_of 1000 1000 h2 h1 (by omega) (by decide) (by decide)) fun t' k => hQ.same I so _ .str' _
    · cases h
  · cases h

noncomputable def oLt : Op2 := fun a b mh => match a, b with
  | .int x, .int y => some (.bool (decide (x < y)), mh)
  | .str x, .str y => some (.bool (decide (x.cps.toList < y.cps.toList)), mh)
  | _, _ => none
noncomputable def oGt : Op2 := fun a b mh => match a, b with
  | .int x, .int y => some (.bool (decide (y < x)), mh)
  | _, _ => none
theorem rLt : RO2 C d (compareOp .Lt) oLt := by
  intro a b mh mv mh' h ρ A s Q E va vb ao I so ha hb hQ
  unfold oLt at h
  split at h
  · cases h
    obtain ⟨t, rfl⟩ := ha.int_
    obtain ⟨u, rfl⟩ := hb.int_
    exact lt_int (hQ.here I so _ .bool')
  · cases h
    obtain ⟨t, rfl⟩ := ha.str_
    obtain ⟨u, rfl⟩ := hb.str_
    exact PySem.P.lt_str (hQ.here I so _ .bool')
  · cases h
theorem rGt : RO2 C d (compareOp .Gt) oGt := by
  intro a b mh mv mh' h ρ A s Q E va vb ao I so ha hb hQ
  unfold oGt at h
  split at h
  · cases h
    obtain ⟨t, rfl⟩ := ha.int_
    obtain ⟨u, rfl⟩ := hb.int_
    exact gt_int (hQ.here I so _ .bool')
  · cases h

/-! ### the data of a value; == -/
mutual
noncomputable def toD : MV → Option PyData
  | .none => some .none
  | .bool b => some (.bool b)
  | .int i => some (.int i)
  | .str s => some (.str s)
  | .lst vs => (toDs vs).map .list
  | .tup vs => (toDs vs).map .tuple
  | _ => none
noncomputable def toDs : List MV → Option (List PyData)
  | [] => some []
  | v :: vs => match toD v with
    | some d => (toDs vs).map (d :: ·)
    | none => none
end

mutual
theorem toD_reads {ρ : Wd} {mh : MH} {h : Heap} (I : Inv C ρ mh h) : ∀ (m : MV) (v : Value) (dd : PyData), VR ρ m v → toD m = some dd → ∃ as, Reads h v dd as
  | .none, v, dd, hv, e => by simp [toD] at e; subst e; cases hv.none_; exact ⟨_, .none⟩
  | .bool b, v, dd, hv, e => by simp [toD] at e; subst e; cases hv.bool_; exact ⟨_, .bool b⟩
  | .int i, v, dd, hv, e => by simp [toD] at e; subst e; obtain ⟨t, rfl⟩ := hv.int_; exact ⟨_, .int i t⟩
  | .str x, v, dd, hv, e => by simp [toD] at e; subst e; obtain ⟨t, rfl⟩ := hv.str_; exact ⟨_, .str x t⟩
  | .ref i, v, dd, hv, e => by simp [toD] at e
  | .rng _ _, v, dd, hv, e => by simp [toD] at e
  | .strm _ _, v, dd, hv, e => by simp [toD] at e
  | .lst ms, v, dd, hv, e => by
    obtain ⟨a, ws, n, ea, rfl, r⟩ := hv.lst_
    unfold toD at e
    obtain ⟨ds, h1, rfl⟩ := Option.map_eq_some_iff.mp e
    obtain ⟨as, hr⟩ := toDs_reads I ms ws ds r h1
    exact ⟨_, .list (I.fz _ ea) rfl rfl (by simpa using hr)⟩
  | .tup ms, v, dd, hv, e => by
    obtain ⟨a, ws, n, ea, rfl, r⟩ := hv.tup_
    unfold toD at e
    obtain ⟨ds, h1, rfl⟩ := Option.map_eq_some_iff.mp e
    obtain ⟨as, hr⟩ := toDs_reads I ms ws ds r h1
    exact ⟨_, .tuple (I.fz _ ea) rfl rfl (by simpa using hr)⟩
theorem toDs_reads {ρ : Wd} {mh : MH} {h : Heap} (I : Inv C ρ mh h) : ∀ (ms : List MV) (vs : List Value) (ds : List PyData), VRs ρ ms vs → toDs ms = some ds → ∃ as, ReadsAll h vs ds as
  | [], vs, ds, hv, e => by simp [toDs] at e; subst e; cases hv; exact ⟨_, .nil⟩
  | m :: ms, vs, ds, hv, e => by
    cases hv with
    | cons h1 h2 =>
      unfold toDs at e
      split at e
      · rename_i d0 hd
        obtain ⟨ds', h3, rfl⟩ := Option.map_eq_some_iff.mp e
        obtain ⟨as, ha⟩ := toD_reads I m _ d0 h1 hd
        obtain ⟨bs, hb⟩ := toDs_reads I ms _ ds' h2 h3
        exact ⟨_, .cons ha hb⟩
      · cases e
end

noncomputable def oEq : Op2 := fun a b mh => match toD a, toD b with
  | some x, some y => if SeqAt.shaped x && SeqAt.shaped y then some (.bool (PyData.eqv x y), mh) else none
  | _, _ => none
noncomputable def oNe : Op2 := fun a b mh => match toD a, toD b with
  | some x, some y => if SeqAt.shaped x && SeqAt.shaped y then some (.bool (!PyData.eqv x y), mh) else none
  | _, _ => none
theorem Aok.eqRoom {A : Around} (h : Aok d A) : A.units + 64 < cLine := by have := h.units; show A.units + 64 < 9900; omega
theorem rEq : RO2 C d (compareOp .Eq) oEq := by
  intro a b mh mv mh' h ρ A s Q E va vb ao I so ha hb hQ
  unfold oEq at h
  split at h
  · rename_i x y hx hy
    split at h
    · rename_i hs
      cases h
      obtain ⟨as, ra⟩ := toD_reads I _ _ _ ha hx
      obtain ⟨bs, rb⟩ := toD_reads I _ _ _ hb hy
      have q := Bool.and_eq_true_iff.mp hs
      exact SeqAt.compareEq_shaped ra rb q.1 q.2 ao.eqRoom (hQ.here I so _ .bool')
    · cases h
  · cases h
theorem rNe : RO2 C d (compareOp .NotEq) oNe := by
  intro a b mh mv mh' h ρ A s Q E va vb ao I so ha hb hQ
  unfold oNe at h
  split at h
  · rename_i x y hx hy
    split at h
    · rename_i hs
      cases h
      obtain ⟨as, ra⟩ := toD_reads I _ _ _ ha hx
      obtain ⟨bs, rb⟩ := toD_reads I _ _ _ hb hy
      have q := Bool.and_eq_true_iff.mp hs
      exact SeqAt.compareNe_shaped ra rb q.1 q.2 ao.eqRoom (hQ.here I so _ .bool')
    · cases h
  · cases h

end Mine

namespace Mine
variable {C : Cx} {d : Nat} {env : Env}

/-! ## variables -/
noncomputable def upd : ME → Nat → MV → ME
  | [], x, v => [(x, v)]
  | (y, w) :: r, x, v => if y == x then (y, v) :: r else (y, w) :: upd r x v
theorem lookup_upd (me : ME) (x : Nat) (v : MV) (y : Nat) : (upd me x v).lookup y = if y = x then some v else me.lookup y := by
  induction me with
  | nil =>
    unfold upd
    rw [List.lookup_cons]
    by_cases h : y = x
    · subst h; simp
    · have : (y == x) = false := by simpa using h
      rw [this, if_neg h]
  | cons p r ih =>
    obtain ⟨z, w⟩ := p
    unfold upd
    by_cases hz : z = x
    · subst hz
      simp only [beq_self_eq_true, if_true]
      rw [List.lookup_cons, List.lookup_cons]
      by_cases h : y = z
      · subst h; simp
      · have : (y == z) = false := by simpa using h
        rw [this, if_neg h]
    · have hz' : (z == x) = false := by simpa using hz
      simp only [hz', Bool.false_eq_true, if_false]
      rw [List.lookup_cons, List.lookup_cons, ih]
      by_cases h : y = z
      · subst h
        simp [hz]
      · have : (y == z) = false := by simpa using h
        rw [this]

theorem tbl_ne (ok : C.Ok) {x y : Nat} {n n' : Str} (hx : C.tbl[x]? = some n) (hy : C.tbl[y]? = some n') (h : y ≠ x) : n' ≠ n := by
  intro e
  subst e
  obtain ⟨lx, ex⟩ := List.getElem?_eq_some_iff.mp hx
  obtain ⟨ly, ey⟩ := List.getElem?_eq_some_iff.mp hy
  exact h ((List.getElem_inj ok.nd).mp (ey.trans ex.symm))

theorem storeG (ok : C.Ok) {x : Nat} {n : Str} {mv : MV} {v : Value} {me : ME} {mh : MH} {ρ : Wd} {G : List Addr} {A : Around} {s : Shared} {Q : Unit → Shared → Prop} {E : Value → Shared → Prop}
    (hx : C.tbl[x]? = some n) (hk : (env.kindOf n = some .local ∧ env.locals ∈ G) ∨ (env.kindOf n = some .cell ∧ ∀ a ∈ fa env, a ∈ G)) (I : Inv C ρ mh s.heap) (so : SOk C s) (F : FR C ρ env me s.heap) (hv : VR ρ mv v)
    (h : ∀ s', Ext C ρ G s.heap ρ s'.heap → Inv C ρ mh s'.heap → SOk C s' → FR C ρ env (upd me x mv) s'.heap → Q () s') : wpAny C.M A (storeName env n v) Q E s := by
  have hl : env.locals ∈ fa env := by simp [fa]
  rcases hk with ⟨hk, hG⟩ | ⟨hk, hG⟩
  · obtain ⟨m, hm⟩ := F.ns
    refine wpAny_storeName_local hk hm (fun h' hn hs => h _ (Ext.one hs hG (Ns.live hn)) (I.ext (F.out _ hl).1 (F.out _ hl).2 hs.extBut) (so.heap _ _) ?_) (by rw [F.kind]; rfl)
    refine ⟨F.kind, F.glob, F.bui, ⟨_, hn⟩, fun n' c hm' => ?_, F.out, F.outX, F.apart, F.nl, F.has, F.hasF, fun y mw n' hy ht => ?_⟩
    · obtain ⟨v', hc⟩ := F.cells n' c hm'
      exact ⟨v', hc.sameBut hs (F.nl n' c hm')⟩
    · rw [lookup_upd] at hy
      by_cases e : y = x
      · subst e
        rw [if_pos rfl] at hy
        cases hy
        rw [hx] at ht; cases ht
        refine ⟨v, hv, ?_⟩
        unfold VarAt; rw [hk]
        exact ⟨_, hn, by simp⟩
      · rw [if_neg e] at hy
        obtain ⟨v', h1, h2⟩ := F.var y mw n' hy ht
        have hne := tbl_ne ok hx ht e
        refine ⟨v', h1, ?_⟩
        unfold VarAt at h2 ⊢
        split at h2
        · obtain ⟨m', hm', e'⟩ := h2
          have := Ns.uniq hm hm'
          subst this
          exact ⟨_, hn, by simp only [if_neg hne]; exact e'⟩
        · obtain ⟨c, e1, e2⟩ := h2
          exact ⟨c, e1, e2.sameBut hs (F.nl _ c (mem_of_lookup e1))⟩
        · obtain ⟨c, e1, e2⟩ := h2
          exact ⟨c, e1, e2.sameBut hs (F.nl _ c (mem_of_lookup e1))⟩
        · trivial
  · obtain ⟨c, hc⟩ := F.has n hk
    have hcm := mem_of_lookup hc
    have hcf : c ∈ fa env := by unfold fa; exact List.mem_cons_of_mem _ (List.mem_map.mpr ⟨(n, c), hcm, rfl⟩)
    obtain ⟨v0, hv0⟩ := F.cells n c hcm
    refine wpAny_storeName_cell F.kind hk hc hv0 fun h' hn hs => h _ (Ext.one hs (hG _ hcf) (let ⟨o, ho, _⟩ := hn; ⟨o, ho⟩)) (I.ext (F.out _ hcf).1 (F.out _ hcf).2 hs.extBut) (so.heap _ _) ?_
    obtain ⟨m, hm⟩ := F.ns
    have hcl : c ≠ env.locals := F.nl n c hcm
    refine ⟨F.kind, F.glob, F.bui, ⟨_, hm.sameBut hs hcl.symm⟩, fun n' c' hm' => ?_, F.out, F.outX, F.apart, F.nl, F.has, F.hasF, fun y mw n' hy ht => ?_⟩
    · by_cases e : c' = c
      · subst e; exact ⟨_, hn⟩
      · obtain ⟨v', hc'⟩ := F.cells n' c' hm'
        exact ⟨v', hc'.sameBut hs e⟩
    · rw [lookup_upd] at hy
      by_cases e : y = x
      · subst e
        rw [if_pos rfl] at hy
        cases hy
        rw [hx] at ht; cases ht
        refine ⟨v, hv, ?_⟩
        unfold VarAt; rw [hk]
        exact ⟨c, hc, hn⟩
      · rw [if_neg e] at hy
        obtain ⟨v', h1, h2⟩ := F.var y mw n' hy ht
        have hne := tbl_ne ok hx ht e
        refine ⟨v', h1, ?_⟩
        unfold VarAt at h2 ⊢
        split at h2
        · obtain ⟨m', hm', e'⟩ := h2
          exact ⟨m', hm'.sameBut hs hcl.symm, e'⟩
        · obtain ⟨c', e1, e2⟩ := h2
          exact ⟨c', e1, e2.sameBut hs fun z => hne (name_of_addr F.apart (mem_of_lookup e1) (z ▸ hcm))⟩
        · obtain ⟨c', e1, e2⟩ := h2
          exact ⟨c', e1, e2.sameBut hs fun z => hne (name_of_addr F.apart (mem_of_lookup e1) (z ▸ hcm))⟩
        · trivial

theorem storeV (ok : C.Ok) {x : Nat} {n : Str} {mv : MV} {v : Value} {me : ME} {mh : MH} {ρ : Wd} {A : Around} {s : Shared} {Q : Unit → Shared → Prop} {E : Value → Shared → Prop}
    (hx : C.tbl[x]? = some n) (hk : env.kindOf n = some .local ∨ env.kindOf n = some .cell) (I : Inv C ρ mh s.heap) (so : SOk C s) (F : FR C ρ env me s.heap) (hv : VR ρ mv v)
    (h : ∀ s', Ext C ρ (fa env) s.heap ρ s'.heap → Inv C ρ mh s'.heap → SOk C s' → FR C ρ env (upd me x mv) s'.heap → Q () s') : wpAny C.M A (storeName env n v) Q E s :=
  storeG ok hx (hk.imp (fun e => ⟨e, by simp [fa]⟩) fun e => ⟨e, fun _ h => h⟩) I so F hv h

/-! ## statements -/
noncomputable def dNil : DS := fun me mh => some (.next, me, mh)
noncomputable def dSeq (f g : DS) : DS := fun me mh => match f me mh with
  | some (.next, me1, mh1) => g me1 mh1
  | r => r
noncomputable def dAsg (x : Nat) (f : D) : DS := fun me mh => match f me mh with
  | some (v, mh1) => some (.next, upd me x v, mh1)
  | none => none
noncomputable def dRet (f : D) : DS := fun me mh => match f me mh with
  | some (v, mh1) => some (.ret v, me, mh1)
  | none => none
noncomputable def dIf (c : DB) (f g : DS) : DS := fun me mh => match c me mh with
  | some (b, mh1) => if b then f me mh1 else g me mh1
  | none => none
noncomputable def dCont : DS := fun me mh => some (.cont, me, mh)

theorem RS_nil : RS C d env (execs [] env) dNil := by
  intro me mh fl me' mh' hf ρ A s Q E ao I so F hQ
  cases hf
  exact wpAny_execs_nil (hQ _ _ _ (Ext.refl _ _ _) I so F rfl)
theorem RS_cons {st : Stmt} {rest : List Stmt} {f g : DS} (h1 : RS C d env (exec st env) f) (h2 : RS C d env (execs rest env) g) : RS C d env (execs (st :: rest) env) (dSeq f g) := by
  intro me mh fl me' mh' hf ρ A s Q E ao I so F hQ
  refine wpAny_execs_cons ?_
  unfold dSeq at hf
  cases hf1 : f me mh with
  | none => rw [hf1] at hf; simp at hf
  | some r =>
    obtain ⟨fl1, me1, mh1⟩ := r
    rw [hf1] at hf
    refine h1 hf1 ao I so F fun fl' ρ1 s1 x1 I1 so1 F1 r1 => ?_
    cases fl1 with
    | next =>
      cases r1
      exact h2 hf ao I1 so1 F1 fun fl'' ρ2 s2 x2 I2 so2 F2 r2 => hQ _ _ _ (x1.trans x2) I2 so2 F2 r2
    | brk => cases hf; cases r1; exact hQ _ _ _ x1 I1 so1 F1 rfl
    | cont => cases hf; cases r1; exact hQ _ _ _ x1 I1 so1 F1 rfl
    | ret v => cases hf; obtain ⟨w, rfl, r⟩ := r1; exact hQ _ _ _ x1 I1 so1 F1 ⟨_, rfl, r⟩

theorem RS_assign (ok : C.Ok) {x : Nat} {n : Str} {p pos : Pos} {value : PySem.Expr} {f : D} (hx : C.tbl[x]? = some n) (hk : env.kindOf n = some .local ∨ env.kindOf n = some .cell)
    (h : RE C d env value f) (hs : swapsWith value (some (.Name n p)) pos.line env = pure false) : RS C d env (exec (.Assign [.Name n p] value pos) env) (dAsg x f) := by
  intro me mh fl me' mh' hf ρ A s Q E ao I so F hQ
  unfold dAsg at hf
  split at hf
  · rename_i v mh1 hf1
    cases hf
    exact wpAny_Assign_Name (h hf1 ao I so F fun v ρ1 s1 x1 I1 so1 v1 => storeV ok hx hk I1 so1 (F.ext0 x1) v1 fun s2 x2 I2 so2 F2 => hQ _ _ _ (x1.wide.trans x2) I2 so2 F2 rfl) hs
  · cases hf

theorem RS_ret {e : PySem.Expr} {pos : Pos} {f : D} (h : RE C d env e f) : RS C d env (exec (.Return (some e) pos) env) (dRet f) := by
  intro me mh fl me' mh' hf ρ A s Q E ao I so F hQ
  unfold dRet at hf
  split at hf
  · rename_i v mh1 hf1
    cases hf
    exact wpAny_Return_some (h hf1 ao I so F fun v ρ1 s1 x1 I1 so1 v1 => hQ _ _ _ x1.wide I1 so1 (F.ext0 x1) ⟨_, rfl, v1⟩)
  · cases hf

theorem RS_if {test : PySem.Expr} {body orelse : List Stmt} {pos : Pos} {c : DB} {f g : DS} (hc : RB C d env (isTrue test env (eval test env)) c) (h1 : RS C d env (execs body env) f) (h2 : RS C d env (execs orelse env) g) :
    RS C d env (exec (.If test body orelse pos) env) (dIf c f g) := by
  intro me mh fl me' mh' hf ρ A s Q E ao I so F hQ
  unfold dIf at hf
  split at hf
  · rename_i b mh1 hf1
    refine wpAny_If (hc hf1 ao I so F fun ρ1 s1 x1 I1 so1 => ?_)
    cases b with
    | true => exact h1 hf ao I1 so1 (F.ext0 x1) fun fl' ρ2 s2 x2 I2 so2 F2 r2 => hQ _ _ _ (x1.wide.trans x2) I2 so2 F2 r2
    | false => exact h2 hf ao I1 so1 (F.ext0 x1) fun fl' ρ2 s2 x2 I2 so2 F2 r2 => hQ _ _ _ (x1.wide.trans x2) I2 so2 F2 r2
  · cases hf

theorem RS_continue {pos : Pos} : RS C d env (exec (.Continue pos) env) dCont := by
  intro me mh fl me' mh' hf ρ A s Q E ao I so F hQ
  cases hf
  exact wpAny_Continue (hQ _ _ _ (Ext.refl _ _ _) I so F rfl)

/-! ## conditions -/
/-- the truth of a value -/
noncomputable def tru : MV → MH → Option Bool
  | .none, _ => some false
  | .bool b, _ => some b
  | .ref i, mh => (match mh[i]? with
    | some (.list vs) => if vs.length < 1000000000 then some (!vs.isEmpty) else none
    | _ => none)
  | _, _ => none
noncomputable def dTru (f : D) : DB := fun me mh => match f me mh with
  | some (v, mh1) => (match tru v mh1 with | some b => some (b, mh1) | none => none)
  | none => none
noncomputable def dAnd (c c' : DB) : DB := fun me mh => match c me mh with
  | some (true, mh1) => c' me mh1
  | r => r
noncomputable def dOr (c c' : DB) : DB := fun me mh => match c me mh with
  | some (false, mh1) => c' me mh1
  | r => r
noncomputable def dBt : DB := fun _ mh => some (true, mh)
noncomputable def dBf : DB := fun _ mh => some (false, mh)
noncomputable def dIte (c : DB) (f g : D) : D := fun me mh => match c me mh with
  | some (b, mh1) => if b then f me mh1 else g me mh1
  | none => none

theorem isList_of {h : Heap} {a : Addr} {vs : List Value} {n : Nat} (e : h.get? a = some (listO vs n)) : h.IsList a vs.toArray := ⟨_, e, rfl, n, rfl⟩
theorem tru_ok {ρ : Wd} {v : MV} {rv : Value} {mh : MH} {b : Bool} {A : Around} {s : Shared} {Q : Bool → Shared → Prop} {E : Value → Shared → Prop} (h : tru v mh = some b) (I : Inv C ρ mh s.heap) (hv : VR ρ v rv) (hQ : ∀ t, Q b { s with toks := t }) :
    wpAny C.M A (truthy rv) Q E s := by
  unfold tru at h
  split at h
  · cases h; cases hv.none_; exact fun _ _ _ => hQ s.toks
  · cases h; cases hv.bool_; exact wpAny_truthy_bool (hQ s.toks)
  · split at h
    · rename_i vs hi
      split at h
      · rename_i hl
        cases h
        obtain ⟨a, ea, rfl⟩ := hv.ref_
        obtain ⟨o, ho, ws, n, rfl, r⟩ := I.at hi ea
        have hlen := r.length
        refine wpAny_truthy_list (isList_of ho) (by simp [hlen]; omega) ?_
        have : (!vs.isEmpty) = (!ws.toArray.isEmpty) := by
          cases vs with
          | nil => have : ws = [] := by cases ws with | nil => rfl | cons => simp at hlen
                   subst this; rfl
          | cons v r => cases ws with
            | nil => simp at hlen
            | cons => rfl
        rw [← this]
        exact hQ _
      · cases h
    · cases h
  · cases h

theorem RB_cmp {l r : PySem.Expr} {op : CmpOp} {pos : Pos} {whole : Sem Value} {f g : D} {o : Op2} (hl : RE C d env l f) (hr : RE C d env r g) (ho : RO2 C d (compareOp op) o)
    (hm : behindInMarks op r = false := by with_unfolding_all rfl) : RB C d env (isTrue (.Compare l [op] [r] pos) env whole) (dTru (dOp2 o f g)) := by
  intro me mh b mh' hf ρ A s Q E ao I so F hQ
  unfold dTru at hf
  split at hf
  · rename_i v mh3 hf3
    split at hf
    · rename_i b' hb
      cases hf
      obtain ⟨x, mh1, y, mh2, h1, h2, h3⟩ := dOp2_some hf3
      exact wpAny_isTrue_Compare1 (hl h1 ao I so F fun va ρ1 s1 x1 I1 so1 v1 => hr h2 ao I1 so1 (F.ext0 x1) fun vb ρ2 s2 x2 I2 so2 v2 =>
        ho h3 ao I2 so2 (v1.mono x2.pre) v2 fun v ρ3 s3 x3 I3 so3 v3 => tru_ok hb I3 v3 fun t => hQ _ _ (x1.trans (x2.trans x3)) I3 (so3.heap _ _)) hm
    · cases hf
  · cases hf

theorem RB_value {e : PySem.Expr} {whole : Sem Value} {f : D} (h : RT C d env whole f) (he : isTrue e env whole = (do let v ← whole; standAt e.pos; holding [v] (truthy v)) := by rfl) :
    RB C d env (isTrue e env whole) (dTru f) := by
  intro me mh b mh' hf ρ A s Q E ao I so F hQ
  unfold dTru at hf
  split at hf
  · rename_i v mh3 hf3
    split at hf
    · rename_i b' hb
      cases hf
      exact wpAny_isTrue_value (h hf3 ao I so F fun v ρ3 s3 x3 I3 so3 v3 => tru_ok hb I3 v3 fun t => hQ _ _ x3 I3 (so3.heap _ _)) he
    · cases hf
  · cases hf

end Mine

namespace Mine
variable {C : Cx} {d : Nat} {env : Env}

theorem RB_and_nil {pos : Pos} {whole : Sem Value} : RB C d env (isTrue (.BoolOp .And [] pos) env whole) dBt := by
  intro me mh b mh' hf ρ A s Q E ao I so F hQ
  cases hf
  exact isTrue_and_nil (hQ _ _ (Ext.refl _ _ _) I so)
theorem RB_or_nil {pos : Pos} {whole : Sem Value} : RB C d env (isTrue (.BoolOp .Or [] pos) env whole) dBf := by
  intro me mh b mh' hf ρ A s Q E ao I so F hQ
  cases hf
  exact isTrue_or_nil (hQ _ _ (Ext.refl _ _ _) I so)
theorem RB_and {x : PySem.Expr} {rest : List PySem.Expr} {pos : Pos} {whole : Sem Value} {c c' : DB} (h1 : RB C d env (isTrue x env (eval x env)) c) (h2 : RB C d env (isTrue (.BoolOp .And rest pos) env whole) c') :
    RB C d env (isTrue (.BoolOp .And (x :: rest) pos) env whole) (dAnd c c') := by
  intro me mh b mh' hf ρ A s Q E ao I so F hQ
  unfold dAnd at hf
  refine isTrue_and ?_
  cases hc : c me mh with
  | none => rw [hc] at hf; simp at hf
  | some r =>
    obtain ⟨b1, mh1⟩ := r
    rw [hc] at hf
    refine h1 hc ao I so F fun ρ1 s1 x1 I1 so1 => ?_
    cases b1 with
    | true => exact h2 hf ao I1 so1 (F.ext0 x1) fun ρ2 s2 x2 I2 so2 => hQ _ _ (x1.trans x2) I2 so2
    | false => cases hf; exact hQ _ _ x1 I1 so1
theorem RB_or {x : PySem.Expr} {rest : List PySem.Expr} {pos : Pos} {whole : Sem Value} {c c' : DB} (h1 : RB C d env (isTrue x env (eval x env)) c) (h2 : RB C d env (isTrue (.BoolOp .Or rest pos) env whole) c') :
    RB C d env (isTrue (.BoolOp .Or (x :: rest) pos) env whole) (dOr c c') := by
  intro me mh b mh' hf ρ A s Q E ao I so F hQ
  unfold dOr at hf
  refine isTrue_or ?_
  cases hc : c me mh with
  | none => rw [hc] at hf; simp at hf
  | some r =>
    obtain ⟨b1, mh1⟩ := r
    rw [hc] at hf
    refine h1 hc ao I so F fun ρ1 s1 x1 I1 so1 => ?_
    cases b1 with
    | false => exact h2 hf ao I1 so1 (F.ext0 x1) fun ρ2 s2 x2 I2 so2 => hQ _ _ (x1.trans x2) I2 so2
    | true => cases hf; exact hQ _ _ x1 I1 so1
theorem RE_ite {test body orelse : PySem.Expr} {pos : Pos} {c : DB} {f g : D} (hc : RB C d env (isTrue test env (eval test env)) c) (h1 : RE C d env body f) (h2 : RE C d env orelse g) :
    RE C d env (.IfExp test body orelse pos) (dIte c f g) := by
  intro me mh mv mh' hf ρ A s Q E ao I so F hQ
  unfold dIte at hf
  split at hf
  · rename_i b mh1 hf1
    refine wpAny_IfExp (hc hf1 ao I so F fun ρ1 s1 x1 I1 so1 => ?_)
    cases b with
    | true => exact h1 hf ao I1 so1 (F.ext0 x1) fun v ρ2 s2 x2 I2 so2 v2 => hQ _ _ _ (x1.trans x2) I2 so2 v2
    | false => exact h2 hf ao I1 so1 (F.ext0 x1) fun v ρ2 s2 x2 I2 so2 v2 => hQ _ _ _ (x1.trans x2) I2 so2 v2
  · cases hf
/-! ## several expressions; displays -/
noncomputable def dL0 : DL := fun _ mh => some ([], mh)
noncomputable def dL1 (f : D) (g : DL) : DL := fun me mh => match f me mh with
  | some (v, mh1) => (match g me mh1 with | some (vs, mh2) => some (v :: vs, mh2) | none => none)
  | none => none
noncomputable def dTup (g : DL) : D := fun me mh => match g me mh with
  | some (vs, mh1) => if vs.length ≤ 1000 then some (.tup vs, mh1) else none
  | none => none
noncomputable def dLst (g : DL) : D := fun me mh => match g me mh with
  | some (vs, mh1) => if vs.length ≤ 1000 then some (.lst vs, mh1) else none
  | none => none
/-- a list that will change -/
noncomputable def dLstM (g : DL) : D := fun me mh => match g me mh with
  | some (vs, mh1) => if vs.length ≤ 1000 then some (.ref mh1.length, mh1 ++ [.list vs]) else none
  | none => none

noncomputable abbrev RArgs (C : Cx) (d : Nat) (env : Env) (es : List PySem.Expr) (f : DL) : Prop := ∀ pos, RL C d env (spliced (backTo pos (starEach es env))) f
theorem RL_nil : RArgs C d env [] dL0 := by
  intro pos me mh mvs mh' hf ρ A s Q E ao I so F hQ
  cases hf
  exact PyProof.Rows.args_nil (hQ _ _ _ (Ext.refl _ _ _) I so .nil)
theorem RL_cons {e : PySem.Expr} {rest : List PySem.Expr} {f : D} {g : DL} (h1 : RE C d env e f) (h2 : RArgs C d env rest g)
    (he : starEach (e :: rest) env = (false, eval e env) :: starEach rest env := by rfl) : RArgs C d env (e :: rest) (dL1 f g) := by
  intro pos me mh mvs mh' hf ρ A s Q E ao I so F hQ
  unfold dL1 at hf
  split at hf
  · rename_i v mh1 hf1
    split at hf
    · rename_i vs mh2 hf2
      cases hf
      exact PyProof.Rows.args_cons (h1 hf1 ao I so F fun v ρ1 s1 x1 I1 so1 v1 => h2 pos hf2 ao I1 so1 (F.ext0 x1) fun vs ρ2 s2 x2 I2 so2 v2 => hQ _ _ _ (x1.trans x2) I2 so2 (.cons (v1.mono x2.pre) v2)) he
    · cases hf
  · cases hf
theorem le_line {n : Nat} (h : n ≤ 1000) : n ≤ sizeLine := Nat.le_trans h (by decide)
theorem RE_tuple {es : List PySem.Expr} {k : Nat} {pos : Pos} {g : DL} (h : RArgs C d env es g) : RE C d env (.Tuple es k pos) (dTup g) := by
  intro me mh mv mh' hf ρ A s Q E ao I so F hQ
  unfold dTup at hf
  split at hf
  · rename_i vs mh1 hf1
    split at hf
    · rename_i hl
      cases hf
      refine PyProof.Rows.Tuple_ (h pos hf1 ao I so F fun ws ρ1 s1 x1 I1 so1 v1 => ?_)
      refine wpAny_newTuple ?_ (by rw [v1.length]; exact le_line hl)
      exact Post.tup (Q := Q) (fun v ρ' s' x => hQ v ρ' s' (x1.trans x)) I1 so1 v1 s1.toks
    · cases hf
  · cases hf
theorem RE_list {es : List PySem.Expr} {pos : Pos} {g : DL} (h : RArgs C d env es g) : RE C d env (.List es pos) (dLst g) := by
  intro me mh mv mh' hf ρ A s Q E ao I so F hQ
  unfold dLst at hf
  split at hf
  · rename_i vs mh1 hf1
    split at hf
    · rename_i hl
      cases hf
      refine PyProof.Rows.List_ (h pos hf1 ao I so F fun ws ρ1 s1 x1 I1 so1 v1 => ?_)
      refine wpAny_newList ?_ (by rw [v1.length]; exact le_line hl)
      exact Post.lst (Q := Q) (fun v ρ' s' x => hQ v ρ' s' (x1.trans x)) I1 so1 v1 s1.toks
    · cases hf
  · cases hf

theorem RE_listM {es : List PySem.Expr} {pos : Pos} {g : DL} (h : RArgs C d env es g) : RE C d env (.List es pos) (dLstM g) := by
  intro me mh mv mh' hf ρ A s Q E ao I so F hQ
  unfold dLstM at hf
  split at hf
  · rename_i vs mh1 hf1
    split at hf
    · rename_i hl
      cases hf
      refine PyProof.Rows.List_ (h pos hf1 ao I so F fun ws ρ1 s1 x1 I1 so1 v1 => ?_)
      refine wpAny_newList ?_ (by rw [v1.length]; exact le_line hl)
      exact Post.new (Q := Q) (fun v ρ' s' x => hQ v ρ' s' (x1.trans x)) I1 so1 ⟨ws, 0, rfl, v1⟩ s1.toks
    · cases hf
  · cases hf

/-! ## items -/
theorem subTail {M : Model} {prog : Program} {w : World} (hM : M = model prog w) {A : Around} {E : Value → Shared → Prop} {s : Shared} {value slice : PySem.Expr} {o i : Value} {T id : String} {L : List Value} {Q : Value → Shared → Prop} (hT : s.TypeIs o T)
    (hl : typeLookup (.type T) "__getitem__" = pure (some (.builtin id))) (h : wpAny M A (getItem o i) Q E s)
    (hs : subscripted slice false o i = operate L (getItem o i)) : wpAny M A (subscriptTail value slice o i) Q E s := by
  subst hM
  unfold subscriptTail
  refine wpAny_bind ?_
  rw [getitemInPython_of_ne hT.not_modules]
  refine wpAny_bind (wpAny_specialOf hT hl ?_)
  have fin : wpAny (model prog w) A (subscripted slice false o i) (fun r s₃ => wpAny (model prog w) A (letTemporaryGo value o r >>= fun _ => pure r) Q E s₃) E s := by
    rw [hs]
    exact wpAny_operating (wpAny_mono h (fun r s₃ h₃ => wpAny_bind (wpAny_letTemporaryGo (wpAny_pure h₃))) fun _ _ x => x)
  first
    | exact wpAny_pure (wpAny_bind fin)
    | exact wpAny_bind (wpAny_pure (wpAny_bind fin))
    | exact wpAny_bind fin

/-- a place -/
noncomputable def place (k : Int) (n : Nat) : Option Nat :=
  if 0 ≤ k then (if k < n ∧ k < 1000000000 then some k.toNat else none) else if 0 ≤ k + n ∧ n < 1000000000 then some (k + n).toNat else none
theorem place_seq {k : Int} {n j : Nat} (h : place k n = some j) : seqIndex? k n = some j ∧ j < n ∧ -(2 ^ 63) ≤ k ∧ k < 2 ^ 63 ∧ (0 ≤ k → j = k.toNat) ∧ (k < 0 → j = (k + n).toNat ∧ -(n : Int) ≤ k) := by
  unfold place at h
  split at h
  · split at h
    · rename_i h0 h1
      cases h
      refine ⟨?_, by omega, by omega, by omega, fun _ => rfl, fun q => by omega⟩
      unfold seqIndex?
      simp only [if_neg (Int.not_lt.mpr h0)]
      rw [if_pos (by simp; omega)]
    · cases h
  · split at h
    · rename_i h0 h1
      cases h
      refine ⟨?_, by omega, by omega, by omega, fun q => by omega, fun _ => ⟨rfl, by omega⟩⟩
      unfold seqIndex?
      simp only [if_pos (Int.not_le.mp h0)]
      rw [if_pos (by simp; omega)]
    · cases h

noncomputable def itemAt (k : Int) (vs : List MV) (mh : MH) : Option (MV × MH) := match place k vs.length with
  | some j => (match vs[j]? with | some v => some (v, mh) | none => none)
  | none => none
noncomputable def oItem : Op2 := fun a b mh => match a, b with
  | .ref i, .int k => (match mh[i]? with
    | some (.list vs) => itemAt k vs mh
    | _ => none)
  | .lst vs, .int k => itemAt k vs mh
  | .tup vs, .int k => itemAt k vs mh
  | .str x, .int k => (match place k x.length with | some j => (match x.cps[j]? with | some c => some (.str ⟨#[c]⟩, mh) | none => none) | none => none)
  | _, _ => none
theorem itemAt_some {k : Int} {vs : List MV} {mh mh' : MH} {v : MV} (h : itemAt k vs mh = some (v, mh')) : ∃ j, place k vs.length = some j ∧ vs[j]? = some v ∧ mh' = mh := by
  unfold itemAt at h
  split at h
  · split at h
    · cases h; exact ⟨_, by assumption, by assumption, rfl⟩
    · cases h
  · cases h

theorem getItem_listP {prog : Program} {w : World} {A : Around} {E : Value → Shared → Prop} {s : Shared} {l : Addr} {items : Array Value} {k : Int} {t : Tok} {j : Nat} {x : Value} {Q : Value → Shared → Prop} (hl : s.heap.IsList l items)
    (hp : place k items.size = some j) (hx : items[j]? = some x) (h : Q x s) : wpAny (model prog w) A (getItem (.ref l) (.int k t)) Q E s := by
  obtain ⟨_, _, h1, h2, h3, h4⟩ := place_seq hp
  by_cases h0 : 0 ≤ k
  · have e := h3 h0
    subst e
    exact wpAny_getItem_list hl h0 h2 hx h
  · have h0' : k < 0 := by omega
    obtain ⟨e, e'⟩ := h4 h0'
    subst e
    exact wpAny_getItem_list_neg hl h0' e' h1 hx h

theorem isTup_of {h : Heap} {a : Addr} {vs : List Value} {n : Nat} (e : h.get? a = some (tupO vs n)) : IsTup h a vs.toArray := ⟨_, e, rfl, n, rfl⟩

/-- the item, and the type that the object bears -/
theorem item_ok {a b : MV} {mh : MH} {mv : MV} {mh' : MH} (h : oItem a b mh = some (mv, mh')) {ρ : Wd} {A : Around} {s : Shared} {Q : Value → Shared → Prop} {E : Value → Shared → Prop} {va vb : Value}
    (I : Inv C ρ mh s.heap) (so : SOk C s) (ha : VR ρ a va) (hb : VR ρ b vb) (hQ : Post C ρ s.heap mh' mv Q) :
    wpAny C.M A (getItem va vb) Q E s ∧ ∃ T id, s.TypeIs va T ∧ typeLookup (.type T) "__getitem__" = pure (some (.builtin id)) := by
  unfold oItem at h
  split at h
  · obtain ⟨l, el, rfl⟩ := ha.ref_
    obtain ⟨u, rfl⟩ := hb.int_
    split at h
    · rename_i vs hi
      obtain ⟨j, hj, hv, rfl⟩ := itemAt_some h
      obtain ⟨o, ho, ws, n, rfl, r⟩ := I.at hi el
      obtain ⟨x, hx, hr⟩ := r.get hv
      refine ⟨getItem_listP (isList_of ho) (j := j) (by simpa [r.length] using hj) (by simpa using hx) (hQ.here I so _ hr), "list", _, ⟨_, ho, rfl⟩, slot_list_getitem.lookup⟩
    · cases h
  · obtain ⟨l, ws, n, el, rfl, r⟩ := ha.lst_
    obtain ⟨u, rfl⟩ := hb.int_
    obtain ⟨j, hj, hv, rfl⟩ := itemAt_some h
    have ho := I.fz _ el
    obtain ⟨x, hx, hr⟩ := r.get hv
    refine ⟨getItem_listP (isList_of ho) (j := j) (by simpa [r.length] using hj) (by simpa using hx) (hQ.here I so _ hr), "list", _, ⟨_, ho, rfl⟩, slot_list_getitem.lookup⟩
  · obtain ⟨l, ws, n, el, rfl, r⟩ := ha.tup_
    obtain ⟨u, rfl⟩ := hb.int_
    obtain ⟨j, hj, hv, rfl⟩ := itemAt_some h
    have ho := I.fz _ el
    obtain ⟨x, hx, hr⟩ := r.get hv
    obtain ⟨p1, p2, p3, p4, _⟩ := place_seq hj
    exact ⟨PyProof.Rows.getItem_tuple (isTup_of ho) p3 p4 (j := j) (by simpa [r.length] using p1) (by simpa using hx) (hQ.here I so _ hr), "tuple", _, ⟨_, ho, rfl⟩, slot_tuple_getitem.lookup⟩
  · rename_i x k
    obtain ⟨t, rfl⟩ := ha.str_
    obtain ⟨u, rfl⟩ := hb.int_
    split at h
    · rename_i j hj
      split at h
      · rename_i c hc
        cases h
        obtain ⟨p1, p2, p3, p4, _⟩ := place_seq hj
        refine ⟨PySem.P.getItem_str (by simp; omega) (c := c) (by rw [p1]; exact hc) (hQ.same I so _ .str' _), "str", _, typeIs_str s x t, PySem.F.slot_str_getitem.lookup⟩
      · cases h
    · cases h
  · cases h

theorem RE_item {value slice : PySem.Expr} {pos : Pos} {f g : D} (hl : RE C d env value f) (hr : RE C d env slice g)
    (hs : ∀ o i, subscripted slice false o i = operate [o, i] (getItem o i)) : RE C d env (.Subscript value slice pos) (dOp2 oItem f g) := by
  intro me mh mv mh' hf ρ A s Q E ao I so F hQ
  obtain ⟨a, mh1, b, mh2, h1, h2, h3⟩ := dOp2_some hf
  refine Subscript_ (hl h1 ao I so F fun va ρ1 s1 x1 I1 so1 v1 => hr h2 ao I1 so1 (F.ext0 x1) fun vb ρ2 s2 x2 I2 so2 v2 => ?_)
  obtain ⟨hw, T, id, hT, ht⟩ := item_ok (A := A) (E := E) h3 I2 so2 (v1.mono x2.pre) v2 (Q := Q) fun v ρ3 s3 x3 I3 so3 v3 => hQ v ρ3 s3 (x1.trans (x2.trans x3)) I3 so3 v3
  exact subTail rfl hT ht hw (hs _ _)

/-! ## += -/
noncomputable def oIAdd : Op2 := fun a b mh => match a, b with
  | .int x, .int y => some (.int (x + y), mh)
  | .str x, .str y => if x.length + y.length ≤ sizeLine then some (.str (x ++ y), mh) else none
  | _, _ => none
theorem rIAdd : RO2 C d (inplaceOp .Add) oIAdd := by
  intro a b mh mv mh' h ρ A s Q E va vb ao I so ha hb hQ
  unfold oIAdd at h
  split at h
  · cases h
    obtain ⟨t, rfl⟩ := ha.int_
    obtain ⟨u, rfl⟩ := hb.int_
    exact iadd_int (hQ.same I so _ .int' _)
  · split at h
    · rename_i x y hl
      cases h
      obtain ⟨t, rfl⟩ := ha.str_
      obtain ⟨u, rfl⟩ := hb.str_
      exact PyProof.Rows.iadd_str (fun t' tk => hQ.same I so _ .str' _) hl
    · cases h
  · cases h
noncomputable def oISub : Op2 := fun a b mh => match a, b with
  | .int x, .int y => some (.int (x - y), mh)
  | _, _ => none
theorem rISub : RO2 C d (inplaceOp .Sub) oISub := by
  intro a b mh mv mh' h ρ A s Q E va vb ao I so ha hb hQ
  unfold oISub at h
  split at h
  · cases h
    obtain ⟨t, rfl⟩ := ha.int_
    obtain ⟨u, rfl⟩ := hb.int_
    exact isub_int (hQ.same I so _ .int' _)
  · cases h

noncomputable def dAugV (x : Nat) (o : Op2) (f : D) : DS := dAsg x (dOp2 o (dVar x) f)

theorem RS_augName (ok : C.Ok) {x : Nat} {n : Str} {p pos : Pos} {op : Operator} {value : PySem.Expr} {f : D} {o : Op2} (hx : C.tbl[x]? = some n) (hk : env.kindOf n = some .local ∨ env.kindOf n = some .cell)
    (h : RE C d env value f) (ho : RO2 C d (inplaceOp op) o) : RS C d env (exec (.AugAssign (.Name n p) op value pos) env) (dAugV x o f) := by
  intro me mh fl me' mh' hf ρ A s Q E ao I so F hQ
  unfold dAugV dAsg at hf
  split at hf
  · rename_i v mh1 hf1
    cases hf
    obtain ⟨a, mh2, b, mh3, h1, h2, h3⟩ := dOp2_some hf1
    refine wpAny_AugAssign_Name ?_
    unfold dVar at h1
    split at h1
    · rename_i v0 hv0
      cases h1
      obtain ⟨rv, r1, r2⟩ := F.var x _ n hv0 hx
      have key : wpAny C.M A (eval value env) (fun v s₂ => wpAny C.M A (inplaceOp op rv v) (fun r s₃ => wpAny C.M A (storeName env n r) (fun _ => Q .next) E s₃) E s₂) E s :=
        h h2 ao I so F fun vb ρ2 s2 x2 I2 so2 v2 => ho h3 ao I2 so2 (r1.mono x2.pre) v2 fun v ρ3 s3 x3 I3 so3 v3 =>
          storeV ok hx hk I3 so3 ((F.ext0 x2).ext0 x3) v3 fun s4 x4 I4 so4 F4 => hQ _ _ _ ((x2.trans x3).wide.trans x4) I4 so4 F4 rfl
      unfold VarAt at r2
      rcases hk with e | e
      · rw [e] at r2
        obtain ⟨m, hm, hn⟩ := r2
        exact wpAny_loadName_local F.kind e hm hn key
      · rw [e] at r2
        obtain ⟨c, hc, hn⟩ := r2
        exact wpAny_loadName_cell F.kind e hc hn key
    · cases h1
  · cases hf

/-! ## while -/
noncomputable def dExprN (f : D) : DS := fun me mh => match f me mh with
  | some (.none, mh1) => some (.next, me, mh1)
  | _ => none
theorem RS_expr {e : PySem.Expr} {pos : Pos} {f : D} (h : RE C d env e f) (hi : interactive env = false) (hs : swapsWith e none pos.line env = pure false) :
    RS C d env (exec (.Expr e pos) env) (dExprN f) := by
  intro me mh fl me' mh' hf ρ A s Q E ao I so F hQ
  unfold dExprN at hf
  split at hf
  · rename_i mh1 hf1
    cases hf
    refine wpAny_Expr (h hf1 ao I so F fun v ρ1 s1 x1 I1 so1 v1 => ?_) hi hs
    cases v1.none_
    exact hQ _ _ _ x1.wide I1 so1 (F.ext0 x1) rfl
  · cases hf

end Mine

namespace Mine
variable {C : Cx} {d : Nat} {env : Env}

/-! ## targets -/
noncomputable abbrev Tg := ME → MH → MV → Option ME
noncomputable def RTg (C : Cx) (d : Nat) (env : Env) (G : List Addr) (target : PySem.Expr) (tg : Tg) : Prop :=
  ∀ {me mh mv me'}, tg me mh mv = some me' → ∀ {ρ A s Q E v}, Aok d A → Inv C ρ mh s.heap → SOk C s → FR C ρ env me s.heap → VR ρ mv v →
    (∀ s', Ext C ρ G s.heap ρ s'.heap → Inv C ρ mh s'.heap → SOk C s' → FR C ρ env me' s'.heap → Q () s') → wpAny C.M A (assign target env v) Q E s

noncomputable def tgV (x : Nat) : Tg := fun me _ v => some (upd me x v)
theorem RTg_name (ok : C.Ok) {G : List Addr} {x : Nat} {n : Str} {p : Pos} (hx : C.tbl[x]? = some n) (hk : (env.kindOf n = some .local ∧ env.locals ∈ G) ∨ (env.kindOf n = some .cell ∧ ∀ a ∈ fa env, a ∈ G)) :
    RTg C d env G (.Name n p) (tgV x) := by
  intro me mh mv me' ht ρ A s Q E v ao I so F hv h
  cases ht
  exact wpAny_assign_Name (storeG ok hx hk I so F hv h)

noncomputable def upds : ME → List Nat → List MV → ME
  | me, x :: xs, v :: vs => upds (upd me x v) xs vs
  | me, _, _ => me
noncomputable def tgT (xs : List Nat) : Tg := fun me _ v => match v with
  | .tup vs => if vs.length = xs.length then some (upds me xs vs) else none
  | _ => none

/-- the names of a tuple target, local ones -/
inductive TNames (C : Cx) (env : Env) (G : List Addr) : List PySem.Expr → List Nat → Prop where
  | nil : TNames C env G [] []
  | cons {x : Nat} {n : Str} {p : Pos} {es xs} : C.tbl[x]? = some n → ((env.kindOf n = some .local ∧ env.locals ∈ G) ∨ (env.kindOf n = some .cell ∧ ∀ a ∈ fa env, a ∈ G)) → TNames C env G es xs → TNames C env G (.Name n p :: es) (x :: xs)
theorem TNames.len {G : List Addr} {es : List PySem.Expr} {xs : List Nat} (h : TNames C env G es xs) : (assignEach es env).length = xs.length := by
  induction h with
  | nil => rfl
  | cons _ _ _ ih => simp only [assignEach, List.length_cons, ih]
theorem TNames.star {G : List Addr} {es : List PySem.Expr} {xs : List Nat} (h : TNames C env G es xs) : (assignEach es env).findIdx? (·.1) = none := by
  induction h with
  | nil => rfl
  | cons _ _ _ ih =>
    simp only [assignEach, List.findIdx?_cons]
    simp [ih]
theorem TNames.run (ok : C.Ok) {G : List Addr} {es : List PySem.Expr} {xs : List Nat} (h : TNames C env G es xs) : ∀ {vs : List MV} {ws : List Value} {me : ME} {mh : MH} {ρ : Wd} {A : Around} {s : Shared} {Q : Unit → Shared → Prop} {E : Value → Shared → Prop},
    vs.length = xs.length → VRs ρ vs ws → Inv C ρ mh s.heap → SOk C s → FR C ρ env me s.heap →
    (∀ s', Ext C ρ G s.heap ρ s'.heap → Inv C ρ mh s'.heap → SOk C s' → FR C ρ env (upds me xs vs) s'.heap → Q () s') →
    wpAny C.M A (assignInOrder ((assignEach es env).map (·.2)) ws) Q E s := by
  induction h with
  | nil =>
    intro vs ws me mh ρ A s Q E hl hv I so F hQ
    cases hv with
    | nil => exact wpAny_assignInOrder_none (hQ _ (Ext.refl _ _ _) I so F)
    | cons _ _ => simp at hl
  | cons hx hk _ ih =>
    intro vs ws me mh ρ A s Q E hl hv I so F hQ
    cases hv with
    | nil => simp at hl
    | cons h1 h2 =>
      refine wpAny_assignInOrder_more (wpAny_assign_Name (storeG ok hx hk I so F h1 fun s1 x1 I1 so1 F1 => ?_))
      exact ih (by simpa using hl) h2 I1 so1 F1 fun s2 x2 I2 so2 F2 => hQ _ (x1.trans x2) I2 so2 F2
theorem isTuple_of {h : Heap} {a : Addr} {vs : List Value} {n : Nat} (e : h.get? a = some (tupO vs n)) : h.IsTuple a vs.toArray := ⟨_, e, rfl, n, rfl⟩

theorem RTg_tuple (ok : C.Ok) {G : List Addr} {es : List PySem.Expr} {xs : List Nat} {k : Nat} {p : Pos} (hn : TNames C env G es xs) : RTg C d env G (.Tuple es k p) (tgT xs) := by
  intro me mh mv me' ht ρ A s Q E v ao I so F hv h
  unfold tgT at ht
  split at ht
  · split at ht
    · rename_i vs hl
      cases ht
      obtain ⟨a, ws, n, ea, rfl, r⟩ := hv.tup_
      have ho := I.fz _ ea
      refine wpAny_assign_Tuple ao.handled (isTuple_of ho) (by rw [hn.len]; simp [r.length, hl]) hn.star fun h' hk => ?_
      have hk' : ∀ b o, s.heap.get? b = some o → h'.get? b = some o := fun b o e => hk b o (fun z => by subst z; rw [get_size] at e; cases e) e
      have x0 : Ext C ρ G s.heap ρ h' := (Ext.all hk').more (by simp)
      exact hn.run ok (mh := mh) hl (by simpa using r) (I.junk hk') (so.heap _ _) (F.keep (.refl _) (fun a _ o e => hk' a o e) fun a ha => (F.out a ha).1) fun s' x I' so' F' => h s' (x0.trans x) I' so' F'
    · cases ht
  · cases ht

/-! ## iterators -/
inductive ItK where
  | list (i : Nat) | lst (vs : List MV) | tup (vs : List MV) | rng (a b : Int) | str (x : Str)
noncomputable def itOf (c0 : Option Addr) : MV → MH → Option ItK
  | .ref i, mh => (match mh[i]? with
    | some (.list _) => some (.list i)
    | some (.inst c _ (some _)) => if c0 = some c then some (.list i) else none
    | _ => none)
  | .lst vs, _ => some (.lst vs)
  | .tup vs, _ => some (.tup vs)
  | .rng a b, _ => if -1000000000 < a ∧ a < 1000000000 ∧ -1000000000 < b ∧ b < 1000000000 then some (.rng a b) else none
  | .str x, _ => if x.cps.all (· < 128) then some (.str x) else none
  | _, _ => none
noncomputable def nextOf : ItK → MH → Nat → Option (Option MV)
  | .list i, mh, j => (match mh[i]? with | some (.list vs) => some vs[j]? | some (.inst _ _ (some vs)) => some vs[j]? | _ => none)
  | .lst vs, _, j => some vs[j]?
  | .tup vs, _, j => some vs[j]?
  | .rng a b, _, j => some (if a + j < b then some (.int (a + j)) else none)
  | .str x, _, j => some (match x.cps[j]? with | some c => some (.str ⟨#[c]⟩) | none => none)

noncomputable def ItAt (ρ : Wd) (it : Addr) (h : Heap) : ItK → Nat → Prop
  | .list i, j => ∃ a, ρ.ids[i]? = some a ∧ h.IsListIter it a j
  | .lst vs, j => ∃ a ws n, (a, listO ws n) ∈ ρ.fz ∧ VRs ρ vs ws ∧ h.IsListIter it a j
  | .tup vs, j => ∃ a ws n, (a, tupO ws n) ∈ ρ.fz ∧ VRs ρ vs ws ∧ h.IsTupleIter it a j
  | .rng a b, j => IsRangeIter h it (a + j) ((if a < b then b - a else 0) - j) 1 ∧ (j : Int) ≤ (if a < b then b - a else 0)
  | .str x, j => ∃ t, h.IsStrIter it "str_ascii_iterator" x t j

theorem ItAt.keep {ρ ρ' : Wd} {it : Addr} {h h' : Heap} {k : ItK} {j : Nat} (x : ItAt ρ it h k j) (hp : ρ.le ρ') (hk : ∀ o, h.get? it = some o → h'.get? it = some o) : ItAt ρ' it h' k j := by
  cases k with
  | list i => obtain ⟨a, e, o, ho, r⟩ := x; exact ⟨a, pre_get hp e, o, hk o ho, r⟩
  | lst vs => obtain ⟨a, ws, n, e, q, o, ho, r⟩ := x; exact ⟨a, ws, n, hp.fz _ e, q.mono hp, o, hk o ho, r⟩
  | tup vs => obtain ⟨a, ws, n, e, q, o, ho, r⟩ := x; exact ⟨a, ws, n, hp.fz _ e, q.mono hp, o, hk o ho, r⟩
  | rng a b => exact ⟨hk _ x.1, x.2⟩
  | str s => obtain ⟨t, o, ho, r⟩ := x; exact ⟨t, o, hk o ho, r⟩
theorem ItAt.live {ρ : Wd} {it : Addr} {h : Heap} {k : ItK} {j : Nat} (x : ItAt ρ it h k j) : ∃ o, h.get? it = some o := by
  cases k with
  | list i => obtain ⟨a, e, o, ho, r⟩ := x; exact ⟨o, ho⟩
  | lst vs => obtain ⟨a, ws, n, e, q, o, ho, r⟩ := x; exact ⟨o, ho⟩
  | tup vs => obtain ⟨a, ws, n, e, q, o, ho, r⟩ := x; exact ⟨o, ho⟩
  | rng a b => exact ⟨_, x.1⟩
  | str s => obtain ⟨t, o, ho, r⟩ := x; exact ⟨o, ho⟩

theorem range_small {a b : Int} (h : -1000000000 < a ∧ a < 1000000000 ∧ -1000000000 < b ∧ b < 1000000000) : Builtin.Range.small a b 1 = true := by
  have hf : ∀ x : Int, -4000000000 < x → x < 4000000000 → Builtin.Range.rangeFitsLong x = true := fun x h1 h2 => by
    unfold Builtin.Range.rangeFitsLong
    simp; omega
  have hr : -4000000000 < Builtin.Range.rangeSize a b 1 ∧ Builtin.Range.rangeSize a b 1 < 4000000000 := by
    rw [rangeSize_one]; split <;> omega
  unfold Builtin.Range.small
  rw [hf a (by omega) (by omega), hf b (by omega) (by omega), hf 1 (by omega) (by omega), hf _ hr.1 hr.2]
  simp only [show (1 : Int) > 0 by decide, if_true, Int.sub_self, Int.add_zero]
  rw [hf b (by omega) (by omega)]
  simp

/-- a list subclass whose items are walked as a list's -/
noncomputable def SubIter (C : Cx) : Option Addr → Prop
  | none => True
  | some c => ∀ {s : Shared} {x : Addr} {o : Obj} {vs : Array Value} {n : Nat}, C.K.In s.heap → s.heap.get? x = some o → o.cls = .ref c → o.data = .seq vs n → ∀ {A : Around} {Q : Value → Shared → Prop} {E : Value → Shared → Prop},
    Q (.ref s.heap.objs.size) { s with heap := s.heap.push { cls := .type "list_iterator", data := .fields #[.ref x, .int 0 0] } } → wpAny C.M A (pyIter (.ref x)) Q E s

theorem iter_ok (ok : C.Ok) {c0 : Option Addr} (hs : SubIter C c0) {v : MV} {rv : Value} {mh : MH} {k : ItK} (h : itOf c0 v mh = some k) {ρ : Wd} {A : Around} {s : Shared} {Q : Value → Shared → Prop} {E : Value → Shared → Prop}
    (I : Inv C ρ mh s.heap) (hv : VR ρ v rv) (hQ : ∀ o, ItAt ρ s.heap.objs.size (s.heap.push o) k 0 → Q (.ref s.heap.objs.size) { s with heap := s.heap.push o }) : wpAny C.M A (pyIter rv) Q E s := by
  unfold itOf at h
  split at h
  · split at h
    · rename_i i vs hi
      cases h
      obtain ⟨a, ea, rfl⟩ := hv.ref_
      obtain ⟨o, ho, ws, n, rfl, r⟩ := I.at hi ea
      exact wpAny_pyIter_list (isList_of ho) (hQ _ ⟨a, ea, _, Heap.get?_push_size _ rfl, rfl, rfl⟩)
    · rename_i i c dd vs hi
      split at h
      · rename_i hc
        subst hc
        cases h
        obtain ⟨a, ea, rfl⟩ := hv.ref_
        obtain ⟨o, ho, da, ws, n, hda, rfl, r⟩ := I.at hi ea
        exact hs (I.k ok) ho rfl rfl (hQ _ ⟨a, ea, _, Heap.get?_push_size _ rfl, rfl, rfl⟩)
      · cases h
    · cases h
  · cases h
    obtain ⟨a, ws, n, ea, rfl, r⟩ := hv.lst_
    exact wpAny_pyIter_list (isList_of (I.fz _ ea)) (hQ _ ⟨a, ws, n, ea, r, _, Heap.get?_push_size _ rfl, rfl, rfl⟩)
  · cases h
    obtain ⟨a, ws, n, ea, rfl, r⟩ := hv.tup_
    exact wpAny_pyIter_tuple (isTuple_of (I.fz _ ea)) (hQ _ ⟨a, ws, n, ea, r, _, Heap.get?_push_size _ rfl, rfl, rfl⟩)
  · rename_i a b
    split at h
    · rename_i hb
      cases h
      obtain ⟨l, t, u, w, el, rfl⟩ := hv.rng_
      refine wpAny_pyIter_range (I.fz _ el) (range_small hb) (hQ _ ⟨?_, ?_⟩)
      · rw [rangeSize_one]
        show Heap.get? _ _ = _
        rw [Heap.get?_push_size _ rfl]
        simp
      · simp; split <;> omega
    · cases h
  · split at h
    · rename_i x hx
      cases h
      obtain ⟨t, rfl⟩ := hv.str_
      exact wpAny_pyIter_ascii hx (hQ _ ⟨t, _, Heap.get?_push_size _ rfl, rfl, rfl⟩)
    · cases h
  · cases h

theorem nextObj_item {A : Around} {s : Shared} {E : Value → Shared → Prop} {it l : Addr} {i : Nat} {ol : Obj} {items : Array Value} {nl : Nat} {x : Value} {Q : Option Value → Shared → Prop} (hit : s.heap.IsListIter it l i)
    (hol : s.heap.get? l = some ol) (hdl : ol.data = .seq items nl) (hx : items[i]? = some x)
    (hQ : ∀ h', h'.IsListIter it l (i + 1) → Heap.SameBut it s.heap h' → Q (some x) { s with heap := h' }) :
    wpAny C.M A (pyNext (.ref it)) Q E s := by
  obtain ⟨o, ho, hc, hd⟩ := id hit
  unfold pyNext
  refine wpAny_bind (wpAny_attempt (wpAny_callSpecial?_slot (name := Str.ofString "__next__") hit.typeIs slot_listiter_next
    (wpAny_call_entry slot_listiter_next hit.typeIs entry_listiter_next ?_ (args_listiter_next _))))
  show wpAny _ _ (field (.ref it) 0 >>= _) _ _ s
  refine wpAny_bind (wpAny_field ho hd (x := .ref l) rfl ?_)
  show wpAny _ _ (if (Value.ref l == Value.none) = true then _ else _) _ _ s
  rw [if_neg (show ¬ ((Value.ref l == Value.none) = true) from Bool.false_ne_true)]
  show wpAny _ _ (field (.ref it) 1 >>= _) _ _ s
  refine wpAny_bind (wpAny_field ho hd (x := .int i 0) rfl ?_)
  show wpAny _ _ (seqItems? (.ref l) >>= _) _ _ s
  refine wpAny_bind (wpAny_seqItems hol hdl ?_)
  simp only [Int.toNat_natCast, hx]
  refine wpAny_bind (wpAny_setField ho hd (by simp) (wpAny_pure ⟨x, rfl, wpAny_pure (hQ _ ?_ (Heap.SameBut.update ..))⟩))
  exact ⟨_, Heap.get?_update_self _ ho (Obj.isFreed_of_fields (Obj.data_mapFields hd _)), (Obj.cls_mapFields ..).trans hc, by
    rw [Obj.data_mapFields hd]; simp [rawInt]⟩
theorem nextObj_end {A : Around} {s : Shared} {E : Value → Shared → Prop} {it l : Addr} {i : Nat} {ol : Obj} {items : Array Value} {nl : Nat} {Q : Option Value → Shared → Prop} (hh : A.handled = none) (hit : s.heap.IsListIter it l i)
    (hol : s.heap.get? l = some ol) (hdl : ol.data = .seq items nl) (hx : items[i]? = none)
    (hQ : ∀ h', Heap.ExtBut it s.heap h' → Q none { s with heap := h' }) : wpAny C.M A (pyNext (.ref it)) Q E s := by
  obtain ⟨o, ho, hc, hd⟩ := id hit
  unfold pyNext
  refine wpAny_bind (wpAny_attempt (wpAny_callSpecial?_slot (name := Str.ofString "__next__") hit.typeIs slot_listiter_next
    (wpAny_call_entry slot_listiter_next hit.typeIs entry_listiter_next ?_ (args_listiter_next _))))
  show wpAny _ _ (field (.ref it) 0 >>= _) _ _ s
  refine wpAny_bind (wpAny_field ho hd (x := .ref l) rfl ?_)
  show wpAny _ _ (if (Value.ref l == Value.none) = true then _ else _) _ _ s
  rw [if_neg (show ¬ ((Value.ref l == Value.none) = true) from Bool.false_ne_true)]
  show wpAny _ _ (field (.ref it) 1 >>= _) _ _ s
  refine wpAny_bind (wpAny_field ho hd (x := .int i 0) rfl ?_)
  show wpAny _ _ (seqItems? (.ref l) >>= _) _ _ s
  refine wpAny_bind (wpAny_seqItems hol hdl ?_)
  simp only [Int.toNat_natCast, hx]
  refine wpAny_bind (wpAny_rule (wpAny_bind (wpAny_setField ho hd (by simp) ?_)))
  show wpAny _ _ (newExc (.type "StopIteration") [] >>= _) _ _ _
  refine wpAny_bind ?_
  simp only [newExc, newTuple]
  refine wpAny_bind (wpAny_newObj_type ?_ (by size_fits))
  refine wpAny_bind (m := firstArgMember _ _) (wpAny_of_eq (a := Value.none) (by first | rfl | (simp only [firstArgMember]; rfl)) ?_)
  refine wpAny_newObj_type ?_ (by size_fits)
  simp only [raiseNew]
  refine wpAny_bind (wpAny_handled ?_)
  rw [show A.in1.handled = none from hh]
  refine wpAny_bind (wpAny_pure (wpAny_throw ?_))
  refine wpAny_bind (wpAny_isInstance (T := "StopIteration") (b := true) ⟨_, Heap.get?_push_size _ rfl, rfl⟩ isSubtype_stop ?_)
  exact wpAny_pure (hQ _ (((Heap.SameBut.update ..).extBut.push _).push _))

/-- the item at a place of an object that bears items -/
theorem next_seq {ρ : Wd} {vs : List MV} {ws : List Value} {j : Nat} {A : Around} {s : Shared} {it a : Addr} {r : Option MV} {Q : Option Value → Shared → Prop} {E : Value → Shared → Prop} (ao : Aok d A) (rr : VRs ρ vs ws)
    {ol : Obj} {nl : Nat} (hol : s.heap.get? a = some ol) (hdl : ol.data = .seq ws.toArray nl) (hit : s.heap.IsListIter it a j) (hr : vs[j]? = r)
    (hsome : ∀ mv, r = some mv → ∀ v h', VR ρ mv v → h'.IsListIter it a (j + 1) → Heap.ExtBut it s.heap h' → Q (some v) { s with heap := h' })
    (hnone : r = none → ∀ h', Heap.ExtBut it s.heap h' → Q none { s with heap := h' }) : wpAny C.M A (pyNext (.ref it)) Q E s := by
  cases hj : vs[j]? with
  | some m =>
    obtain ⟨x, hx, hv⟩ := rr.get hj
    exact nextObj_item hit hol hdl (by simpa using hx) fun h' hit' hs => hsome m (hr.symm.trans hj) x h' hv hit' hs.extBut
  | none =>
    exact nextObj_end ao.handled hit hol hdl (by simpa using rr.get_none hj) fun h' hs => hnone (hr.symm.trans hj) h' hs

theorem next_ok {k : ItK} {mh : MH} {j : Nat} {r : Option MV} (h : nextOf k mh j = some r) {ρ : Wd} {A : Around} {s : Shared} {it : Addr} {Q : Option Value → Shared → Prop} {E : Value → Shared → Prop} (ao : Aok d A)
    (I : Inv C ρ mh s.heap) (hi : ItAt ρ it s.heap k j)
    (hsome : ∀ mv, r = some mv → ∀ v h' tk, VR ρ mv v → ItAt ρ it h' k (j + 1) → Heap.ExtBut it s.heap h' → Q (some v) { s with heap := h', toks := tk })
    (hnone : r = none → ∀ h' tk, Heap.ExtBut it s.heap h' → Q none { s with heap := h', toks := tk }) : wpAny C.M A (pyNext (.ref it)) Q E s := by
  cases k with
  | list i =>
    obtain ⟨a, ea, hit⟩ := hi
    simp only [nextOf] at h
    split at h
    · rename_i vs hvs
      cases h
      obtain ⟨o, ho, ws, n, rfl, rr⟩ := I.at hvs ea
      exact next_seq ao rr ho rfl hit rfl (fun mv e v h' hv hit' hs => hsome mv e v h' s.toks hv ⟨a, ea, hit'⟩ hs) fun e h' hs => hnone e h' s.toks hs
    · rename_i vs hvs
      cases h
      obtain ⟨o, ho, da, ws, n, hda, rfl, rr⟩ := I.at hvs ea
      exact next_seq ao rr ho rfl hit rfl (fun mv e v h' hv hit' hs => hsome mv e v h' s.toks hv ⟨a, ea, hit'⟩ hs) fun e h' hs => hnone e h' s.toks hs
    · cases h
  | lst vs =>
    unfold nextOf at h
    cases h
    obtain ⟨a, ws, n, ea, rr, hit⟩ := hi
    exact next_seq ao rr (I.fz _ ea) rfl hit rfl (fun mv e v h' hv hit' hs => hsome mv e v h' s.toks hv ⟨a, ws, n, ea, rr, hit'⟩ hs) fun e h' hs => hnone e h' s.toks hs
  | tup vs =>
    unfold nextOf at h
    cases h
    obtain ⟨a, ws, n, ea, rr, hit⟩ := hi
    have ho := I.fz _ ea
    cases hj : vs[j]? with
    | some m =>
      obtain ⟨x, hx, hr⟩ := rr.get hj
      exact wpAny_pyNext_tuple_item hit (isTuple_of ho) (by simpa using hx) fun h' hit' hs => hsome m hj x h' s.toks hr ⟨a, ws, n, ea, rr, hit'⟩ hs.extBut
    | none =>
      exact wpAny_pyNext_tuple_end ao.handled hit (isTuple_of ho) (by simpa using rr.get_none hj) fun h' hs => hnone hj h' s.toks hs
  | rng a b =>
    unfold nextOf at h
    cases h
    obtain ⟨hit, hle⟩ := hi
    by_cases hlt : a + (j : Int) < b
    · have hab : a < b := by omega
      simp only [hab, if_true] at hit hle
      refine wpAny_pyNext_range_item hit (by omega) fun h' hit' hs => hsome (.int (a + j)) (by simp [hlt]) _ h' _ .int' ⟨?_, ?_⟩ hs.extBut
      · simp only [hab, if_true]
        have e1 : a + ((j + 1 : Nat) : Int) = a + (j : Int) + 1 := by omega
        have e2 : b - a - ((j + 1 : Nat) : Int) = b - a - (j : Int) - 1 := by omega
        rw [e1, e2]; exact hit'
      · simp only [hab, if_true]; omega
    · refine wpAny_pyNext_range_end ao.handled hit ?_ fun h' hs => hnone (by simp [hlt]) h' s.toks hs
      split
      · rename_i q; simp only [q, if_true] at hle; omega
      · omega
  | str x =>
    unfold nextOf at h
    cases h
    obtain ⟨t, hit⟩ := hi
    cases hj : x.cps[j]? with
    | some c => exact wpAny_pyNext_ascii_item hit hj fun h' hit' hs => hsome (.str ⟨#[c]⟩) (by simp [hj]) _ h' _ .str' ⟨t, hit'⟩ hs.extBut
    | none => exact wpAny_pyNext_ascii_end ao.handled hit hj fun h' hs => hnone (by simp [hj]) h' s.toks hs

/-! ## for -/
section
variable {prog : Program} {w : World} {A : Around} {R : Result → Shared → Prop} {s : Shared}
theorem forLoopT {target it body orelse env} (I : Nat → Shared → Prop)
    (turn : ∀ n s, I n s → wpAny (model prog w) A (pyNext it) (fun r s₁ => match r with
      | none => wpAny (model prog w) A (execs orelse env) (fun f s₃ => R (.ok f) s₃) (notedBy (model prog w) A env fun e s' => R (.error e) s') s₁
      | some v => wpAny (model prog w) A (letOwnedTupleGo target it v) (fun _ s₁' => wpAny (model prog w) A (assign target env v) (fun _ s₂ => wpAny (model prog w) A (execs body env) (fun f s₃ => match f with
          | .next | .cont => ∃ m, m < n ∧ I m s₃
          | .brk => R (.ok .next) s₃
          | .ret v => R (.ok (.ret v)) s₃) (notedBy (model prog w) A env fun e s' => R (.error e) s') s₂) (notedBy (model prog w) A env fun e s' => R (.error e) s') s₁') (notedBy (model prog w) A env fun e s' => R (.error e) s') s₁)
        (notedBy (model prog w) A env fun e s' => R (.error e) s') s)
    (n : Nat) (h : I n s) : codeAny (model prog w) A (.forLoop target it body orelse env) R s := by
  refine codeAny_loop' rfl I (fun n s hI => ?_) n h
  show wpAny _ _ ((forTurn target it body orelse env).onRaise (fun x => do noteFrame x env; theTreesLotGoes x)) _ _ s
  refine wpAny_noted ?_
  simp only [forTurn]
  refine wpAny_bind (wpAny_standAt (wpAny_bind (wpAny_onRaise (wpAny_mono (turn n s hI) (fun r s₁ h₁ => ?_) fun _ _ h' => wpAny_standAt h'))))
  cases r with
  | none => exact wpAny_pure (.inr ⟨rfl, codeAny_block h₁⟩)
  | some v =>
    refine wpAny_bind (wpAny_mono h₁ (fun _ s₁' h₁' => ?_) fun _ _ h' => h')
    refine wpAny_bind (wpAny_mono h₁' (fun _ s₂ h₂ => wpAny_bind (wpAny_mono h₂ (fun f s₃ h₃ => ?_) fun _ _ h' => h')) fun _ _ h' => h')
    cases f with
    | next => exact wpAny_pure (.inl ⟨rfl, h₃⟩)
    | cont => exact wpAny_pure (.inl ⟨rfl, h₃⟩)
    | brk => exact wpAny_pure h₃
    | ret v => exact wpAny_pure h₃
end

/-- targets for which the loop lets no owned tuple go -/
noncomputable def GoOk (C : Cx) (target : PySem.Expr) : Prop := ∀ {ρ : Wd} {it : Addr} {k : ItK} {j : Nat} {v : Value} {A : Around} {s : Shared} {Q : Unit → Shared → Prop} {E : Value → Shared → Prop},
  ItAt ρ it s.heap k j → Q () s → wpAny C.M A (letOwnedTupleGo target (.ref it) v) Q E s
theorem goOk_name {n : Str} {p : Pos} : GoOk C (.Name n p) := fun _ h => wpAny_pure h
theorem goOk_tuple {es : List PySem.Expr} {k : Nat} {p : Pos} : GoOk C (.Tuple es k p) := by
  intro ρ it kk j v A s Q E hi h
  cases v with
  | ref T =>
    cases kk with
    | list i => obtain ⟨a, _, hit⟩ := hi; exact wpAny_letOwnedTupleGo_listiter hit h
    | lst vs => obtain ⟨a, _, _, _, _, hit⟩ := hi; exact wpAny_letOwnedTupleGo_listiter hit h
    | tup vs =>
      obtain ⟨a, _, _, _, _, o, ho, hc, hd⟩ := hi
      unfold letOwnedTupleGo
      refine wpAny_bind (wpAny_load ho ?_)
      rw [hc, hd]
      exact wpAny_pure h
    | rng a b =>
      unfold letOwnedTupleGo
      refine wpAny_bind (wpAny_load hi.1 ?_)
      exact wpAny_pure h
    | str x =>
      obtain ⟨t, o, ho, hc, hd⟩ := hi
      unfold letOwnedTupleGo
      refine wpAny_bind (wpAny_load ho ?_)
      rw [hc, hd]
      exact wpAny_pure h
  | _ => exact wpAny_pure h

noncomputable def dForLoop (tg : Tg) (f : DS) (k : ItK) : Nat → Nat → DS
  | 0, _ => fun _ _ => none
  | n + 1, j => fun me mh => match nextOf k mh j with
    | none => none
    | some none => some (.next, me, mh)
    | some (some v) => (match tg me mh v with
      | none => none
      | some me1 => (match f me1 mh with
        | some (.next, me2, mh2) => dForLoop tg f k n (j + 1) me2 mh2
        | some (.cont, me2, mh2) => dForLoop tg f k n (j + 1) me2 mh2
        | some (.brk, me2, mh2) => some (.next, me2, mh2)
        | r => r))
noncomputable def dFor (c0 : Option Addr) (N : Nat) (it : D) (tg : Tg) (f : DS) : DS := fun me mh => match it me mh with
  | some (v, mh1) => (match itOf c0 v mh1 with
    | some k => dForLoop tg f k N 0 me mh1
    | none => none)
  | none => none

theorem RS_for (ok : C.Ok) {c0 : Option Addr} (h0 : SubIter C c0) {target iter : PySem.Expr} {body : List Stmt} {pos : Pos} {it : D} {tg : Tg} {f : DS} (N : Nat) (hi : RE C d env iter it) (ht : RTg C d env (fa env) target tg) (hg : GoOk C target) (hb : RS C d env (execs body env) f)
    (hs : ∀ x, foldedSetIterable iter env x = pure x) : RS C d env (exec (.For target iter body [] pos) env) (dFor c0 N it tg f) := by
  intro me mh fl me' mh' hf ρ A s Q E ao I so F hQ
  unfold dFor at hf
  split at hf
  · rename_i v mh1 hf1
    split at hf
    · rename_i k hk
      refine wpAny_For (hi hf1 ao I so F fun rv ρ1 s1 x1 I1 so1 v1 => iter_ok ok h0 hk I1 v1 fun o hit => ?_) hs
      have F1 := F.ext0 x1
      have c00 : s1.heap.get? s1.heap.objs.size = none := get_size _
      have cb : C.base.get? s1.heap.objs.size = none := (I1.fresh c00).2
      have cr : ¬ ρ1.has s1.heap.objs.size := (I1.fresh c00).1
      have cf : s1.heap.objs.size ∉ fa env := fun hm => by obtain ⟨o, e⟩ := F1.liveFa hm; rw [e] at c00; cases c00
      have kp : ∀ b o', s1.heap.get? b = some o' → (s1.heap.push o).get? b = some o' := fun b o' e => Heap.get?_push_of_some _ e
      generalize s1.heap.objs.size = c at *
      refine forLoopT (I := fun n s2 => ∃ j me2 mh2 ρ2, dForLoop tg f k n j me2 mh2 = some (fl, me', mh') ∧ ItAt ρ2 c s2.heap k j ∧ Ext C ρ1 (fa env) s1.heap ρ2 s2.heap ∧ ¬ ρ2.has c ∧ Inv C ρ2 mh2 s2.heap ∧ SOk C s2 ∧ FR C ρ2 env me2 s2.heap) ?_ N
        ⟨0, me, mh1, ρ1, hf, hit, (Ext.all kp).wide, cr, I1.junk kp, so1.heap _ _, F1.keep (.refl _) (fun a _ o' e => kp a o' e) fun a ha => (F1.out a ha).1⟩
      rintro n s2 ⟨j, me2, mh2, ρ2, hw, hit2, x2, hc2, I2, so2, F2⟩
      cases n with
      | zero => simp [dForLoop] at hw
      | succ n =>
        unfold dForLoop at hw
        cases hn : nextOf k mh2 j with
        | none => rw [hn] at hw; simp at hw
        | some r =>
          rw [hn] at hw
          refine next_ok (d := d) hn ao I2 hit2 (fun mv hr v h3 tk hv hit3 e3 => ?_) fun hr h3 tk e3 => ?_
          · subst hr
            simp only at hw
            have I3 : Inv C ρ2 mh2 h3 := I2.ext hc2 cb e3
            have F3 : FR C ρ2 env me2 h3 := F2.keep (.refl _) (fun a ha o' e => e3 a o' (fun z => cf (z ▸ ha)) e) fun a ha => (F2.out a ha).1
            have x3 : Ext C ρ1 (fa env) s1.heap ρ2 h3 := x2.step c00 e3
            refine hg (s := { s2 with heap := h3, toks := tk }) hit3 ?_
            cases htg : tg me2 mh2 mv with
            | none => rw [htg] at hw; simp at hw
            | some me3 =>
              rw [htg] at hw
              simp only at hw
              refine ht htg (s := { s2 with heap := h3, toks := tk }) ao I3 (so2.heap _ _) F3 hv fun s4 x4 I4 so4 F4 => ?_
              cases hff : f me3 mh2 with
              | none => rw [hff] at hw; simp at hw
              | some r =>
                obtain ⟨fl1, me5, mh5⟩ := r
                rw [hff] at hw
                refine hb hff ao I4 so4 F4 fun fl' ρ5 s5 x5 I5 so5 F5 r5 => ?_
                have x45 : Ext C ρ2 (fa env) h3 ρ5 s5.heap := x4.trans x5
                have hit5 : ItAt ρ5 c s5.heap k (j + 1) := hit3.keep x45.pre fun o' e => x45.keep c o' e (not_has_ids hc2) (I2.not_x cb) cf
                have hc5 : ¬ ρ5.has c := fun hm => by
                  rcases x45.fresh c hm with q | q
                  · exact hc2 q
                  · obtain ⟨o', e⟩ := hit3.live; rw [e] at q; cases q
                cases fl1 with
                | next => cases r5; exact ⟨n, Nat.lt_succ_self n, j + 1, me5, mh5, ρ5, hw, hit5, x3.trans x45, hc5, I5, so5, F5⟩
                | cont => cases r5; exact ⟨n, Nat.lt_succ_self n, j + 1, me5, mh5, ρ5, hw, hit5, x3.trans x45, hc5, I5, so5, F5⟩
                | brk => cases r5; cases hw; exact hQ _ _ _ (x1.wide.trans (x3.trans x45)) I5 so5 F5 rfl
                | ret v => obtain ⟨w, rfl, r⟩ := r5; cases hw; exact hQ _ _ _ (x1.wide.trans (x3.trans x45)) I5 so5 F5 ⟨_, rfl, r⟩
          · subst hr
            simp only at hw
            cases hw
            refine wpAny_execs_nil (hQ _ _ _ (x1.wide.trans (x2.step c00 e3)) (I2.ext hc2 cb e3) (so2.heap _ _) (F2.keep (.refl _) (fun a ha o' e => e3 a o' (fun z => cf (z ▸ ha)) e) fun a ha => (F2.out a ha).1) rfl)
    · cases hf
  · cases hf

end Mine

namespace Mine
variable {C : Cx} {d : Nat} {env : Env}

/-! ## called functions -/
noncomputable abbrev DF := List MV → MH → Option (MV × MH)
noncomputable def RF (C : Cx) (d : Nat) (f : Addr) (den : DF) : Prop :=
  ∀ {mvs mh mv mh'}, den mvs mh = some (mv, mh') → ∀ {ρ A s vs R}, Aok d A → Inv C ρ mh s.heap → SOk C s → VRs ρ mvs vs →
    (∀ v ρ' s', Ext C ρ [] s.heap ρ' s'.heap → Inv C ρ' mh' s'.heap → SOk C s' → VR ρ' mv v → R (.ok (.ret v)) s') → codeAny C.M A (.call (.ref f) ⟨vs, []⟩) R s

/-- the frame of a called def -/
noncomputable def zipE : List Nat → List MV → ME
  | x :: xs, v :: vs => (x, v) :: zipE xs vs
  | _, _ => []
noncomputable def dFn (xs : List Nat) (F : DS) : DF := fun mvs mh => if mvs.length = xs.length then (match F (zipE xs mvs) mh with
    | some (.ret v, _, mh') => some (v, mh')
    | some (.next, _, mh') => some (.none, mh')
    | _ => none) else none

theorem cellsFrom_names : ∀ (names : List (Str × NameKind)) (n m : Nat) (acc acc' : List (Str × Addr)), acc.map (·.1) = acc'.map (·.1) → (cellsFrom n names acc).map (·.1) = (cellsFrom m names acc').map (·.1)
  | [], _, _, _, _, h => h
  | (x, k) :: r, n, m, acc, acc', h => by
    unfold cellsFrom
    split
    · exact cellsFrom_names r _ _ _ _ (by simp [h])
    · exact cellsFrom_names r _ _ _ _ h
theorem lookup_of_mem_nodup {α : Type} : ∀ {l : List (Str × α)} {n : Str} {c : α}, (l.map (·.1)).Nodup → (n, c) ∈ l → l.lookup n = some c
  | (k, v) :: r, n, c, hn, hm => by
    rw [List.map_cons, List.nodup_cons] at hn
    rw [List.lookup_cons]
    rcases List.mem_cons.mp hm with e | hm
    · cases e; simp
    · have : n ≠ k := fun z => hn.1 (z ▸ List.mem_map.mpr ⟨(n, c), hm, rfl⟩)
      rw [show (n == k) = false by simpa using this]
      exact lookup_of_mem_nodup hn.2 hm
theorem cellsFrom_has : ∀ (names : List (Str × NameKind)) (n : Nat) (acc : List (Str × Addr)) (x : Str), (names.lookup x = some .cell ∨ (acc.lookup x).isSome = true) → ((cellsFrom n names acc).lookup x).isSome = true
  | names, n, acc, x, h => PySem.W.cellsFrom_some names n acc h

theorem bindL_out (kindOf : Str → Option NameKind) {n : Str} : ∀ (binds : List (Str × Value)) (m : Str → Option Value), n ∉ binds.map (·.1) → bindL kindOf binds m n = m n
  | [], _, _ => rfl
  | (x, v) :: r, m, h => by
    simp only [List.map_cons, List.mem_cons, not_or] at h
    unfold bindL
    rw [bindL_out kindOf r _ h.2]
    split
    · simp [h.1]
    · rfl
theorem bindC_out (kindOf : Str → Option NameKind) {n : Str} : ∀ (binds : List (Str × Value)) (m : Str → Option Value), n ∉ binds.map (·.1) → bindC kindOf binds m n = m n
  | [], _, _ => rfl
  | (x, v) :: r, m, h => by
    simp only [List.map_cons, List.mem_cons, not_or] at h
    unfold bindC
    rw [bindC_out kindOf r _ h.2]
    split
    · rfl
    · simp [h.1]
theorem bindL_in (kindOf : Str → Option NameKind) {n : Str} {v : Value} : ∀ (binds : List (Str × Value)) (m : Str → Option Value), (binds.map (·.1)).Nodup → (n, v) ∈ binds → kindOf n = some .local → bindL kindOf binds m n = some v
  | (x, w) :: r, m, hn, hm, hk => by
    rw [List.map_cons, List.nodup_cons] at hn
    unfold bindL
    rcases List.mem_cons.mp hm with e | hm
    · cases e
      rw [bindL_out kindOf r _ hn.1, if_pos hk]; simp
    · exact bindL_in kindOf r _ hn.2 hm hk
theorem bindC_in (kindOf : Str → Option NameKind) {n : Str} {v : Value} : ∀ (binds : List (Str × Value)) (m : Str → Option Value), (binds.map (·.1)).Nodup → (n, v) ∈ binds → kindOf n = some .cell → bindC kindOf binds m n = some v
  | (x, w) :: r, m, hn, hm, hk => by
    rw [List.map_cons, List.nodup_cons] at hn
    unfold bindC
    rcases List.mem_cons.mp hm with e | hm
    · cases e
      rw [bindC_out kindOf r _ hn.1, if_neg (by rw [hk]; decide)]; simp
    · exact bindC_in kindOf r _ hn.2 hm hk

/-- the numbers of the parameters -/
inductive PNames (C : Cx) : List Nat → List Str → Prop where
  | nil : PNames C [] []
  | cons {x n xs ns} : C.tbl[x]? = some n → PNames C xs ns → PNames C (x :: xs) (n :: ns)
theorem PNames.len {xs : List Nat} {ns : List Str} (h : PNames C xs ns) : xs.length = ns.length := by
  induction h with
  | nil => rfl
  | cons _ _ ih => simp [ih]
theorem PNames.zip {xs : List Nat} {ns : List Str} (h : PNames C xs ns) : ∀ {mvs : List MV} {vs : List Value} {ρ : Wd}, VRs ρ mvs vs → ∀ {x mv n}, (zipE xs mvs).lookup x = some mv → C.tbl[x]? = some n → ∃ v, VR ρ mv v ∧ (n, v) ∈ ns.zip vs := by
  induction h with
  | nil => intro mvs vs ρ _ x mv n hl; simp [zipE] at hl
  | @cons x0 n0 xs ns hx _ ih =>
    intro mvs vs ρ hv x mv n hl ht
    cases hv with
    | nil => simp [zipE] at hl
    | cons h1 h2 =>
      unfold zipE at hl
      rw [List.lookup_cons] at hl
      by_cases e : x = x0
      · subst e
        simp at hl; subst hl
        rw [hx] at ht; cases ht
        exact ⟨_, h1, by simp⟩
      · rw [show (x == x0) = false by simpa using e] at hl
        obtain ⟨v, a, b⟩ := ih h2 hl ht
        exact ⟨v, a, by simp [b]⟩

theorem RF_def (ok : C.Ok) {f : Addr} {oc : Value} {od : Option Addr} {osl : Array (Option Value)} {name qual : Str} {params : Arguments} {body : List Stmt} {scope : Scope} {dV kV doc pm cdv ct : Value} {an : Option Addr}
    {xs : List Nat} {ns : List Str} {F : DS}
    (hK : C.K.lookup f = some ⟨oc, od, .func (fnOf name qual params body scope dV kV doc pm an cdv ct), osl⟩) (hcd : codeIn C.K cdv qual = true)
    (hp : PNames C xs ns) (hnn : ns.Nodup)
    (hbind : ∀ vs : List Value, vs.length = ns.length → bindArgs (fnOf name qual params body scope dV kV doc pm an cdv ct) ⟨vs, []⟩ = pure (ns.zip vs))
    (hkind : ∀ n ∈ ns, scope.names.lookup n = some .local ∨ scope.names.lookup n = some .cell)
    (hnd : ((cellsFrom 0 scope.names []).map (·.1)).Nodup) (hfr : ∀ n, scope.names.lookup n ≠ some .free) (hk : scope.kind = .function) (hco : scope.isCoroutine = false) (hgen : scope.isGenerator = false)
    (hb : ∀ L, RS C d (callEnvC (fnOf name qual params body scope dV kV doc pm an cdv ct) L f) (execs body (callEnvC (fnOf name qual params body scope dV kV doc pm an cdv ct) L f)) F) :
    RF C (d + 1) f (dFn xs F) := by
  intro mvs mh mv mh' hf ρ A s vs R ao I so hv hR
  unfold dFn at hf
  split at hf
  · rename_i hlen
    have hvl : vs.length = ns.length := by rw [hv.length, hlen, hp.len]
    have ho := (I.k ok) _ _ hK
    refine codeAny_call_cells ao.room ho rfl (I.nolimit ok) (codeRec_of (I.k ok) hcd) rfl (hbind vs hvl) rfl (fun x hx => ?_) (fun s₁ x => ?_) hco hgen hk
    · have hx1 : x.1 ∈ ns := by
        have := List.mem_map_of_mem (f := Prod.fst) hx
        rw [List.map_fst_zip (by omega)] at this
        exact this
      rcases hkind x.1 hx1 with q | q
      · exact .inl q
      · exact .inr ⟨q, cellsFrom_has _ _ _ _ (.inl q)⟩
    · have hnd' : ((cellsFrom (s.heap.objs.size + 1) scope.names []).map (·.1)).Nodup := by
        rw [cellsFrom_names scope.names _ 0 [] [] rfl]; exact hnd
      have hkeep := x.toInCall.keep
      have I1 : Inv C ρ mh s₁.heap := I.junk hkeep
      have so1 : SOk C s₁ := by obtain ⟨h', tk, rfl⟩ := x.toInCall.same; exact so.heap _ _
      have hfresh : ∀ a ∈ fa (callEnvC (fnOf name qual params body scope dV kV doc pm an cdv ct) s.heap.objs.size f), s.heap.get? a = none := by
        intro a ha
        have hge : s.heap.objs.size ≤ a := by
          unfold fa at ha
          rcases List.mem_cons.mp ha with rfl | ha
          · exact Nat.le_refl _
          · obtain ⟨⟨n, c⟩, hm, rfl⟩ := List.mem_map.mp ha
            exact Nat.le_of_lt (x.above n c hm)
        cases e : s.heap.get? a with
        | none => rfl
        | some o => exact absurd (Heap.lt_size e) (Nat.not_lt.mpr hge)
      have hzip : (ns.zip vs).map (·.1) = ns := List.map_fst_zip (by omega)
      have F1 : FR C ρ (callEnvC (fnOf name qual params body scope dV kV doc pm an cdv ct) s.heap.objs.size f) (zipE xs mvs) s₁.heap := by
        refine ⟨hk, rfl, rfl, ⟨_, x.toInCall.ns⟩, fun n c hm => ⟨_, x.cell n c (lookup_of_mem_nodup hnd' hm)⟩, fun a ha => I.fresh (hfresh a ha), fun a ha => I.not_x (I.fresh (hfresh a ha)).2, x.apart, fun n c hm => Nat.ne_of_gt (x.above n c hm), fun n hn => ?_, fun n hn => absurd hn (hfr n), fun y my n hy ht => ?_⟩
        · exact Option.isSome_iff_exists.mp (cellsFrom_has _ _ _ _ (.inl hn))
        · obtain ⟨v, h1, h2⟩ := hp.zip hv hy ht
          refine ⟨v, h1, ?_⟩
          have hn1 : n ∈ ns := by have := List.mem_map_of_mem (f := Prod.fst) h2; rw [hzip] at this; exact this
          unfold VarAt
          rcases hkind n hn1 with q | q
          · have q' : (callEnvC (fnOf name qual params body scope dV kV doc pm an cdv ct) s.heap.objs.size f).kindOf n = some .local := q
            rw [q']
            exact ⟨_, x.toInCall.ns, bindL_in _ _ _ (by rw [hzip]; exact hnn) h2 q'⟩
          · have q' : (callEnvC (fnOf name qual params body scope dV kV doc pm an cdv ct) s.heap.objs.size f).kindOf n = some .cell := q
            rw [q']
            obtain ⟨c, hc⟩ := Option.isSome_iff_exists.mp (cellsFrom_has scope.names (s.heap.objs.size + 1) [] n (.inl q))
            refine ⟨c, hc, ?_⟩
            have := x.cell n c hc
            rw [bindC_in _ _ _ (by rw [hzip]; exact hnn) h2 q'] at this
            exact this
      have x0 : Ext C ρ [] s.heap ρ s₁.heap := Ext.all hkeep
      cases hF : F (zipE xs mvs) mh with
      | none => rw [hF] at hf; simp at hf
      | some r =>
        obtain ⟨fl, me', mh1⟩ := r
        rw [hF] at hf
        refine hb s.heap.objs.size hF ao.deeper I1 so1 F1 fun fl' ρ' s' x' I' so' F' r' => ?_
        have xx : Ext C ρ [] s.heap ρ' s'.heap := (x0.wide.trans x').more fun a ha => .inr (hfresh a ha)
        cases fl with
        | ret v => obtain ⟨w, rfl, hw⟩ := r'; cases hf; exact hR _ _ _ xx I' so' hw
        | next => cases r'; cases hf; exact hR _ _ _ xx I' so' .none'
        | brk => simp at hf
        | cont => simp at hf
  · cases hf

/-! ## a call is framed: its own mini heap, then what it made is frozen -/

theorem StrmOk.mono {g : FuncData → Prop} {fz fz' : List (Addr × Obj)} (hz : ∀ p ∈ fz, p ∈ fz') {x : Str} {t a : Addr} (h : StrmOk g fz x t a) : StrmOk g fz' x t a := by
  obtain ⟨o1, od, oD, c, oc, fd, ct, tt, cat, a1, a2, a3, a4, a5, a6, a7, a8, a9, a10, a11, a12, a13, a14⟩ := h
  exact ⟨o1, od, oD, c, oc, fd, ct, tt, cat, hz _ a1, a2, a3, a4, hz _ a5, a6, hz _ a7, a8, a9, ⟨a10.1, a10.2.mono hz⟩, a11, a12, let ⟨o, m, r⟩ := a13; ⟨o, hz _ m, r⟩, let ⟨o, m, r⟩ := a14; ⟨o, hz _ m, r⟩⟩

theorem len1 {α : Type} {l : List α} (h : l.length = 1) : ∃ a, l = [a] := List.length_eq_one_iff.mp h
theorem len2 {α : Type} {l : List α} (h : l.length = 2) : ∃ a b, l = [a, b] := by
  match l, h with
  | [a, b], _ => exact ⟨a, b, rfl⟩
theorem len3 {α : Type} {l : List α} (h : l.length = 3) : ∃ a b c, l = [a, b, c] := by
  match l, h with
  | [a, b, c], _ => exact ⟨a, b, c, rfl⟩

/-! ## the call of a def by its name -/
noncomputable def dCall (den : DF) (g : DL) : D := fun me mh => match g me mh with
  | some (vs, mh1) => den vs mh1
  | none => none
theorem eval_glob (ok : C.Ok) {n : Str} {pos : Pos} {v : Value} {me : ME} {mh : MH} {ρ : Wd} {A : Around} {s : Shared} {Q : Value → Shared → Prop} {E : Value → Shared → Prop} (hn : C.mg n = some v)
    (hx : env.kindOf n = some .globalImplicit) (hd : (n == ("__debug__" : Str)) = false) (I : Inv C ρ mh s.heap) (F : FR C ρ env me s.heap) (h : Q v s) : wpAny C.M A (eval (.Name n pos) env) Q E s :=
  Calls.Name_function_global F.kind hx (Calls.loadGlobal_global (by rw [F.glob]; exact I.g ok) hn h) hd
theorem eval_bui (ok : C.Ok) {n : Str} {pos : Pos} {v : Value} {me : ME} {mh : MH} {ρ : Wd} {A : Around} {s : Shared} {Q : Value → Shared → Prop} {E : Value → Shared → Prop} (hn : C.mg n = none) (hb : C.mb n = some v)
    (hx : env.kindOf n = some .globalImplicit) (hd : (n == ("__debug__" : Str)) = false) (I : Inv C ρ mh s.heap) (F : FR C ρ env me s.heap) (h : Q v s) : wpAny C.M A (eval (.Name n pos) env) Q E s :=
  Calls.Name_function_global F.kind hx (Calls.loadGlobal_builtin (by rw [F.glob]; exact I.g ok) hn (by rw [F.bui]; exact I.b ok) hb h) hd

/-- an address that holds a def -/
noncomputable def IsDef (C : Cx) (f : Addr) : Prop := ∃ o fd, C.K.lookup f = some o ∧ o.data = .func fd

theorem RE_call (ok : C.Ok) {g : Str} {p pos : Pos} {e : PySem.Expr} {rest : List PySem.Expr} {f : Addr} {den : DF} {a : DL} (hg : C.mg g = some (.ref f)) (hx : env.kindOf g = some .globalImplicit) (hd : (g == ("__debug__" : Str)) = false)
    (hf : IsDef C f) (hr : RF C d f den) (ha : RArgs C d env (e :: rest) a) (he : starEach (e :: rest) env = (false, eval e env) :: starEach rest env := by rfl) :
    RE C d env (.Call (.Name g p) (e :: rest) [] pos) (dCall den a) := by
  intro me mh mv mh' h ρ A s Q E ao I so F hQ
  unfold dCall at h
  split at h
  · rename_i vs mh1 h1
    refine wpAny_Call_NameR (eval_glob ok hg hx hd I F ?_)
    obtain ⟨o, fd, hk, hdat⟩ := hf
    refine PyProof.Rows.callWith_def (o := o) hdat (ha pos h1 ao I so F fun ws ρ1 s1 x1 I1 so1 v1 => ⟨(I1.k ok) _ _ hk, ?_⟩) he
    exact wpAny_call (hr h ao I1 so1 v1 fun v ρ2 s2 x2 I2 so2 v2 => hQ v ρ2 s2 (x1.trans x2) I2 so2 v2)
  · cases h
theorem RE_call0 (ok : C.Ok) {g : Str} {p pos : Pos} {f : Addr} {den : DF} (hg : C.mg g = some (.ref f)) (hx : env.kindOf g = some .globalImplicit) (hd : (g == ("__debug__" : Str)) = false)
    (hf : IsDef C f) (hr : RF C d f den) : RE C d env (.Call (.Name g p) [] [] pos) (dCall den dL0) := by
  intro me mh mv mh' h ρ A s Q E ao I so F hQ
  unfold dCall dL0 at h
  simp only at h
  refine wpAny_Call_NameR (eval_glob ok hg hx hd I F ?_)
  obtain ⟨o, fd, hk, hdat⟩ := hf
  refine Calls.callWith_function (o := o) (fd := fd) (PyProof.Rows.evalArgs_none ⟨⟨(I.k ok) _ _ hk, hdat⟩, ?_⟩)
  exact wpAny_call (hr h ao I so .nil fun v ρ2 s2 x2 I2 so2 v2 => hQ v ρ2 s2 x2 I2 so2 v2)

end Mine

namespace Mine
variable {C : Cx} {d : Nat} {env : Env}

/-! ## the loop of a comprehension -/
section
variable {prog : Program} {w : World} {A : Around} {R : Result → Shared → Prop} {s : Shared}
noncomputable abbrev testsOf (ifs : List PySem.Expr) (env : Env) : Sem Bool := forIn ifs true fun c r => if r = true then do let ok ← isTrue c env (eval c env); pure (ForInStep.yield ok) else pure (ForInStep.yield r)

theorem compLoopT {elt : PySem.Expr} {gens : List Comprehension} {scope : Scope} {pos p : Pos} {dp : Nat} {target : PySem.Expr} {ifs : List PySem.Expr} {it acc : Value} {env : Env} {act : Sem Unit}
    (heq : compTurn (.ListComp elt gens scope pos) dp it acc env = (do
      standAt p
      match ← pyNext it with
      | none => pure (.done .next)
      | some v =>
        letOwnedTupleGo target it v
        assign target env v
        let mut ok := true
        for c in ifs do
          if ok then ok ← isTrue c env (eval c env)
        if ok then act
        again (.compLoop (.ListComp elt gens scope pos) dp it acc env))) (I : Nat → Shared → Prop)
    (turn : ∀ n s, I n s → wpAny (model prog w) A (pyNext it) (fun r s₁ => match r with
      | none => R (.ok .next) s₁
      | some v => wpAny (model prog w) A (letOwnedTupleGo target it v) (fun _ s₁' => wpAny (model prog w) A (assign target env v) (fun _ s₂ =>
          wpAny (model prog w) A (testsOf ifs env) (fun ok s₃ =>
            if ok = true then wpAny (model prog w) A act (fun _ s₅ => ∃ m, m < n ∧ I m s₅) (notedBy (model prog w) A env fun e s' => R (.error e) s') s₃
            else ∃ m, m < n ∧ I m s₃) (notedBy (model prog w) A env fun e s' => R (.error e) s') s₂) (notedBy (model prog w) A env fun e s' => R (.error e) s') s₁') (notedBy (model prog w) A env fun e s' => R (.error e) s') s₁)
        (notedBy (model prog w) A env fun e s' => R (.error e) s') s)
    (n : Nat) (h : I n s) : codeAny (model prog w) A (.compLoop (.ListComp elt gens scope pos) dp it acc env) R s := by
  refine codeAny_loop rfl I (fun n s hI => ?_) n h
  show wpAny _ A ((compTurn (.ListComp elt gens scope pos) dp it acc env).onRaise (fun x => do noteFrame x env; theTreesLotGoes x)) _ _ s
  refine wpAny_noted ?_
  rw [heq]
  refine wpAny_bind (wpAny_standAt (wpAny_bind (wpAny_mono (turn n s hI) (fun r s₁ h₁ => ?_) fun _ _ h' => h')))
  cases r with
  | none => exact wpAny_pure h₁
  | some v =>
    refine wpAny_bind (wpAny_mono h₁ (fun _ s₁' h₁' => ?_) fun _ _ h' => h')
    refine wpAny_bind (wpAny_mono h₁' (fun _ s₂ h₂ => wpAny_bind (wpAny_mono h₂ (fun ok s₃ h₃ => ?_) fun _ _ h' => h')) fun _ _ h' => h')
    cases ok with
    | false => exact wpAny_pure ⟨rfl, h₃⟩
    | true => exact wpAny_bind (wpAny_mono h₃ (fun x s₄ h₄ => wpAny_pure ⟨rfl, h₄⟩) fun _ _ h' => h')

theorem compStartT {elt : PySem.Expr} {gens : List Comprehension} {scope : Scope} {pos : Pos} {dp : Nat} {g : Comprehension} {it acc : Value} {env : Env} (hg : gens[dp]? = some g) (ha : g.is_async = 0)
    (h0 : codeAny (model prog w) A (.compLoop (.ListComp elt gens scope pos) dp it acc env) R s)
    (h : wpAny (model prog w) A (pyIter it) (fun it' s' => codeAny (model prog w) A (.compLoop (.ListComp elt gens scope pos) dp it' acc env) R s')
      (notedBy (model prog w) A env fun x s' => R (.error x) s') s) :
    codeAny (model prog w) A (.compStart (.ListComp elt gens scope pos) dp it acc env) R s := by
  refine codeAny_of_tree ?_
  show wpAny _ _ ((compStart (.ListComp elt gens scope pos) dp it acc env).onRaise (fun x => do noteFrame x env; standAt theWindowsPlace)) _ _ s
  refine wpAny_notedAt ?_
  unfold compStart
  have e1 : (clausesOf (.ListComp elt gens scope pos))[dp]? = some g := hg
  simp only [e1, Option.elim, ha, bne_self_eq_false, Bool.false_eq_true, if_false]
  refine wpAny_bind (wpAny_askSetting (wpAny_ite ?_))
  split
  · first
      | exact wpAny_bind (wpAny_pure (wpAny_pure (And.intro rfl h0)))
      | exact wpAny_pure (And.intro rfl h0)
  · first
      | exact wpAny_bind (wpAny_rule (wpAny_bind (wpAny_standAt (wpAny_bind (wpAny_mono h (fun it' s' h' => wpAny_pure (And.intro rfl h')) fun _ _ x => x)))))
      | exact wpAny_bind (wpAny_rule (wpAny_bind (wpAny_bind (wpAny_standAt (wpAny_pure (wpAny_bind (wpAny_mono h (fun it' s' h' => wpAny_pure (And.intro rfl h')) fun _ _ x => x)))))))
end

theorem ItAt.self {ρ : Wd} {it : Addr} {k : ItK} {j : Nat} {A : Around} {s : Shared} {Q : Value → Shared → Prop} {E : Value → Shared → Prop} (x : ItAt ρ it s.heap k j) (h : Q (.ref it) s) : wpAny C.M A (pyIter (.ref it)) Q E s := by
  cases k with
  | list i => obtain ⟨a, e, hit⟩ := x; exact wpAny_pyIter_listiter hit h
  | lst vs => obtain ⟨a, _, _, _, _, hit⟩ := x; exact wpAny_pyIter_listiter hit h
  | tup vs => obtain ⟨a, _, _, _, _, hit⟩ := x; exact wpAny_pyIter_tupleiter hit h
  | rng a b => exact wpAny_pyIter_rangeiter x.1 h
  | str y => obtain ⟨t, hit⟩ := x; exact wpAny_pyIter_striter_ascii hit h

noncomputable def RTests (C : Cx) (d : Nat) (env : Env) (ifs : List PySem.Expr) (c : DB) : Prop := RB C d env (testsOf ifs env) c
theorem RTests_nil : RTests C d env [] dBt := by
  intro me mh b mh' hf ρ A s Q E ao I so F hQ
  cases hf
  exact wpAny_tests_nil (hQ _ _ (Ext.refl _ _ _) I so)
theorem RTests_one {c : PySem.Expr} {f : DB} (h : RB C d env (isTrue c env (eval c env)) f) : RTests C d env [c] f := by
  intro me mh b mh' hf ρ A s Q E ao I so F hQ
  exact wpAny_tests_one (h hf ao I so F hQ)

/-- the list that is being filled -/
structure AccAt (C : Cx) (ρ : Wd) (env : Env) (acc : Addr) (l : List MV) (h : Heap) : Prop where
  out : ¬ ρ.has acc
  base : C.base.get? acc = none
  fr : acc ∉ fa env
  lst : ∃ ws n, h.get? acc = some (listO ws n) ∧ VRs ρ l ws

theorem AccAt.keep {ρ ρ' : Wd} {acc : Addr} {l : List MV} {h h' : Heap} (x : AccAt C ρ env acc l h) (hp : ρ.le ρ') (hn : ¬ ρ'.has acc) (hk : ∀ o, h.get? acc = some o → h'.get? acc = some o) : AccAt C ρ' env acc l h' :=
  ⟨hn, x.base, x.fr, let ⟨ws, n, ho, r⟩ := x.lst; ⟨ws, n, hk _ ho, r.mono hp⟩⟩
theorem AccAt.ext {ρ ρ' : Wd} {F : List Addr} {acc : Addr} {l : List MV} {mh : MH} {h h' : Heap} (x : AccAt C ρ env acc l h) (I : Inv C ρ mh h) (e : Ext C ρ F h ρ' h') (hF : acc ∉ F) : AccAt C ρ' env acc l h' := by
  obtain ⟨ws, n, ho, r⟩ := x.lst
  refine x.keep e.pre (fun hm => ?_) fun o q => e.keep _ o q (not_has_ids x.out) (I.not_x x.base) hF
  rcases e.fresh _ hm with q | q
  · exact x.out q
  · rw [ho] at q; cases q

noncomputable abbrev DA := List MV → ME → MH → Option (List MV × ME × MH)
/-- what a turn does, the list at acc -/
noncomputable def RAct (C : Cx) (d : Nat) (env : Env) (acc : Addr) (t : Sem Unit) (f : DA) : Prop :=
  ∀ {l me mh l' me' mh'}, f l me mh = some (l', me', mh') → ∀ {ρ A s Q E}, Aok d A → Inv C ρ mh s.heap → SOk C s → FR C ρ env me s.heap → AccAt C ρ env acc l s.heap →
    (∀ ρ' s', Ext C ρ [env.locals, acc] s.heap ρ' s'.heap → Inv C ρ' mh' s'.heap → SOk C s' → FR C ρ' env me' s'.heap → AccAt C ρ' env acc l' s'.heap → Q () s') → wpAny C.M A t Q E s

noncomputable def dCompLoop (tg : Tg) (cond : DB) (act : DA) (k : ItK) : Nat → Nat → DA
  | 0, _ => fun _ _ _ => none
  | n + 1, j => fun l me mh => match nextOf k mh j with
    | none => none
    | some none => some (l, me, mh)
    | some (some v) => (match tg me mh v with
      | none => none
      | some me1 => (match cond me1 mh with
        | none => none
        | some (false, mh2) => dCompLoop tg cond act k n (j + 1) l me1 mh2
        | some (true, mh2) => (match act l me1 mh2 with
          | none => none
          | some (l3, me3, mh3) => dCompLoop tg cond act k n (j + 1) l3 me3 mh3)))

/-- a comprehension's loop, from an iterator that the heap at the start does not know -/
theorem compRun {elt : PySem.Expr} {gens : List Comprehension} {scope : Scope} {pos p : Pos} {dp : Nat} {target iter : PySem.Expr} {ifs : List PySem.Expr} {act : Sem Unit} {acc c : Addr}
    (heq : compTurn (.ListComp elt gens scope pos) dp (.ref c) (.ref acc) env = (do
      standAt p
      match ← pyNext (.ref c) with
      | none => pure (.done .next)
      | some v =>
        letOwnedTupleGo target (.ref c) v
        assign target env v
        let mut ok := true
        for c in ifs do
          if ok then ok ← isTrue c env (eval c env)
        if ok then act
        again (.compLoop (.ListComp elt gens scope pos) dp (.ref c) (.ref acc) env))) (hgen : gens[dp]? = some ⟨target, iter, ifs, 0⟩)
    {tg : Tg} {cond : DB} {f : DA} (ht : RTg C d env [env.locals] target tg) (hg : GoOk C target) (hc : RTests C d env ifs cond) (ha : RAct C d env acc act f)
    {N : Nat} {k : ItK} {l l' : List MV} {me : ME} {mh : MH} {me' : ME} {mh' : MH} (hf : dCompLoop tg cond f k N 0 l me mh = some (l', me', mh')) {ρ0 ρ : Wd} {h0 : Heap} {A : Around} {s : Shared} {R : Result → Shared → Prop}
    (ao : Aok d A) (x0 : Ext C ρ0 [env.locals, acc] h0 ρ s.heap) (c0 : h0.get? c = none) (cr : ¬ ρ.has c) (cb : C.base.get? c = none) (cf : c ∉ fa env) (ca : c ≠ acc) (I : Inv C ρ mh s.heap) (so : SOk C s) (F : FR C ρ env me s.heap) (hit : ItAt ρ c s.heap k 0) (hacc : AccAt C ρ env acc l s.heap)
    (hR : ∀ ρ' s', Ext C ρ0 [env.locals, acc] h0 ρ' s'.heap → Inv C ρ' mh' s'.heap → SOk C s' → FR C ρ' env me' s'.heap → ¬ ρ'.has c → ρ.le ρ' → AccAt C ρ' env acc l' s'.heap → R (.ok .next) s') :
    codeAny C.M A (.compStart (.ListComp elt gens scope pos) dp (.ref c) (.ref acc) env) R s := by
  have loop : codeAny C.M A (.compLoop (.ListComp elt gens scope pos) dp (.ref c) (.ref acc) env) R s := by
    refine compLoopT heq (I := fun n s2 => ∃ j l2 me2 mh2 ρ2, dCompLoop tg cond f k n j l2 me2 mh2 = some (l', me', mh') ∧ ItAt ρ2 c s2.heap k j ∧ Ext C ρ0 [env.locals, acc] h0 ρ2 s2.heap ∧ ρ.le ρ2 ∧ ¬ ρ2.has c ∧ Inv C ρ2 mh2 s2.heap ∧ SOk C s2 ∧ FR C ρ2 env me2 s2.heap ∧ AccAt C ρ2 env acc l2 s2.heap) ?_ N
      ⟨0, l, me, mh, ρ, hf, hit, x0, .refl _, cr, I, so, F, hacc⟩
    rintro n s2 ⟨j, l2, me2, mh2, ρ2, hw, hit2, x2, hp2, hc2, I2, so2, F2, a2⟩
    cases n with
    | zero => simp [dCompLoop] at hw
    | succ n =>
      unfold dCompLoop at hw
      have cl : c ≠ env.locals := fun z => cf (z ▸ (by simp [fa]))
      have al : acc ≠ env.locals := fun z => a2.fr (z ▸ (by simp [fa]))
      have cF : c ∉ [env.locals, acc] := by simp [cl, ca]
      cases hn : nextOf k mh2 j with
      | none => rw [hn] at hw; simp at hw
      | some r =>
        rw [hn] at hw
        refine next_ok (d := d) hn ao I2 hit2 (fun mv hr v h3 tk hv hit3 e3 => ?_) fun hr h3 tk e3 => ?_
        · subst hr
          simp only at hw
          have I3 : Inv C ρ2 mh2 h3 := I2.ext hc2 cb e3
          have F3 : FR C ρ2 env me2 h3 := F2.keep (.refl _) (fun a ha o' e => e3 a o' (fun z => cf (z ▸ ha)) e) fun a ha => (F2.out a ha).1
          have x3 : Ext C ρ0 [env.locals, acc] h0 ρ2 h3 := x2.step c0 e3
          have a3 : AccAt C ρ2 env acc l2 h3 := a2.keep (.refl _) a2.out fun o e => e3 _ o (Ne.symm ca) e
          refine hg (s := { s2 with heap := h3, toks := tk }) hit3 ?_
          cases htg : tg me2 mh2 mv with
          | none => rw [htg] at hw; simp at hw
          | some me3 =>
            rw [htg] at hw
            simp only at hw
            refine ht htg (s := { s2 with heap := h3, toks := tk }) ao I3 (so2.heap _ _) F3 hv fun s4 x4 I4 so4 F4 => ?_
            have x4' : Ext C ρ2 [env.locals, acc] h3 ρ2 s4.heap := x4.more fun a ha => .inl (by simp at ha; simp [ha])
            have a4 := a3.ext I3 x4 (by simpa using al)
            cases hcc : cond me3 mh2 with
            | none => rw [hcc] at hw; simp at hw
            | some r =>
              obtain ⟨b, mh5⟩ := r
              rw [hcc] at hw
              refine hc hcc ao I4 so4 F4 fun ρ5 s5 x5 I5 so5 => ?_
              have x35 : Ext C ρ2 [env.locals, acc] h3 ρ5 s5.heap := x4'.trans x5.wide
              have hit5 : ItAt ρ5 c s5.heap k (j + 1) := hit3.keep x35.pre fun o' e => x35.keep c o' e (not_has_ids hc2) (I2.not_x cb) cF
              have hc5 : ¬ ρ5.has c := fun hm => by
                rcases x35.fresh c hm with q | q
                · exact hc2 q
                · obtain ⟨o', e⟩ := hit3.live; rw [e] at q; cases q
              have F5 := F4.ext0 x5
              have a5 := a4.ext I4 x5 (by simp)
              cases b with
              | false =>
                exact ⟨n, Nat.lt_succ_self n, j + 1, l2, me3, mh5, ρ5, hw, hit5, x3.trans x35, hp2.trans x35.pre, hc5, I5, so5, F5, a5⟩
              | true =>
                simp only at hw
                simp only [if_true]
                cases haa : f l2 me3 mh5 with
                | none => rw [haa] at hw; simp at hw
                | some r =>
                  obtain ⟨l6, me6, mh6⟩ := r
                  rw [haa] at hw
                  refine ha haa ao I5 so5 F5 a5 fun ρ6 s6 x6 I6 so6 F6 a6 => ?_
                  have hc6 : ¬ ρ6.has c := fun hm => by
                    rcases x6.fresh c hm with q | q
                    · exact hc5 q
                    · obtain ⟨o', e⟩ := hit5.live; rw [e] at q; cases q
                  exact ⟨n, Nat.lt_succ_self n, j + 1, l6, me6, mh6, ρ6, hw, hit5.keep x6.pre fun o' e => x6.keep c o' e (not_has_ids hc5) (I2.not_x cb) cF, (x3.trans x35).trans x6, (hp2.trans x35.pre).trans x6.pre, hc6, I6, so6, F6, a6⟩
        · subst hr
          simp only at hw
          cases hw
          exact hR _ _ (x2.step c0 e3) (I2.ext hc2 cb e3) (so2.heap _ _) (F2.keep (.refl _) (fun a ha o' e => e3 a o' (fun z => cf (z ▸ ha)) e) fun a ha => (F2.out a ha).1) hc2 hp2
            (a2.keep (.refl _) a2.out fun o e => e3 _ o (Ne.symm ca) e)
  exact compStartT hgen rfl loop (hit.self loop)

/-! ### one element more -/
noncomputable def aEmit (elt : D) : DA := fun l me mh => match elt me mh with
  | some (x, mh1) => if l.length ≤ 100000 then some (l ++ [x], me, mh1) else none
  | none => none
theorem plain_of {h : Heap} {a : Addr} {vs : List Value} {n : Nat} (e : h.get? a = some (listO vs n)) : h.PlainList a vs.toArray := ⟨n, e⟩
theorem mh_lt {mh : MH} {i : Nat} {mo : MO} (h : mh[i]? = some mo) : i < mh.length := (List.getElem?_eq_some_iff.mp h).1

theorem RAct_emit {elt : PySem.Expr} {f : D} {acc : Addr} (h : RE C d env elt f) : RAct C d env acc (do let _ ← call (.builtin "list.append") [.ref acc, ← eval elt env]) (aEmit f) := by
  intro l me mh l' me' mh' hf ρ A s Q E ao I so F hacc hQ
  unfold aEmit at hf
  split at hf
  · rename_i x mh1 hf1
    split at hf
    · rename_i hl
      cases hf
      refine wpAny_bind (h hf1 ao I so F fun v ρ1 s1 x1 I1 so1 v1 => ?_)
      have a1 := hacc.ext I x1 (by simp)
      obtain ⟨ws, n, ho, r⟩ := a1.lst
      refine wpAny_bind (wpAny_list_append_plain (plain_of ho) (fun h' hp hs => wpAny_pure ?_) (by simp [r.length]; exact Nat.le_trans hl (by decide)))
      obtain ⟨n', hp⟩ := hp
      have F1 := F.ext0 x1
      refine hQ ρ1 { s1 with heap := h' } (x1.wide.trans (Ext.one hs (by simp) ⟨_, hp⟩)) (I1.ext a1.out a1.base hs.extBut) (so1.heap _ _) ?_ ?_
      · exact F1.keep (.refl _) (fun a ha o e => hs.extBut a o (fun z => a1.fr (z ▸ ha)) e) fun a ha => (F1.out a ha).1
      · exact ⟨a1.out, a1.base, a1.fr, ws ++ [v], n', by simpa using hp, r.append (.one v1)⟩
    · cases hf
  · cases hf

end Mine

namespace Mine
variable {C : Cx} {d : Nat} {env : Env}

/-! ## the frame of a comprehension -/
theorem nodup_rev {α : Type} {l : List α} (h : l.Nodup) : l.reverse.Nodup := List.pairwise_reverse.mpr (h.imp fun h => h.symm)

noncomputable def clOf (env : Env) (names : List (Str × NameKind)) : List (Str × Addr) := ((names.filter (·.2 == .free)).map fun x => (x.1, (env.cells.lookup x.1).getD 0)).reverse

theorem forIn_clos (env : Env) : ∀ (names : List (Str × NameKind)) (acc : List (Str × Addr)), (∀ n, (n, NameKind.free) ∈ names → ∃ c, env.cells.lookup n = some c) →
    (forIn names acc fun (x : Str × NameKind) cs => if (x.2 == NameKind.free) = true then (do let a ← cellOf env x.1; pure (ForInStep.yield ((x.1, a) :: cs)) : Sem _) else pure (ForInStep.yield cs)) = pure (clOf env names ++ acc)
  | [], acc, _ => rfl
  | (n, k) :: r, acc, h => by
    rw [List.forIn_cons]
    by_cases hk : (k == NameKind.free) = true
    · have hk' : k = .free := by simpa using hk
      obtain ⟨c, hc⟩ := h n (by rw [hk']; exact List.mem_cons_self)
      have e : cellOf env n = pure c := by unfold cellOf; rw [hc]
      simp only [hk, if_true, e]
      rw [pure_bind, pure_bind]
      show (forIn r ((n, c) :: acc) _) = _
      rw [forIn_clos env r _ fun n' hn' => h n' (List.mem_cons_of_mem _ hn')]
      unfold clOf
      rw [List.filter_cons, if_pos hk]
      simp [hc]
    · simp only [hk, if_false, Bool.false_eq_true]
      rw [pure_bind]
      show (forIn r acc _) = _
      rw [forIn_clos env r _ fun n' hn' => h n' (List.mem_cons_of_mem _ hn')]
      unfold clOf
      rw [List.filter_cons, if_neg hk]

theorem clos_ok (env : Env) (scope : Scope) (h : ∀ n, (n, NameKind.free) ∈ scope.names → ∃ c, env.cells.lookup n = some c) : closureFor scope env = pure (clOf env scope.names) := by
  unfold closureFor
  have := forIn_clos env scope.names [] h
  rw [List.append_nil] at this
  show (do let cs ← forIn scope.names ([] : List (Str × Addr)) _; pure cs) = _
  rw [show (forIn scope.names ([] : List (Str × Addr)) fun (x : Str × NameKind) cs => if (x.2 == NameKind.free) = true then (do let a ← cellOf env x.1; pure (ForInStep.yield ((x.1, a) :: cs)) : Sem _) else pure (ForInStep.yield cs)) = pure (clOf env scope.names) from this]
  rfl

theorem mem_clOf {env : Env} {names : List (Str × NameKind)} {n : Str} {c : Addr} (h : (n, c) ∈ clOf env names) (hh : ∀ n, (n, NameKind.free) ∈ names → ∃ c, env.cells.lookup n = some c) : (n, NameKind.free) ∈ names ∧ env.cells.lookup n = some c := by
  unfold clOf at h
  rw [List.mem_reverse] at h
  obtain ⟨⟨n', k⟩, hm, e⟩ := List.mem_map.mp h
  obtain ⟨hm1, hm2⟩ := List.mem_filter.mp hm
  have hk : k = .free := by simpa using hm2
  subst hk
  obtain ⟨c', hc⟩ := hh n' hm1
  simp only [hc, Option.getD_some] at e
  cases e
  exact ⟨hm1, hc⟩

theorem lookup_clOf {env : Env} {names : List (Str × NameKind)} (hn : (names.map (·.1)).Nodup) {n : Str} {c : Addr} (hm : (n, NameKind.free) ∈ names) (hc : env.cells.lookup n = some c) : (clOf env names).lookup n = some c := by
  refine lookup_of_mem_nodup ?_ ?_
  · unfold clOf
    rw [List.map_reverse, List.map_map]
    exact nodup_rev (hn.sublist ((List.filter_sublist).map _))
  · unfold clOf
    rw [List.mem_reverse]
    exact List.mem_map.mpr ⟨(n, .free), List.mem_filter.mpr ⟨hm, rfl⟩, by simp [hc]⟩

theorem lookup_relabel (env : Env) (n : Str) : ∀ names : List (Str × NameKind),
    (names.map fun (x : Str × NameKind) => match x with | (n, k) => if (k == NameKind.free && env.scope.kind == .function && env.kindOf n == some .cell) then (n, NameKind.cell) else (n, k)).lookup n =
      (names.lookup n).map fun k => if (k == NameKind.free && env.scope.kind == .function && env.kindOf n == some .cell) then NameKind.cell else k
  | [] => rfl
  | (x, k) :: r => by
    rw [List.map_cons]
    simp only
    by_cases hx : n = x
    · subst hx
      split <;> simp_all [List.lookup_cons]
    · have hb : (n == x) = false := by simpa using hx
      split
      · rw [List.lookup_cons, List.lookup_cons, hb]; exact lookup_relabel env n r
      · rw [List.lookup_cons, List.lookup_cons, hb]; exact lookup_relabel env n r

theorem kindOf_comp (scope : Scope) (cl : List (Str × Addr)) (Cc : Addr) (hf : env.scope.kind = .function) (n : Str) :
    (compEnvC scope cl Cc env).kindOf n = (scope.names.lookup n).map fun k => if k = .free ∧ env.kindOf n = some .cell then .cell else k := by
  show (relabel scope env).names.lookup n = _
  unfold relabel
  rw [lookup_relabel]
  cases scope.names.lookup n with
  | none => rfl
  | some k =>
    simp only [Option.map_some, hf]
    congr 1
    by_cases h1 : k = .free <;> by_cases h2 : env.kindOf n = some .cell <;> simp [h1, h2]

noncomputable def dropV (own : List Nat) (me : ME) : ME := me.filter fun p => !own.contains p.1
theorem lookup_dropV {own : List Nat} {x : Nat} {mv : MV} : ∀ {me : ME}, (dropV own me).lookup x = some mv → me.lookup x = some mv ∧ x ∉ own
  | [], h => by simp [dropV] at h
  | (y, v) :: r, h => by
    unfold dropV at h
    rw [List.filter_cons] at h
    split at h
    · rename_i hy
      rw [List.lookup_cons] at h ⊢
      by_cases e : x = y
      · subst e
        simp at h ⊢
        exact ⟨h, by simpa using hy⟩
      · have hb : (x == y) = false := by simpa using e
        rw [hb] at h ⊢
        exact lookup_dropV (me := r) h
    · rename_i hy
      have hh := lookup_dropV (me := r) h
      refine ⟨?_, hh.2⟩
      rw [List.lookup_cons]
      have e : x ≠ y := fun z => by subst z; simp at hy; exact hh.2 hy
      rw [show (x == y) = false by simpa using e]
      exact hh.1

/-- what a comprehension's scope must be -/
structure CompOk (C : Cx) (env : Env) (scope : Scope) (own : List Nat) : Prop where
  kind : scope.kind = .function
  nocell : ∀ x ∈ scope.names, x.2 ≠ .cell
  nodup : (scope.names.map (·.1)).Nodup
  free : ∀ n, (n, NameKind.free) ∈ scope.names → env.kindOf n = some .cell ∨ env.kindOf n = some .free
  owns : ∀ x n, C.tbl[x]? = some n → scope.names.lookup n = some .local → x ∈ own

theorem CompOk.cell {scope : Scope} {own : List Nat} (K : CompOk C env scope own) {ρ : Wd} {me : ME} {h : Heap} (F : FR C ρ env me h) : ∀ n, (n, NameKind.free) ∈ scope.names → ∃ c, env.cells.lookup n = some c := fun n hn => by
  rcases K.free n hn with q | q
  · exact F.has n q
  · exact F.hasF n q

theorem mem_of_lookupK : ∀ {l : List (Str × NameKind)} {n : Str} {k : NameKind}, l.lookup n = some k → (n, k) ∈ l := fun h => mem_of_lookup h

theorem FR_comp {scope : Scope} {own : List Nat} (K : CompOk C env scope own) {ρ : Wd} {me : ME} {h h' : Heap} {Cc : Addr} {mh : MH} (F : FR C ρ env me h) (I : Inv C ρ mh h) (hc : h.get? Cc = none)
    (hk : ∀ b o, h.get? b = some o → h'.get? b = some o) (hn : h'.Ns Cc fun _ => none) : FR C ρ (compEnvC scope (clOf env scope.names) Cc env) (dropV own me) h' := by
  have hcl := K.cell F
  have fr := I.fresh hc
  have live : ∀ n c, (n, c) ∈ clOf env scope.names → ∃ v, h.IsCell c v := fun n c hm => F.cells n c (mem_of_lookup (mem_clOf hm hcl).2)
  have out : ∀ a ∈ fa (compEnvC scope (clOf env scope.names) Cc env), ¬ ρ.has a ∧ C.base.get? a = none := fun a ha => by
    unfold fa at ha
    rcases List.mem_cons.mp ha with rfl | ha
    · exact fr
    · obtain ⟨⟨n, c⟩, hm, rfl⟩ := List.mem_map.mp ha
      exact F.out c (by unfold fa; exact List.mem_cons_of_mem _ (List.mem_map.mpr ⟨(n, c), mem_of_lookup (mem_clOf hm hcl).2, rfl⟩))
  refine ⟨K.kind, F.glob, F.bui, ⟨_, hn⟩, fun n c hm => ?_, out, fun a ha => I.not_x (out a ha).2, ?_, fun n c hm => ?_, fun n hkn => ?_, fun n hkn => ?_, fun x mv n hx ht => ?_⟩
  · obtain ⟨v, hv⟩ := live n c hm; exact ⟨v, hv.keeps hk⟩
  · show (clOf env scope.names).Pairwise _
    have hnd : ((clOf env scope.names).map (·.1)).Nodup := by
      unfold clOf
      rw [List.map_reverse, List.map_map]
      exact nodup_rev (K.nodup.sublist ((List.filter_sublist).map _))
    rw [List.Nodup, List.pairwise_map] at hnd
    refine List.Pairwise.imp_of_mem (fun {x y} hx hy hxy e => hxy ?_) hnd
    have h1 := mem_of_lookup (mem_clOf (n := x.1) (c := x.2) hx hcl).2
    have h2 := mem_of_lookup (mem_clOf (n := y.1) (c := y.2) hy hcl).2
    rw [← e] at h2
    exact name_of_addr F.apart h1 h2
  · intro z
    obtain ⟨v, o, ho, _⟩ := live n c hm
    have z' : c = Cc := z
    rw [z', hc] at ho; cases ho
  · rw [kindOf_comp _ _ _ F.kind] at hkn
    obtain ⟨k, hk1, hk2⟩ := Option.map_eq_some_iff.mp hkn
    have hm := mem_of_lookupK hk1
    by_cases q : k = .free ∧ env.kindOf n = some .cell
    · obtain ⟨rfl, q2⟩ := q
      obtain ⟨c, hc'⟩ := hcl n hm
      exact ⟨c, lookup_clOf K.nodup hm hc'⟩
    · rw [if_neg q] at hk2
      exact absurd hk2 (K.nocell _ hm)
  · rw [kindOf_comp _ _ _ F.kind] at hkn
    obtain ⟨k, hk1, hk2⟩ := Option.map_eq_some_iff.mp hkn
    have hm := mem_of_lookupK hk1
    by_cases q : k = .free ∧ env.kindOf n = some .cell
    · rw [if_pos q] at hk2; cases hk2
    · rw [if_neg q] at hk2
      subst hk2
      obtain ⟨c, hc'⟩ := hcl n hm
      exact ⟨c, lookup_clOf K.nodup hm hc'⟩
  · obtain ⟨hx1, hx2⟩ := lookup_dropV hx
    obtain ⟨v, h1, h2⟩ := F.var x mv n hx1 ht
    refine ⟨v, h1, ?_⟩
    have key : (n, NameKind.free) ∈ scope.names → ∃ c, (compEnvC scope (clOf env scope.names) Cc env).cells.lookup n = some c ∧ h'.IsCell c (some v) := fun hm => by
      unfold VarAt at h2
      rcases K.free n hm with q | q
      · rw [q] at h2
        obtain ⟨c, e1, e2⟩ := h2
        exact ⟨c, lookup_clOf K.nodup hm e1, e2.keeps hk⟩
      · rw [q] at h2
        obtain ⟨c, e1, e2⟩ := h2
        exact ⟨c, lookup_clOf K.nodup hm e1, e2.keeps hk⟩
    unfold VarAt
    rw [kindOf_comp _ _ _ F.kind]
    cases hl : scope.names.lookup n with
    | none => trivial
    | some k =>
      have hm := mem_of_lookupK hl
      cases k with
      | «local» => exact absurd (K.owns x n ht hl) hx2
      | cell => exact absurd rfl (K.nocell _ hm)
      | free =>
        by_cases q : env.kindOf n = some .cell
        · simp only [Option.map_some, true_and, if_pos q]; exact key hm
        · simp only [Option.map_some, true_and, if_neg q]; exact key hm
      | _ => trivial

/-! ## the whole comprehension -/
noncomputable def dComp (own : List Nat) (c0 : Option Addr) (N : Nat) (it : D) (tg : Tg) (cond : DB) (act : DA) : D := fun me mh => match it me mh with
  | some (v, mh1) => (match itOf c0 v mh1 with
    | some k => (match dCompLoop tg cond act k N 0 [] (dropV own me) mh1 with
      | some (l, _, mh2) => some (.lst l, mh2)
      | none => none)
    | none => none)
  | none => none

/-- an object that stands is frozen -/
theorem Inv.freeze {ρ : Wd} {mh : MH} {h : Heap} (I : Inv C ρ mh h) {a : Addr} {o : Obj} (hn : ¬ ρ.has a) (hb : C.base.get? a = none) (ho : h.get? a = some o) : Inv C (ρ.froze a o) mh h := by
  have hp : ρ.le (ρ.froze a o) := ρ.le_froze _ _
  refine ⟨I.len, I.nd, fun i mo hi => ?_, fun p hm => ?_, fun p hm => ?_, fun p hm => (I.st p hm).mono hp.fz, I.new, fun p hm => ?_, I.keep, fun p hm => let ⟨ps, h1, h2⟩ := I.tab p hm; ⟨ps, h1, h2.mono hp.fz⟩, I.xb, I.pw⟩
  · obtain ⟨b, o', h1, h2, h3⟩ := I.obj i mo hi
    exact ⟨b, o', h1, h2, h3.mono hp⟩
  · rcases List.mem_cons.mp hm with rfl | hm
    · exact ho
    · exact I.fz p hm
  · rcases List.mem_cons.mp hm with rfl | hm
    · exact fun q => hn (.inl q)
    · exact I.sep p hm
  · rcases List.mem_cons.mp hm with rfl | hm
    · exact I.not_x hb
    · exact I.newf p hm
theorem Ext.freeze {ρ ρ' : Wd} {F : List Addr} {h h' : Heap} (x : Ext C ρ F h ρ' h') {a : Addr} (o : Obj) (ha : h.get? a = none) : Ext C ρ F h (ρ'.froze a o) h' :=
  ⟨x.pre.trans (ρ'.le_froze _ _), x.keep, x.freshI, fun b hb => by
    rcases hb with hb | ⟨o', hb⟩
    · exact x.fresh b (.inl hb)
    · rcases List.mem_cons.mp hb with e | q
      · cases e; exact .inr ha
      · exact x.fresh b (.inr ⟨o', q⟩), x.live⟩

/-- the parts of a ListComp -/
structure RComp (C : Cx) (d : Nat) (env : Env) (elt : PySem.Expr) (gens : List Comprehension) (scope : Scope) (pos : Pos) (f : D) : Prop where
  run : ∀ {use : Option (Value → Sem Unit)} {p : Pos} {me mh mv mh'}, f me mh = some (mv, mh') → ∀ {ρ A s Q E}, Aok d A → Inv C ρ mh s.heap → SOk C s → FR C ρ env me s.heap →
    (use = none → Post C ρ s.heap mh' mv Q) →
    (∀ u, use = some u → ∀ v ρ' s', Ext C ρ [] s.heap ρ' s'.heap → Inv C ρ' mh' s'.heap → SOk C s' → VR ρ' mv v → ∀ Cc m, s'.heap.Ns Cc m → ¬ ρ'.has Cc → C.base.get? Cc = none → Cc ∉ fa env → s.heap.get? Cc = none →
      wpAny C.M A (u v) (fun _ s'' => ∃ m, s''.heap.Ns Cc m ∧ ∀ h', Heap.SameBut Cc s''.heap h' → Q .none { s'' with heap := h' }) E s') →
    wpAny C.M A (comprehension (.ListComp elt gens scope pos) scope env p (newList []) false (firstIter gens env) use) Q E s

theorem RComp_mk (ok : C.Ok) {c0 : Option Addr} (h0 : SubIter C c0) {elt target iter : PySem.Expr} {ifs : List PySem.Expr} {gs : List Comprehension} {scope : Scope} {pos : Pos} {own : List Nat} {it : D} {tg : Tg} {cond : DB} {f : DA} (N : Nat) (K : CompOk C env scope own) (hi : RE C d env iter it)
    (ht : ∀ Cc, RTg C d (compEnvC scope (clOf env scope.names) Cc env) [Cc] target tg) (hg : GoOk C target)
    (hc : ∀ Cc, RTests C d (compEnvC scope (clOf env scope.names) Cc env) ifs cond) (act : Value → Env → Sem Unit) (ha : ∀ Cc acc, RAct C d (compEnvC scope (clOf env scope.names) Cc env) acc (act (.ref acc) (compEnvC scope (clOf env scope.names) Cc env)) f)
    (hs : ∀ x, foldedSetIterable iter env x = pure x)
    (heq : ∀ it acc env, compTurn (.ListComp elt (⟨target, iter, ifs, 0⟩ :: gs) scope pos) 0 it acc env = (do
      standAt iter.pos
      match ← pyNext it with
      | none => pure (.done .next)
      | some v =>
        letOwnedTupleGo target it v
        assign target env v
        let mut ok := true
        for c in ifs do
          if ok then ok ← isTrue c env (eval c env)
        if ok then act acc env
        again (.compLoop (.ListComp elt (⟨target, iter, ifs, 0⟩ :: gs) scope pos) 0 it acc env))) : RComp C d env elt (⟨target, iter, ifs, 0⟩ :: gs) scope pos (dComp own c0 N it tg cond f) := by
  refine ⟨fun {use p me mh mv mh'} hf {ρ A s Q E} ao I so F hQ hU => ?_⟩
  unfold dComp at hf
  split at hf
  · rename_i v mh1 hf1
    split at hf
    · rename_i k hk
      split at hf
      · rename_i lr me2 mh2 hf2
        cases hf
        refine wpAny_comprehension_free rfl hs (clos_ok env scope (K.cell F)) K.kind (fun x hx hl => lookup_of_mem_nodup K.nodup (by rw [← hl]; exact hx)) ?_
        refine hi hf1 ao I so F fun rv ρ1 s1 x1 I1 so1 v1 => iter_ok ok h0 hk I1 v1 fun o hit => ?_
        have F1 := F.ext0 x1
        have c0 : s1.heap.get? s1.heap.objs.size = none := get_size _
        have kp : ∀ b o', s1.heap.get? b = some o' → (s1.heap.push o).get? b = some o' := fun b o' e => Heap.get?_push_of_some _ e
        have cfr := I1.fresh c0
        have cf : s1.heap.objs.size ∉ fa env := fun hm => by obtain ⟨o, e⟩ := F1.liveFa hm; rw [e] at c0; cases c0
        refine wpAny_newList ?_ (by decide)
        -- the list
        have I1' := I1.junk kp
        have gacc : (s1.heap.push o).get? (s1.heap.push o).objs.size = none := get_size _
        have kp1 : ∀ b o', (s1.heap.push o).get? b = some o' → ((s1.heap.push o).push (listO [] 0)).get? b = some o' := fun b o' e => Heap.get?_push_of_some _ e
        have I2 : Inv C ρ1 mh1 ((s1.heap.push o).push (listO [] 0)) := I1'.junk kp1
        have afr := I1'.fresh gacc
        have hlive : ∃ o', (s1.heap.push o).get? s1.heap.objs.size = some o' := hit.live
        have hne : s1.heap.objs.size ≠ (s1.heap.push o).objs.size := by rw [Heap.size_push]; omega
        have g1 : s1.heap.get? (s1.heap.push o).objs.size = none := by
          cases e : s1.heap.get? (s1.heap.push o).objs.size with
          | none => rfl
          | some o' => rw [kp _ _ e] at gacc; cases gacc
        have hal : ((s1.heap.push o).push (listO [] 0)).get? (s1.heap.push o).objs.size = some (listO [] 0) := Heap.get?_push_size _ rfl
        have kp2 : ∀ b o', s1.heap.get? b = some o' → ((s1.heap.push o).push (listO [] 0)).get? b = some o' := fun b o' e => kp1 _ _ (kp b o' e)
        have hc2 : ∀ o', (s1.heap.push o).get? s1.heap.objs.size = some o' → ((s1.heap.push o).push (listO [] 0)).get? s1.heap.objs.size = some o' := fun o' e => kp1 _ _ e
        generalize hacc : (s1.heap.push o).objs.size = acc at *
        generalize hH2 : (s1.heap.push o).push (listO [] 0) = H2 at I2 kp2 hal hc2
        have x2 : Ext C ρ1 [] s1.heap ρ1 H2 := Ext.all kp2
        refine wpAny_newFunctionEnv K.nocell (by simp) (fun h3 hns hsb => ?_) K.kind
        -- the frame
        dsimp only at hns hsb ⊢
        have g2 : H2.get? H2.objs.size = none := get_size _
        have kp3 : ∀ b o', H2.get? b = some o' → h3.get? b = some o' := fun b o' e => hsb.extBut b o' (fun z => by subst z; rw [g2] at e; cases e) (Heap.get?_push_of_some _ e)
        have F2 : FR C ρ1 env me H2 := F1.ext0 x2
        have F3 := FR_comp K F2 I2 g2 kp3 (by simpa using hns)
        have g3 : s1.heap.get? H2.objs.size = none := by
          cases e : s1.heap.get? H2.objs.size with
          | none => rfl
          | some o' => rw [kp2 _ _ e] at g2; cases g2
        have ho2 : ∃ o', H2.get? s1.heap.objs.size = some o' := let ⟨o', e⟩ := hlive; ⟨o', hc2 o' e⟩
        have hcC : s1.heap.objs.size ≠ H2.objs.size := fun z => by obtain ⟨o', e⟩ := ho2; rw [z, g2] at e; cases e
        have haC : acc ≠ H2.objs.size := fun z => by rw [z, g2] at hal; cases hal
        have nfa : ∀ a, s1.heap.get? a = none → a ≠ H2.objs.size → a ∉ fa (compEnvC scope (clOf env scope.names) H2.objs.size env) := fun a ha hne hm => by
          unfold fa at hm
          rcases List.mem_cons.mp hm with q | q
          · exact hne q
          · obtain ⟨⟨n, c⟩, hm', e⟩ := List.mem_map.mp q
            have := mem_of_lookup (mem_clOf hm' (K.cell F)).2
            obtain ⟨o', e'⟩ := F1.liveFa (a := a) (by unfold fa; exact List.mem_cons_of_mem _ (List.mem_map.mpr ⟨(n, c), this, e⟩))
            rw [ha] at e'; cases e'
        have xA : Ext C ρ1 [H2.objs.size, acc] s1.heap ρ1 h3 := x2.wide.trans ((Ext.all kp3).wide)
        have hit3 : ItAt ρ1 s1.heap.objs.size h3 k 0 := hit.keep (.refl _) fun o' e => kp3 _ _ (hc2 _ e)
        have aAt : AccAt C ρ1 (compEnvC scope (clOf env scope.names) H2.objs.size env) acc [] h3 := ⟨afr.1, afr.2, nfa acc g1 haC, [], 0, kp3 _ _ hal, .nil⟩
        refine compRun (env := compEnvC scope (clOf env scope.names) H2.objs.size env) (h0 := s1.heap) (ρ0 := ρ1) (heq _ _ _) rfl (ht _) hg (hc _) (ha _ acc) hf2 (s := { s1 with heap := h3, toks := s1.toks + ([] : List (Str × Value)).length }) ao xA c0 cfr.1 cfr.2 (nfa _ c0 hcC) hne
          (I2.junk kp3) (so1.heap _ _) F3 hit3 aAt fun ρ' s' x' I' so' F' hc' hp' a' => ?_
        have xx : Ext C ρ1 [] s1.heap ρ' s'.heap := x'.more fun a ha => .inr (by
          have : a = H2.objs.size ∨ a = acc := by simpa [compEnvC] using ha
          rcases this with rfl | rfl
          · exact g3
          · exact g1)
        obtain ⟨ws, n, hl, hr⟩ := a'.lst
        have If := I'.freeze a'.out a'.base hl
        have xf := xx.freeze (listO ws n) g1
        have accv : VR (ρ'.froze acc (listO ws n)) (.lst lr) (.ref acc) := .lst' mem_froze (hr.mono (ρ'.le_froze _ _))
        have hC' : ¬ ρ'.has H2.objs.size ∧ C.base.get? H2.objs.size = none := F'.out _ (by simp [fa, compEnvC])
        have hC : ¬ (ρ'.froze acc (listO ws n)).has H2.objs.size := fun hm => by
          rcases hm with q | ⟨o', q⟩
          · exact hC'.1 (.inl q)
          · rcases List.mem_cons.mp q with e | q
            · cases e; exact haC rfl
            · exact hC'.1 (.inr ⟨o', q⟩)
        have hCfa : H2.objs.size ∉ fa env := fun hm => by obtain ⟨o', e⟩ := F2.liveFa hm; rw [g2] at e; cases e
        obtain ⟨m, hm⟩ := F'.ns
        have hm' : s'.heap.Ns H2.objs.size m := hm
        have hs0 : s.heap.get? H2.objs.size = none := by
          cases e : s.heap.get? H2.objs.size with
          | none => rfl
          | some o' => obtain ⟨o2, e2⟩ := x1.live _ _ e; rw [e2] at g3; cases g3
        cases use with
        | none =>
          refine ⟨m, hm', fun h' hsb' => hQ rfl _ (ρ'.froze acc (listO ws n)) _ ((x1.trans xf).step hs0 hsb'.extBut) ?_ (so'.heap _ _) accv⟩
          exact If.ext hC hC'.2 hsb'.extBut
        | some u => exact hU u rfl _ _ s' (x1.trans xf) If so' accv _ m hm' hC hC'.2 hCfa hs0
      · cases hf
    · cases hf
  · cases hf

theorem RComp_one (ok : C.Ok) {c0 : Option Addr} (h0 : SubIter C c0) {elt target iter : PySem.Expr} {ifs : List PySem.Expr} {scope : Scope} {pos : Pos} {own : List Nat} {it : D} {tg : Tg} {cond : DB} {f : D} (N : Nat) (K : CompOk C env scope own) (hi : RE C d env iter it)
    (ht : ∀ Cc, RTg C d (compEnvC scope (clOf env scope.names) Cc env) [Cc] target tg) (hg : GoOk C target)
    (hc : ∀ Cc, RTests C d (compEnvC scope (clOf env scope.names) Cc env) ifs cond) (he : ∀ Cc, RE C d (compEnvC scope (clOf env scope.names) Cc env) elt f)
    (hs : ∀ x, foldedSetIterable iter env x = pure x) : RComp C d env elt [⟨target, iter, ifs, 0⟩] scope pos (dComp own c0 N it tg cond (aEmit f)) :=
  RComp_mk ok h0 N K hi ht hg hc (fun acc env => do let _ ← call (.builtin "list.append") [acc, ← eval elt env]) (fun Cc _ => RAct_emit (he Cc)) hs fun _ _ _ => compTurn_list _ _ _ _ _ _ _ _ _

/-- a second for within -/
noncomputable def aLoop (c0 : Option Addr) (N : Nat) (it : D) (tg : Tg) (cond : DB) (act : DA) : DA := fun l me mh => match it me mh with
  | some (v, mh1) => (match itOf c0 v mh1 with
    | some k => dCompLoop tg cond act k N 0 l me mh1
    | none => none)
  | none => none

theorem RAct_loop (ok : C.Ok) {c0 : Option Addr} (h0 : SubIter C c0) {elt target iter : PySem.Expr} {ifs : List PySem.Expr} {gens : List Comprehension} {scope : Scope} {pos : Pos} {it : D} {tg : Tg} {cond : DB} {f : DA} {dp : Nat} {acc : Addr} (N : Nat) (hi : RE C d env iter it)
    (ht : RTg C d env [env.locals] target tg) (hg : GoOk C target) (hc : RTests C d env ifs cond) (act : Value → Env → Sem Unit) (ha : RAct C d env acc (act (.ref acc) env) f)
    (hs : ∀ x, foldedSetIterable iter env x = pure x) (hgen : gens[dp]? = some ⟨target, iter, ifs, 0⟩)
    (heq : ∀ it acc env, compTurn (.ListComp elt gens scope pos) dp it acc env = (do
      standAt iter.pos
      match ← pyNext it with
      | none => pure (.done .next)
      | some v =>
        letOwnedTupleGo target it v
        assign target env v
        let mut ok := true
        for c in ifs do
          if ok then ok ← isTrue c env (eval c env)
        if ok then act acc env
        again (.compLoop (.ListComp elt gens scope pos) dp it acc env))) :
    RAct C d env acc (do
        let x ← eval iter env
        standAt iter.pos
        let x ← foldedSetIterable iter env x
        let _ ← runOwn (.compStart (.ListComp elt gens scope pos) dp (← holding [x] (pyIter x)) (.ref acc) env) env) (aLoop c0 N it tg cond f) := by
  intro l me mh l' me' mh' hf ρ A s Q E ao I so F hacc hQ
  unfold aLoop at hf
  split at hf
  · rename_i v mh1 hf1
    split at hf
    · rename_i k hk
      refine wpAny_bind (hi hf1 ao I so F fun rv ρ1 s1 x1 I1 so1 v1 => ?_)
      refine wpAny_bind (wpAny_standAt (wpAny_bind (wpAny_of_eq (hs rv) (wpAny_bind (wpAny_holding (iter_ok ok h0 hk I1 v1 fun o hit => ?_))))))
      have F1 := F.ext0 x1
      have c0 : s1.heap.get? s1.heap.objs.size = none := get_size _
      have kp : ∀ b o', s1.heap.get? b = some o' → (s1.heap.push o).get? b = some o' := fun b o' e => Heap.get?_push_of_some _ e
      have cfr := I1.fresh c0
      have cf : s1.heap.objs.size ∉ fa env := fun hm => by obtain ⟨o, e⟩ := F1.liveFa hm; rw [e] at c0; cases c0
      have a1 := hacc.ext I x1 (by simp)
      have ca : s1.heap.objs.size ≠ acc := fun z => by obtain ⟨ws, n, e, _⟩ := a1.lst; rw [← z, c0] at e; cases e
      refine wpAny_bind (wpAny_runOwn ?_)
      refine compRun (h0 := s1.heap) (ρ0 := ρ1) (heq _ _ _) hgen ht hg hc ha hf (s := { s1 with heap := s1.heap.push o }) ao (Ext.all kp).wide c0 cfr.1 cfr.2 cf ca (I1.junk kp) (so1.heap _ _)
        (F1.keep (.refl _) (fun a _ o' e => kp a o' e) fun a ha => (F1.out a ha).1) hit (a1.keep (.refl _) a1.out fun o' e => kp _ _ e) fun ρ' s' x' I' so' F' hc' hp' a' => ?_
      exact wpAny_pure (hQ _ _ (x1.wide.trans x') I' so' F' a')
    · cases hf
  · cases hf

theorem RComp_two (ok : C.Ok) {c0 c1 : Option Addr} (h0 : SubIter C c0) (h1 : SubIter C c1) {elt target iter target1 iter1 : PySem.Expr} {ifs ifs1 : List PySem.Expr} {scope : Scope} {pos : Pos} {own : List Nat} {it it1 : D} {tg tg1 : Tg} {cond cond1 : DB} {f : D} (N N1 : Nat) (K : CompOk C env scope own) (hi : RE C d env iter it)
    (ht : ∀ Cc, RTg C d (compEnvC scope (clOf env scope.names) Cc env) [Cc] target tg) (hg : GoOk C target)
    (hc : ∀ Cc, RTests C d (compEnvC scope (clOf env scope.names) Cc env) ifs cond)
    (hi1 : ∀ Cc, RE C d (compEnvC scope (clOf env scope.names) Cc env) iter1 it1)
    (ht1 : ∀ Cc, RTg C d (compEnvC scope (clOf env scope.names) Cc env) [Cc] target1 tg1) (hg1 : GoOk C target1)
    (hc1 : ∀ Cc, RTests C d (compEnvC scope (clOf env scope.names) Cc env) ifs1 cond1)
    (he : ∀ Cc, RE C d (compEnvC scope (clOf env scope.names) Cc env) elt f)
    (hs : ∀ x, foldedSetIterable iter env x = pure x) (hs1 : ∀ Cc x, foldedSetIterable iter1 (compEnvC scope (clOf env scope.names) Cc env) x = pure x) :
    RComp C d env elt [⟨target, iter, ifs, 0⟩, ⟨target1, iter1, ifs1, 0⟩] scope pos (dComp own c0 N it tg cond (aLoop c1 N1 it1 tg1 cond1 (aEmit f))) := by
  refine RComp_mk ok h0 N K hi ht hg hc (fun acc env => do
        let x ← eval iter1 env
        standAt iter1.pos
        let x ← foldedSetIterable iter1 env x
        let _ ← runOwn (.compStart (.ListComp elt [⟨target, iter, ifs, 0⟩, ⟨target1, iter1, ifs1, 0⟩] scope pos) 1 (← holding [x] (pyIter x)) acc env) env) (fun Cc acc => ?_) hs (fun it acc env => ?_)
  rotate_left
  · unfold compTurn
    simp only [List.getElem?_cons_zero, List.getElem?_cons_succ, bne_self_eq_false, Bool.false_eq_true, if_false, bind_assoc, pure_bind]
    rfl
  exact RAct_loop ok h1 N1 (hi1 Cc) (ht1 Cc) hg1 (hc1 Cc) (fun acc env => do let _ ← call (.builtin "list.append") [acc, ← eval elt env]) (RAct_emit (he Cc)) (hs1 Cc) rfl fun _ _ _ => by rfl

theorem RE_comp {elt : PySem.Expr} {gens : List Comprehension} {scope : Scope} {pos : Pos} {f : D} (h : RComp C d env elt gens scope pos f) (hf : firstAsync gens = false) : RE C d env (.ListComp elt gens scope pos) f := by
  intro me mh mv mh' hd ρ A s Q E ao I so F hQ
  rw [eval_ListComp, hf]
  exact h.run (use := none) hd ao I so F (fun _ => hQ) fun u e => by cases e

/-- x = [..], the store ahead of the end of the comprehension's names -/
theorem RS_assignComp (ok : C.Ok) {x : Nat} {n : Str} {p spos : Pos} {elt : PySem.Expr} {gens : List Comprehension} {scope : Scope} {pos : Pos} {f : D} (hx : C.tbl[x]? = some n) (hk : env.kindOf n = some .local)
    (h : RComp C d env elt gens scope pos f) (hf : firstAsync gens = false) (hsw : swapsWith (.ListComp elt gens scope pos) (some (.Name n p)) spos.line env = pure true) :
    RS C d env (exec (.Assign [.Name n p] (.ListComp elt gens scope pos) spos) env) (dAsg x f) := by
  intro me mh fl me' mh' hd ρ A s Q E ao I so F hQ
  unfold dAsg at hd
  split at hd
  · rename_i v mh1 hd1
    cases hd
    rw [exec_Assign_Name_used _ _ _ _ hsw]
    refine wpAny_bind (wpAny_standAt (wpAny_bind ?_))
    show wpAny _ A (do let _ ← comprehension (.ListComp elt gens scope pos) scope env _ (newList []) (firstAsync gens) (firstIter gens env) (some (assign (.Name n p) env))) _ _ s
    rw [hf]
    have key : wpAny C.M A (comprehension (.ListComp elt gens scope pos) scope env (firstIterPos gens pos) (newList []) false (firstIter gens env) (some (assign (.Name n p) env))) (fun _ s' => Q .next s') E s := by
      refine h.run (use := some (assign (.Name n p) env)) (Q := fun _ s' => Q .next s') hd1 ao I so F (fun e => by cases e) ?_
      intro u hu v' ρ1 s1 x1 I1 so1 v1 Cc m hm hc1 hc2 hc3 hc4
      cases hu
      have F1 := F.ext0 x1
      refine wpAny_assign_Name (storeG ok (G := [env.locals]) hx (.inl ⟨hk, by simp⟩) I1 so1 F1 v1 fun s2 x2 I2 so2 F2 => ?_)
      have hne : Cc ∉ [env.locals] := fun hm => hc3 (by simp at hm; subst hm; simp [fa])
      have hm2 : s2.heap.Ns Cc m := Ns.keep1 hm fun o e => x2.keep Cc o e (not_has_ids hc1) (I1.not_x hc2) hne
      refine ⟨m, hm2, fun h' hsb => hQ _ ρ1 _ ?_ (I2.ext hc1 hc2 hsb.extBut) (so2.heap _ _) ?_ rfl⟩
      · exact (x1.wide.trans (x2.more (fun a ha => .inl (by simp at ha; subst ha; simp [fa])))).step hc4 hsb.extBut
      · exact F2.keep (.refl _) (fun a ha o e => hsb.extBut a o (fun z => hc3 (z ▸ ha)) e) fun a ha => (F2.out a ha).1
    exact wpAny_bind (wpAny_mono key (fun _ _ q => wpAny_pure (wpAny_pure q)) fun _ _ e => e)
  · cases hd

end Mine

namespace Mine
variable {C : Cx} {d : Nat} {env : Env}

/-! ## objects: attributes, methods -/
theorem AttrsR.look {ρ : Wd} {l : List (Str × MV)} {es : List DictEntry} (h : AttrsR ρ l es) (name : Str) : match l.lookup name with
    | some mv => ∃ v, getL name es = some (some v) ∧ VR ρ mv v
    | none => getL name es = some none ∧ es.any (·.refKey) = false := by
  induction h with
  | nil => simp [getL]
  | @cons k mv e l es hk hv _ ih =>
    obtain ⟨t, hk⟩ := hk
    rw [List.lookup_cons]
    by_cases e1 : name = k
    · subst e1
      have : e.key.isStr name = true := by rw [hk]; simp [Value.isStr]
      simp only [beq_self_eq_true]
      exact ⟨e.val, by unfold getL; rw [List.find?_cons, this], hv⟩
    · have h1 : (name == k) = false := by simpa using e1
      have h2 : e.key.isStr name = false := by rw [hk]; simp only [Value.isStr]; simpa using fun z => e1 z.symm
      have h3 : e.refKey = false := by unfold DictEntry.refKey; rw [hk]
      have hg : getL name (e :: es) = getL name es := by unfold getL; rw [List.find?_cons, h2]; simp [h3]
      rw [h1]
      simp only
      split
      · rename_i mv' q
        rw [q] at ih
        rw [hg]; exact ih
      · rename_i q
        rw [q] at ih
        rw [hg]
        exact ⟨ih.1, by simp [h3]; simpa using ih.2⟩
theorem NsO.look {ρ : Wd} {l : List (Str × MV)} {o : Obj} (h : NsO ρ l o) (name : Str) : match l.lookup name with
    | some mv => ∃ v, lookIn name o = some (some v) ∧ VR ρ mv v
    | none => lookIn name o = some none := by
  obtain ⟨es, n, rfl, r⟩ := h
  have := r.look name
  rw [lookIn_dict]
  split
  · rename_i mv e
    rw [e] at this
    exact this
  · rename_i e
    rw [e] at this
    exact this.1
/-- an entry is stored -/
noncomputable def updA : List (Str × MV) → Str → MV → List (Str × MV)
  | [], x, v => [(x, v)]
  | (y, w) :: r, x, v => if y = x then (y, v) :: r else (y, w) :: updA r x v
theorem AttrsR.put {ρ : Wd} {l : List (Str × MV)} {es : List DictEntry} (h : AttrsR ρ l es) {name : Str} {hsh : Int} {t : Tok} {mv : MV} {v : Value} (hv : VR ρ mv v) : AttrsR ρ (updA l name mv) (putL name hsh (.str name t) v es) := by
  induction h with
  | nil => exact .cons ⟨t, rfl⟩ hv .nil
  | @cons k mw e l es hk hw hr ih =>
    obtain ⟨t', hk⟩ := hk
    unfold updA putL
    by_cases e1 : k = name
    · subst e1
      have : e.key.isStr k = true := by rw [hk]; simp [Value.isStr]
      rw [if_pos rfl, if_pos this]
      exact .cons ⟨t', hk⟩ hv hr
    · have h2 : e.key.isStr name = false := by rw [hk]; simp only [Value.isStr]; simpa using e1
      rw [if_neg e1, if_neg (by rw [h2]; decide)]
      exact .cons ⟨t', hk⟩ hw ih
theorem AttrsR.len {ρ : Wd} {l : List (Str × MV)} {es : List DictEntry} (h : AttrsR ρ l es) : es.length = l.length := by
  induction h with
  | nil => rfl
  | cons _ _ _ ih => simp [ih]

/-- an object of the mini heap, its dict -/
theorem inst_at {ρ : Wd} {mh : MH} {h : Heap} (I : Inv C ρ mh h) {i c dd : Nat} {it : Option (List MV)} {l : List (Str × MV)} (hi : mh[i]? = some (.inst c dd it)) (hdd : mh[dd]? = some (.attrs l)) {x : Addr} (hx : ρ.ids[i]? = some x) :
    ∃ ox od, InstAt h x ox c (some od) ∧ NsO ρ l od := by
  obtain ⟨o, ho, r⟩ := I.at hi hx
  cases it with
  | none =>
    obtain ⟨da, hda, rfl⟩ := r
    obtain ⟨od, hod, rd⟩ := I.at hdd hda
    exact ⟨_, od, ⟨ho, rfl, rfl, hod⟩, rd⟩
  | some ms =>
    obtain ⟨da, vs, n, hda, rfl, _⟩ := r
    obtain ⟨od, hod, rd⟩ := I.at hdd hda
    exact ⟨_, od, ⟨ho, rfl, rfl, hod⟩, rd⟩

/-- the class hands out own attributes plainly -/
inductive GaOk (K : Frag) (c : Addr) : String → Prop where
  | obj : GaOk K c "object.__getattribute__"
  | lst : mroIn K c (.type "list") = some true → GaOk K c "list.__getattribute__"
theorem GaOk.canon {K : Frag} {c : Addr} {g : String} (h : GaOk K c g) : (Manifest.canonical g != "object.__getattribute__") = false := by cases h <;> decide +kernel
structure PlainCls (K : Frag) (c : Addr) : Prop where
  ga : ∃ g, findIn K (.ref c) "__getattribute__" = some (some (.builtin g)) ∧ GaOk K c g
  gt : findIn K (.ref c) "__getattr__" = some none

theorem check_mosP {M : Model} {A : Around} {E : Value → Shared → Prop} {s : Shared} {i owner n : String} {self : Value} {rest : List Value} {kw : List (Str × Value)} {Q : Unit → Shared → Prop}
    (hk : builtinKind i = some .slot ∨ builtinKind i = some .method) (hs : splitId i = some (owner, n)) (hi : Looks M s.heap (isInstance self (.type owner)) true) (ha : argsOk i ⟨self :: rest, kw⟩) (q : Q () s) :
    wpAny M A (checkBuiltinCall i ⟨self :: rest, kw⟩) Q E s := by
  rcases hk with hk | hk <;>
  · simp only [checkBuiltinCall, hk, hs]
    refine wpAny_bind (hi.here ?_)
    simp only [Bool.not_true, Bool.false_eq_true, if_false]
    cases hsig : Manifest.signature? i with
    | none => exact wpAny_pure q
    | some sig =>
      simp only [argsOk, hsig] at ha
      have h2 : Bind.checkArgs i sig ⟨self :: rest, kw⟩ = pure () := ha
      show wpAny M A (Bind.checkArgs i sig ⟨self :: rest, kw⟩) Q E s
      rw [h2]; exact wpAny_pure q
theorem call_subP {id n : String} {B : Builtin} {x : Addr} {rest : List Value} {prog : Program} {w : World} {A : Around} {s : Shared} {Q : Value → Shared → Prop} {E : Value → Shared → Prop} (hi : Looks (model prog w) s.heap (isInstance (.ref x) (.type "list")) true)
    (hk : builtinKind id = some .slot ∨ builtinKind id = some .method) (hs : splitId id = some ("list", n)) (hp : plainId id = true) (he : entryFor table id = some B) (ha : argsOk id ⟨.ref x :: rest, []⟩)
    (hB : wpAny (model prog w) A.in1 (B ⟨.ref x :: rest, []⟩) (fun fin s' => ∃ v, fin = .done (.ret v) ∧ Q v s') E s) : wpAny (model prog w) A (call (.builtin id) (.ref x :: rest)) Q E s := by
  refine wpAny_call (codeAny_call_builtin hp he (check_mosP hk hs hi ha (wpAny_mono hB (fun fin s' h' => ?_) fun _ _ h' => h')))
  obtain ⟨v, rfl, hv⟩ := h'; exact hv
theorem get_valueP {K : Frag} {c x : Addr} {ox : Obj} {od : Option Obj} {name : Str} {ex : Bool} {v : Value} {prog : Program} {w : World} {A : Around} {s : Shared} {Q : Value → Shared → Prop} {E : Value → Shared → Prop} (X : K.In s.heap) (I : InstAt s.heap x ox c od) (hp : PlainCls K c)
    (hf : findObj K c od name = some (.value v)) (hh : handedIn v = true) (h : Q v { s with toks := s.toks + 1 }) : wpAny (model prog w) A (getAttr (.ref x) name ex) Q E s := by
  obtain ⟨g, hg, gok⟩ := hp.ga
  cases gok with
  | obj => exact get_value X I hg hf hh h
  | lst hl =>
    obtain ⟨hp', gg, d, t, os⟩ := s
    have L0 := I.type (M := model prog w)
    have L1 := looks_findIn (M := model prog w) X hg
    have Lk := looks_findIn (M := model prog w) X hp.gt
    have LF := looks_find (M := model prog w) X I hf
    unfold getAttr getAttrBy
    refine wpAny_bind (wpAny_mkText (wpAny_holding (wpAny_bind (L0.at (wpAny_bind (L1.at ?_))))))
    show wpAny _ _ (getAttrByItsOwn (.ref x) (.str name t) (.ref c) (.builtin "list.__getattribute__") true ex) _ _ _
    unfold getAttrByItsOwn hookBefore callGetattribute boundAndCalled
    refine wpAny_bind ?_
    show wpAny _ _ (typeLookup (.ref c) "__getattr__") _ _ _
    refine Lk.at ?_
    refine wpAny_bind (wpAny_attempt (wpAny_holding ?_))
    rw [show onTheHeap (.builtin "list.__getattribute__") = false from rfl, Bool.and_false, if_neg Bool.false_ne_true]
    refine wpAny_bind (wpAny_of_eq (PySem.F.slot_list_getattribute.bind _) ?_)
    refine wpAny_mono (Q := fun v' s' => v' = v ∧ s' = ⟨hp', gg, d, t + 1, os⟩) (E := fun _ _ => False) ?_ (fun v' s' hv => ?_) fun _ _ z => z.elim
    · have hi : Looks (model prog w) hp' (isInstance (.ref x) (.type "list")) true := L0.andThen (looks_mroIn X hl)
      have hk : builtinKind "list.__getattribute__" = some .slot ∨ builtinKind "list.__getattribute__" = some .method := .inl (by decide +kernel)
      have hsp : splitId "list.__getattribute__" = some ("list", "__getattribute__") := by decide +kernel
      refine call_subP hi hk hsp PySem.F.slot_list_getattribute.plain am_entry_list_getattribute (PySem.F.args_list_getattribute_2 _ _) ?_
      show wpAny _ _ (Builtin.«object.__getattribute__» ⟨[.ref x, .str name t], []⟩) _ _ _
      unfold Builtin.«object.__getattribute__»
      have hs : slotArgs "__getattribute__" 1 ⟨[.ref x, .str name t], []⟩ = pure (.ref x, [.str name t]) := rfl
      rw [hs]
      refine wpAny_bind (wpAny_pure ?_)
      dsimp only
      refine wpAny_bind (wpAny_pure (wpAny_bind (L0.at ?_)))
      refine wpAny_bind (LF.at ?_)
      exact wpAny_pure ⟨_, rfl, rfl, rfl⟩
    · obtain ⟨rfl, rfl⟩ := hv
      dsimp only
      rw [handedOut_of hh]; exact wpAny_pure h

theorem method_fnP {K : Frag} {c x f : Addr} {ox : Obj} {od : Option Obj} {name : Str} {pl : Sem Bool} {prog : Program} {w : World} {A : Around} {s : Shared} {Q : Value × List Value → Shared → Prop} {E : Value → Shared → Prop} (X : K.In s.heap) (I : InstAt s.heap x ox c od) (hp : PlainCls K c)
    (hf : findIn K (.ref c) name = some (some (.ref f))) (ht : typeIn K (.ref f) = some (.type "function")) (hs : shadowIn od name = some false) (h : Q (.ref f, [.ref x]) s) :
    wpAny (model prog w) A (getMethod (.ref x) name pl) Q E s := by
  obtain ⟨g, hg, gok⟩ := hp.ga
  have hcan := gok.canon
  unfold getMethod specialOf
  refine wpAny_bind (wpAny_bind (I.type.here ((looks_findIn X hg).here ?_)))
  dsimp only
  rw [hcan, if_neg (by decide)]
  refine wpAny_bind (wpAny_bind (I.type.here ((looks_findIn X hp.gt).here ?_)))
  refine wpAny_bind (wpAny_bind (I.type.here ((looks_findIn X hf).here (wpAny_bind ((looks_typeIn X ht).here ?_)))))
  rw [if_neg (by decide +kernel)]
  refine wpAny_bind (wpAny_loadPart I.at_ ?_)
  have hd := I.dict
  cases e : ox.dict with
  | none => exact wpAny_bind (wpAny_rule (wpAny_pure h))
  | some dx =>
    cases od with
    | none => rw [e] at hd; exact hd.elim
    | some o =>
      rw [e] at hd
      obtain ⟨r, a, b⟩ := Option.map_eq_some_iff.mp hs
      refine wpAny_bind (wpAny_bind (wpAny_loadPart hd ?_))
      rw [nsLook_of a]
      refine wpAny_pure ?_
      rw [b]
      exact wpAny_bind (wpAny_rule (wpAny_pure h))

noncomputable def oAttr (c : Addr) (name : Str) : Op1 := fun a mh => match a with
  | .ref i => (match mh[i]? with
    | some (.inst c' dd _) => if c' = c then (match mh[dd]? with
      | some (.attrs l) => (match l.lookup name with | some v => some (v, mh) | none => none)
      | _ => none) else none
    | _ => none)
  | _ => none

theorem handed_of {ρ : Wd} {m : MV} {v : Value} (h : VR ρ m v) : handedIn v = true := by
  cases m with
  | none => cases h.none_; rfl
  | bool b => cases h.bool_; rfl
  | int i => obtain ⟨t, rfl⟩ := h.int_; rfl
  | str x => obtain ⟨t, rfl⟩ := h.str_; rfl
  | ref i => obtain ⟨a, _, rfl⟩ := h.ref_; rfl
  | tup ms => obtain ⟨a, _, _, _, rfl, _⟩ := h.tup_; rfl
  | lst ms => obtain ⟨a, _, _, _, rfl, _⟩ := h.lst_; rfl
  | rng x y => obtain ⟨a, _, _, _, _, rfl⟩ := h.rng_; rfl
  | strm x t => obtain ⟨a, _, rfl, _⟩ := h.strm_; rfl

theorem rAttr (ok : C.Ok) {c : Addr} {name : Str} {expr : Bool} (hp : PlainCls C.K c) (hdd : hasDictIn C.K c = true) (hf : findIn C.K (.ref c) name = some none) :
    RO1 C d (fun v => getAttr v name expr) (oAttr c name) := by
  intro a mh mv mh' h ρ A s Q E va ao I so ha hQ
  unfold oAttr at h
  split at h
  · split at h
    · rename_i i c' dd it hi
      split at h
      · rename_i hc
        subst hc
        split at h
        · rename_i l hl
          split at h
          · rename_i v hv
            cases h
            obtain ⟨x, hx, rfl⟩ := ha.ref_
            obtain ⟨ox, od, IA, ns⟩ := inst_at I hi hl hx
            have q := ns.look name
            rw [hv] at q
            obtain ⟨rv, h1, h2⟩ := q
            exact get_valueP (I.k ok) IA hp (findObj_own hdd hf rfl h1) (handed_of h2) (hQ.same I so _ h2 _)
          · cases h
        · cases h
      · cases h
    · cases h
  · cases h

theorem RE_attr {value : PySem.Expr} {attr : Str} {pos : Pos} {f : D} {o : Op1} (h : RE C d env value f) (ho : RO1 C d (fun v => getAttr v attr true) o)
    (he : eval (.Attribute value attr pos) env = (do
      let o ← eval value env
      standAt pos.atName
      let r ← holding [o] (getAttr o attr true)
      letTemporaryGo value o r
      pure r) := by with_unfolding_all rfl) : RE C d env (.Attribute value attr pos) (dOp1 o f) := by
  intro me mh mv mh' hf ρ A s Q E ao I so F hQ
  obtain ⟨a, mh1, h1, h2⟩ := dOp1_some hf
  exact Attribute_any_ (h h1 ao I so F fun v ρ1 s1 x1 I1 so1 v1 => ho h2 ao I1 so1 v1 fun v ρ2 s2 x2 I2 so2 v2 => hQ _ _ _ (x1.trans x2) I2 so2 v2) he

/-- a method that is a def of the class -/
noncomputable def dMeth (c : Addr) (name : Str) (den : DF) (f : D) (g : DL) : D := fun me mh => match f me mh with
  | some (.ref i, mh1) => (match mh1[i]? with
    | some (.inst c' dd _) => if c' = c then (match mh1[dd]? with
      | some (.attrs l) => (match l.lookup name with
        | some _ => none
        | none => (match g me mh1 with
          | some (vs, mh2) => den (.ref i :: vs) mh2
          | none => none))
      | _ => none) else none
    | _ => none)
  | _ => none

theorem dMeth_some {c : Addr} {name : Str} {den : DF} {f : D} {g : DL} {me : ME} {mh : MH} {r : MV × MH} (h : dMeth c name den f g me mh = some r) :
    ∃ i mh1 dd it l vs mh2, f me mh = some (.ref i, mh1) ∧ mh1[i]? = some (.inst c dd it) ∧ mh1[dd]? = some (.attrs l) ∧ l.lookup name = none ∧ g me mh1 = some (vs, mh2) ∧ den (.ref i :: vs) mh2 = some r := by
  unfold dMeth at h
  split at h
  · rename_i i mh1 h1
    split at h
    · rename_i c' dd it hi
      split at h
      · rename_i hc
        subst hc
        split at h
        · rename_i l hl
          split at h
          · cases h
          · rename_i hno
            split at h
            · rename_i vs mh2 h2
              exact ⟨i, mh1, dd, it, l, vs, mh2, h1, hi, hl, hno, h2, h⟩
            · cases h
        · cases h
      · cases h
    · cases h
  · cases h

theorem getMeth_ok (ok : C.Ok) {name : Str} {c fA : Addr} (hp : PlainCls C.K c) (hf : findIn C.K (.ref c) name = some (some (.ref fA))) (ht : typeIn C.K (.ref fA) = some (.type "function"))
    {ρ : Wd} {mh : MH} {s : Shared} {i dd : Nat} {it : Option (List MV)} {l : List (Str × MV)} {x : Addr} {A : Around} {pl : Sem Bool} {Q : Value × List Value → Shared → Prop} {E : Value → Shared → Prop}
    (I : Inv C ρ mh s.heap) (hi : mh[i]? = some (.inst c dd it)) (hl : mh[dd]? = some (.attrs l)) (hno : l.lookup name = none) (hx : ρ.ids[i]? = some x) (h : Q (.ref fA, [.ref x]) s) : wpAny C.M A (getMethod (.ref x) name pl) Q E s := by
  obtain ⟨ox, od, IA, ns⟩ := inst_at I hi hl hx
  have q := ns.look name
  rw [hno] at q
  simp only at q
  exact method_fnP (I.k ok) IA hp hf ht (by show (lookIn name od).map _ = _; rw [q]; rfl) h

theorem RE_meth (ok : C.Ok) {o : PySem.Expr} {name : Str} {apos pos : Pos} {e : PySem.Expr} {rest : List PySem.Expr} {pl : Sem Bool} {c fA : Addr} {den : DF} {f : D} {g : DL}
    (hp : PlainCls C.K c) (hf : findIn C.K (.ref c) name = some (some (.ref fA))) (ht : typeIn C.K (.ref fA) = some (.type "function")) (hd : IsDef C fA) (hr : RF C d fA den)
    (ho : RE C d env o f) (ha : RArgs C d env (e :: rest) g) (hbase : attributeBase o name env (eval o env) = eval o env)
    (he : eval (.Call (.Attribute o name apos) (e :: rest) [] pos) env = (do
      let ov ← attributeBase o name env (eval o env)
      standAt apos.atName
      let (f, first) ← holding [ov] (getMethod ov name pl)
      callWith pos f first (backTo pos (starEach (e :: rest) env)) []) := by rfl)
    (hs : starEach (e :: rest) env = (false, eval e env) :: starEach rest env := by rfl) : RE C d env (.Call (.Attribute o name apos) (e :: rest) [] pos) (dMeth c name den f g) := by
  intro me mh mv mh' h ρ A s Q E ao I so F hQ
  obtain ⟨i, mh1, dd, it, l, vs, mh2, h1, hi, hl, hno, h2, h3⟩ := dMeth_some h
  rw [he, hbase]
  refine wpAny_bind (ho h1 ao I so F fun rv ρ1 s1 x1 I1 so1 v1 => ?_)
  obtain ⟨x, hx, rfl⟩ := v1.ref_
  refine wpAny_bind (wpAny_standAt (wpAny_bind (wpAny_holding (getMeth_ok ok hp hf ht I1 hi hl hno hx ?_))))
  obtain ⟨ob, fd, hk, hdat⟩ := hd
  have hg := ha pos h2 (A := A) (E := E) (Q := fun ws s2 => (s2.heap.get? fA = some ob ∧ ob.data = .func fd) ∧ wpAny C.M A (call (.ref fA) ([.ref x] ++ ws)) Q E s2) ao I1 so1 (F.ext0 x1)
    fun ws ρ2 s2 x2 I2 so2 v2 => ⟨⟨(I2.k ok) _ _ hk, hdat⟩, wpAny_call (hr h3 ao I2 so2 (.cons (.ref' (pre_get x2.pre hx)) v2) fun v ρ3 s3 x3 I3 so3 v3 => hQ v ρ3 s3 (x1.trans (x2.trans x3)) I3 so3 v3)⟩
  dsimp only
  rw [hs] at hg ⊢
  exact Calls.callWith_function (o := ob) (fd := fd) (Calls.evalArgs_plain hg)

theorem RE_meth0 (ok : C.Ok) {o : PySem.Expr} {name : Str} {apos pos : Pos} {pl : Sem Bool} {c fA : Addr} {den : DF} {f : D}
    (hp : PlainCls C.K c) (hf : findIn C.K (.ref c) name = some (some (.ref fA))) (ht : typeIn C.K (.ref fA) = some (.type "function")) (hd : IsDef C fA) (hr : RF C d fA den)
    (ho : RE C d env o f) (hbase : attributeBase o name env (eval o env) = eval o env)
    (he : eval (.Call (.Attribute o name apos) [] [] pos) env = (do
      let ov ← attributeBase o name env (eval o env)
      standAt apos.atName
      let (f, first) ← holding [ov] (getMethod ov name pl)
      callWith pos f first (backTo pos (starEach [] env)) []) := by rfl) : RE C d env (.Call (.Attribute o name apos) [] [] pos) (dMeth c name den f dL0) := by
  intro me mh mv mh' h ρ A s Q E ao I so F hQ
  obtain ⟨i, mh1, dd, it, l, vs, mh2, h1, hi, hl, hno, h2, h3⟩ := dMeth_some h
  cases h2
  rw [he, hbase]
  refine wpAny_bind (ho h1 ao I so F fun rv ρ1 s1 x1 I1 so1 v1 => ?_)
  obtain ⟨x, hx, rfl⟩ := v1.ref_
  refine wpAny_bind (wpAny_standAt (wpAny_bind (wpAny_holding (getMeth_ok ok hp hf ht I1 hi hl hno hx ?_))))
  obtain ⟨ob, fd, hk, hdat⟩ := hd
  dsimp only
  refine Calls.callWith_function (o := ob) (fd := fd) (PyProof.Rows.evalArgs_none ⟨⟨(I1.k ok) _ _ hk, hdat⟩, ?_⟩)
  exact wpAny_call (hr h3 ao I1 so1 (.cons (.ref' hx) .nil) fun v ρ3 s3 x3 I3 so3 v3 => hQ v ρ3 s3 (x1.trans x3) I3 so3 v3)

end Mine

namespace Mine
variable {C : Cx} {d : Nat} {env : Env}

/-! ## in -/
noncomputable def oIn : Op2 := fun a b mh => match b with
  | .lst _ => (match toD b, toD a with
    | some (.list xs), some y => if SeqAt.shaped (.list xs) && SeqAt.shaped y then some (.bool (xs.any fun z => PyData.eqv z y), mh) else none
    | _, _ => none)
  | .str x => (match a with | .str y => some (.bool !(Builtin.Str.occurrences x y 0 x.length 1).isEmpty, mh) | _ => none)
  | _ => none
noncomputable def oNotIn : Op2 := fun a b mh => match oIn a b mh with
  | some (.bool c, mh1) => some (.bool !c, mh1)
  | _ => none
theorem shaped_list {xs : List PyData} (h : SeqAt.shaped (.list xs) = true) : PyData.canLayAll0 xs = true ∧ PyData.depthAll xs ≤ 64 := by
  have h1 : PyData.canLayAll0 xs = true := SeqAt.canLay_of_shaped h
  have h2 := SeqAt.depth_of_shaped h
  refine ⟨h1, ?_⟩
  have : PyData.depth (.list xs) = PyData.depthAll xs + 1 := rfl
  omega
theorem inRoom {A : Around} (ao : Aok d A) {m n : Nat} (h : m ≤ 64) : A.units + 1 + min m n < cLine := by
  have := ao.units
  have h2 : min m n ≤ m := Nat.min_le_left _ _
  show A.units + 1 + min m n < 9900
  omega
theorem rIn : RO2 C d (compareOp .In) oIn := by
  intro a b mh mv mh' h ρ A s Q E va vb ao I so ha hb hQ
  unfold oIn at h
  split at h
  · split at h
    · rename_i xs y hx hy
      split at h
      · rename_i hs
        cases h
        obtain ⟨as, ra⟩ := toD_reads I _ _ _ hb hx
        obtain ⟨bs, rb⟩ := toD_reads I _ _ _ ha hy
        have q := Bool.and_eq_true_iff.mp hs
        exact PySem.SeqAt.in_list_reads ra rb (shaped_list q.1).1 (SeqAt.canLay_of_shaped q.2) (inRoom ao (shaped_list q.1).2) (hQ.here I so _ .bool')
      · cases h
    · cases h
  · split at h
    · cases h
      obtain ⟨t, rfl⟩ := ha
      obtain ⟨u, rfl⟩ := hb
      exact PyProof.Rows.in_str (hQ.here I so _ .bool')
    · cases h
  · cases h
theorem rNotIn : RO2 C d (compareOp .NotIn) oNotIn := by
  intro a b mh mv mh' h ρ A s Q E va vb ao I so ha hb hQ
  unfold oNotIn at h
  split at h
  · rename_i c mh1 h1
    cases h
    unfold oIn at h1
    split at h1
    · split at h1
      · rename_i xs y hx hy
        split at h1
        · rename_i hs
          cases h1
          obtain ⟨as, ra⟩ := toD_reads I _ _ _ hb hx
          obtain ⟨bs, rb⟩ := toD_reads I _ _ _ ha hy
          have q := Bool.and_eq_true_iff.mp hs
          exact PySem.SeqAt.notIn_list_reads ra rb (shaped_list q.1).1 (SeqAt.canLay_of_shaped q.2) (inRoom ao (shaped_list q.1).2) (hQ.here I so _ .bool')
        · cases h1
      · cases h1
    · split at h1
      · cases h1
        obtain ⟨t, rfl⟩ := ha
        obtain ⟨u, rfl⟩ := hb
        exact PyProof.Rows.notIn_str (hQ.here I so _ .bool')
      · cases h1
    · cases h1
  · cases h

/-! ## built-in functions and types by name -/
/-- a callable of no own -/
noncomputable def RV (C : Cx) (d : Nat) (fv : Value) (den : DF) : Prop :=
  ∀ {mvs mh mv mh'}, den mvs mh = some (mv, mh') → ∀ {ρ A s vs Q E}, Aok d A → Inv C ρ mh s.heap → SOk C s → VRs ρ mvs vs →
    Post C ρ s.heap mh' mv Q → wpAny C.M A (call fv vs) Q E s

theorem RE_bcall (ok : C.Ok) {g : Str} {p pos : Pos} {e : PySem.Expr} {rest : List PySem.Expr} {id : String} {den : DF} {a : DL} (hg : C.mg g = none) (hb : C.mb g = some (.builtin id)) (hx : env.kindOf g = some .globalImplicit) (hd : (g == ("__debug__" : Str)) = false)
    (hr : RV C d (.builtin id) den) (ha : RArgs C d env (e :: rest) a) (he : starEach (e :: rest) env = (false, eval e env) :: starEach rest env := by rfl) (hplain : (backTo pos (starEach rest env)).any (·.1) = false := by rfl) :
    RE C d env (.Call (.Name g p) (e :: rest) [] pos) (dCall den a) := by
  intro me mh mv mh' h ρ A s Q E ao I so F hQ
  unfold dCall at h
  split at h
  · rename_i vs mh1 h1
    refine wpAny_Call_NameR (eval_bui ok hg hb hx hd I F ?_)
    exact PyProof.Rows.callWith_builtin1 (ha pos h1 ao I so F fun ws ρ1 s1 x1 I1 so1 v1 => hr h ao I1 so1 v1 fun v ρ2 s2 x2 I2 so2 v2 => hQ v ρ2 s2 (x1.trans x2) I2 so2 v2) he hplain
  · cases h
theorem RE_tcall (ok : C.Ok) {g : Str} {p pos : Pos} {e : PySem.Expr} {rest : List PySem.Expr} {T : String} {den : DF} {a : DL} (hg : C.mg g = none) (hb : C.mb g = some (.type T)) (hx : env.kindOf g = some .globalImplicit) (hd : (g == ("__debug__" : Str)) = false)
    (hr : RV C d (.type T) den) (ha : RArgs C d env (e :: rest) a) (he : starEach (e :: rest) env = (false, eval e env) :: starEach rest env := by rfl) (hplain : (backTo pos (starEach rest env)).any (·.1) = false := by rfl) :
    RE C d env (.Call (.Name g p) (e :: rest) [] pos) (dCall den a) := by
  intro me mh mv mh' h ρ A s Q E ao I so F hQ
  unfold dCall at h
  split at h
  · rename_i vs mh1 h1
    refine wpAny_Call_NameR (eval_bui ok hg hb hx hd I F ?_)
    have hg' := ha pos h1 (A := A) (E := E) (Q := fun ws s2 => wpAny C.M A (call (.type T) ([] ++ ws)) Q E s2) ao I so F fun ws ρ1 s1 x1 I1 so1 v1 => hr h ao I1 so1 v1 fun v ρ2 s2 x2 I2 so2 v2 => hQ v ρ2 s2 (x1.trans x2) I2 so2 v2
    rw [he] at hg' ⊢
    exact PySem.callWith_type (by show (false || (backTo pos (starEach rest env)).any (·.1)) = false; rw [hplain]; rfl) (Calls.evalArgs_plain hg')
  · cases h

noncomputable def fRange : DF := fun mvs mh => match mvs with
  | [.int n] => some (.rng 0 n, mh)
  | [.int a, .int b] => some (.rng a b, mh)
  | _ => none
theorem vRange : RV C d (.type "range") fRange := by
  intro mvs mh mv mh' h ρ A s vs Q E ao I so hv hQ
  unfold fRange at h
  split at h
  · rename_i n
    cases h
    cases hv with
    | cons h1 h2 =>
      cases h2
      obtain ⟨t, rfl⟩ := h1.int_
      exact call_range_1 (hQ.newF I so (o := rngO 0 n s.toks t (s.toks + 1)) rfl (.rng' mem_froze) _)
  · rename_i a b
    cases h
    cases hv with
    | cons h1 h2 =>
      cases h2 with
      | cons h2 h3 =>
        cases h3
        obtain ⟨t, rfl⟩ := h1.int_
        obtain ⟨u, rfl⟩ := h2.int_
        exact call_range_2 (hQ.newF I so (o := rngO a b t u s.toks) rfl (.rng' mem_froze) _)
  · cases h

noncomputable def fLen : DF := fun mvs mh => match mvs with
  | [.ref i] => (match mh[i]? with
    | some (.list vs) => if vs.length < 1000000 then some (.int vs.length, mh) else none
    | _ => none)
  | [.lst vs] => if vs.length < 1000000 then some (.int vs.length, mh) else none
  | [.str x] => if x.length ≤ sizeLine then some (.int x.length, mh) else none
  | _ => none
theorem vLen : RV C d (.builtin "len") fLen := by
  intro mvs mh mv mh' h ρ A s vs Q E ao I so hv hQ
  unfold fLen at h
  split at h
  · cases hv with
    | cons h1 h2 =>
      cases h2
      obtain ⟨a, ea, rfl⟩ := h1.ref_
      split at h
      · rename_i i ms hi
        split at h
        · rename_i hl
          cases h
          obtain ⟨o, ho, ws, n, rfl, r⟩ := I.at hi ea
          refine PySem.Calls.call_len_list (isList_of ho) (by simp [r.length]; omega) ?_
          simp only [List.size_toArray, r.length]
          exact hQ.same I so _ .int' _
        · cases h
      · cases h
  · split at h
    · rename_i vs hl
      cases h
      cases hv with
      | cons h1 h2 =>
        cases h2
        obtain ⟨a, ws, n, ea, rfl, r⟩ := h1.lst_
        refine PySem.Calls.call_len_list (isList_of (I.fz _ ea)) (by simp [r.length]; omega) ?_
        simp only [List.size_toArray, r.length]
        exact hQ.same I so _ .int' _
    · cases h
  · split at h
    · rename_i x hl
      cases h
      cases hv with
      | cons h1 h2 =>
        cases h2
        obtain ⟨t, rfl⟩ := h1.str_
        refine PySem.P.len_str ?_ (hQ.same I so _ .int' _)
        have : sizeLine = 16777216 := rfl
        omega
    · cases h
  · cases h

/-! ## methods of str and list -/
/-- what getMethod hands out for the receivers that sel takes -/
noncomputable def RGet (C : Cx) (name : Str) (id : String) (sel : MV → MH → Bool) : Prop :=
  ∀ {a mh}, sel a mh = true → ∀ {ρ s rv A Q E pl}, Inv C ρ mh s.heap → VR ρ a rv → Q (.builtin id, [rv]) s → wpAny C.M A (getMethod rv name pl) Q E s
noncomputable def dBMeth (sel : MV → MH → Bool) (den : DF) (f : D) (g : DL) : D := fun me mh => match f me mh with
  | some (a, mh1) => if sel a mh1 then (match g me mh1 with
    | some (vs, mh2) => den (a :: vs) mh2
    | none => none) else none
  | none => none
theorem RE_bmeth {o : PySem.Expr} {name : Str} {apos pos : Pos} {e : PySem.Expr} {rest : List PySem.Expr} {pl : Sem Bool} {id : String} {sel : MV → MH → Bool} {den : DF} {f : D} {g : DL}
    (hm : RGet C name id sel) (hr : RV C d (.builtin id) den) (ho : RE C d env o f) (ha : RArgs C d env (e :: rest) g) (hbase : attributeBase o name env (eval o env) = eval o env)
    (he : eval (.Call (.Attribute o name apos) (e :: rest) [] pos) env = (do
      let ov ← attributeBase o name env (eval o env)
      standAt apos.atName
      let (f, first) ← holding [ov] (getMethod ov name pl)
      callWith pos f first (backTo pos (starEach (e :: rest) env)) []) := by rfl)
    (hs : starEach (e :: rest) env = (false, eval e env) :: starEach rest env := by rfl) (hplain : (backTo pos (starEach rest env)).any (·.1) = false := by rfl) :
    RE C d env (.Call (.Attribute o name apos) (e :: rest) [] pos) (dBMeth sel den f g) := by
  intro me mh mv mh' h ρ A s Q E ao I so F hQ
  unfold dBMeth at h
  split at h
  · rename_i a mh1 h1
    split at h
    · rename_i hsel
      split at h
      · rename_i vs mh2 h2
        rw [he, hbase]
        refine wpAny_bind (ho h1 ao I so F fun rv ρ1 s1 x1 I1 so1 v1 => ?_)
        refine wpAny_bind (wpAny_standAt (wpAny_bind (wpAny_holding (hm hsel I1 v1 ?_))))
        dsimp only
        have hg := ha pos h2 (A := A) (E := E) (Q := fun ws s2 => wpAny C.M A (call (.builtin id) ([rv] ++ ws)) Q E s2) ao I1 so1 (F.ext0 x1)
          fun ws ρ2 s2 x2 I2 so2 v2 => hr h ao I2 so2 (.cons (v1.mono x2.pre) v2) fun v ρ3 s3 x3 I3 so3 v3 => hQ v ρ3 s3 (x1.trans (x2.trans x3)) I3 so3 v3
        rw [hs] at hg ⊢
        exact Calls.callWith_builtin (by show (false || (backTo pos (starEach rest env)).any (·.1)) = false; rw [hplain]; rfl) (Calls.evalArgs_plain hg)
      · cases h
    · cases h
  · cases h

noncomputable def selStr : MV → MH → Bool := fun a _ => match a with | .str _ => true | _ => false
noncomputable def selList : MV → MH → Bool := fun a mh => match a with | .ref i => (match mh[i]? with | some (.list _) => true | _ => false) | .lst _ => true | _ => false
theorem gList {name : Str} {id : String} (slot : Slot "list" name id) (hty : typeOf (.builtin id) = pure (.type "method_descriptor")) : RGet C name id selList := by
  intro a mh hs ρ s rv A Q E pl I hv h
  have key : ∀ {x : Addr} {ws : List Value} {n : Nat}, s.heap.get? x = some (listO ws n) → rv = .ref x → wpAny C.M A (getMethod rv name pl) Q E s := fun ho e => by
    subst e
    exact getMethod_builtin ⟨_, ho, rfl⟩ PySem.F.plainAttrs_list slot hty (fun a e => by cases e; exact ⟨_, ho, rfl⟩) h
  unfold selList at hs
  split at hs
  · split at hs
    · rename_i i vs hi
      obtain ⟨x, hx, rfl⟩ := hv.ref_
      obtain ⟨o, ho, ws, n, rfl, r⟩ := I.at hi hx
      exact key ho rfl
    · cases hs
  · obtain ⟨x, ws, n, hx, rfl, r⟩ := hv.lst_
    exact key (I.fz _ hx) rfl
  · cases hs
theorem gStr {name : Str} {id : String} (slot : Slot "str" name id) (hty : typeOf (.builtin id) = pure (.type "method_descriptor")) : RGet C name id selStr := by
  intro a mh hs ρ s rv A Q E pl I hv h
  unfold selStr at hs
  split at hs
  · obtain ⟨t, rfl⟩ := hv.str_
    exact getMethod_builtin (typeIs_str _ _ _) PySem.F.plainAttrs_str slot hty (fun a e => by cases e) h
  · cases hs

noncomputable def fAppend : DF := fun mvs mh => match mvs with
  | [.ref i, x] => (match mh[i]? with
    | some (.list vs) => if vs.length ≤ 100000 then some (.none, mh.set i (.list (vs ++ [x]))) else none
    | _ => none)
  | _ => none
theorem vAppend : RV C d (.builtin "list.append") fAppend := by
  intro mvs mh mv mh' h ρ A s vs Q E ao I so hv hQ
  unfold fAppend at h
  split at h
  · rename_i i x
    split at h
    · rename_i ms hi
      split at h
      · rename_i hl
        cases h
        cases hv with
        | cons h1 h2 =>
          cases h2 with
          | cons h2 h3 =>
            cases h3
            obtain ⟨a, ea, rfl⟩ := h1.ref_
            obtain ⟨o, ho, ws, n, rfl, r⟩ := I.at hi ea
            refine wpAny_list_append_plain (plain_of ho) (fun h' hp hs => ?_) (by simp [r.length]; exact Nat.le_trans hl (by decide))
            obtain ⟨n', hp⟩ := hp
            have hm := List.mem_of_getElem? ea
            exact hQ _ ρ { s with heap := h' } (Ext.set hm hs ⟨_, hp⟩) (I.set (mh_lt hi) ea hs.extBut hp ⟨ws ++ [_], n', by simp, r.append (.one h2)⟩) (so.heap _ _) .none'
      · cases h
    · cases h
  · cases h

noncomputable def fCount : DF := fun mvs mh => match mvs with
  | [.str x, .str y] => some (.int (Txt.count x y), mh)
  | _ => none
theorem vCount : RV C d (.builtin "str.count") fCount := by
  intro mvs mh mv mh' h ρ A s vs Q E ao I so hv hQ
  unfold fCount at h
  split at h
  · cases h
    cases hv with
    | cons h1 h2 =>
      cases h2 with
      | cons h2 h3 =>
        cases h3
        obtain ⟨t, rfl⟩ := h1.str_
        obtain ⟨u, rfl⟩ := h2.str_
        exact SC.count (hQ.same I so _ .int' _)
  · cases h

/-- the texts of a list -/
noncomputable def strsOf : List MV → Option (List Str)
  | [] => some []
  | .str x :: r => (strsOf r).map (x :: ·)
  | _ :: _ => none
theorem strsOf_vals {ρ : Wd} : ∀ {ms : List MV} {vs : List Value} {xs : List Str}, VRs ρ ms vs → strsOf ms = some xs → ∃ l : List (Str × Tok), vs = strValues l ∧ l.map (·.1) = xs
  | [], _, _, hv, h => by cases hv; simp [strsOf] at h; subst h; exact ⟨[], rfl, rfl⟩
  | m :: ms, _, xs, hv, h => by
    cases hv with
    | cons h1 h2 =>
      cases m with
      | str x =>
        obtain ⟨t, rfl⟩ := h1.str_
        simp only [strsOf] at h
        obtain ⟨ys, hy, rfl⟩ := Option.map_eq_some_iff.mp h
        obtain ⟨l, e1, e2⟩ := strsOf_vals h2 hy
        exact ⟨(x, t) :: l, by rw [e1]; rfl, by simp [e2]⟩
      | _ => simp [strsOf] at h
noncomputable def fJoin : DF := fun mvs mh => match mvs with
  | [.str x, .lst ms] => (match strsOf ms with
      | some xs => if JoinOk x xs then some (.str (Txt.join x xs), mh) else none
      | none => none)
  | _ => none
theorem vJoin : RV C d (.builtin "str.join") fJoin := by
  intro mvs mh mv mh' h ρ A s vs Q E ao I so hv hQ
  unfold fJoin at h
  split at h
  · split at h
    · rename_i x ms xs hx
      split at h
      · rename_i hj
        cases h
        cases hv with
        | cons h1 h2 =>
          cases h2 with
          | cons h2 h3 =>
            cases h3
            obtain ⟨t, rfl⟩ := h1.str_
            obtain ⟨a, ws, n, ea, rfl, r⟩ := h2.lst_
            obtain ⟨l, rfl, hl⟩ := strsOf_vals r hx
            exact SC.join (isList_of (I.fz _ ea)) hl hj fun t' k => hQ.same I so _ .str' _
      · cases h
    · cases h
  · cases h

end Mine

namespace Mine
variable {C : Cx} {d : Nat} {env : Env}

/-! ## list.remove, list.index: lists of ints and texts -/
theorem mapSeq_listO (f : Array Value → Array Value) (ws : List Value) (n : Nat) : ∃ n', Obj.mapSeq f (listO ws n) = listO (f ws.toArray).toList n' := by
  simp only [Obj.mapSeq, Array.toArray_toList]
  exact ⟨_, rfl⟩

/-! ## xs[i] += v -/
noncomputable def setI (a b v : MV) (mh : MH) : Option MH := match a, b with
  | .ref i, .int k => (match mh[i]? with
    | some (.list vs) => if 0 ≤ k ∧ k < vs.length ∧ k < 1000000000 then some (mh.set i (.list (vs.set k.toNat v))) else none
    | _ => none)
  | _, _ => none
theorem setI_ok {a b v : MV} {mh mh' : MH} (h : setI a b v mh = some mh') {ρ : Wd} {A : Around} {s : Shared} {Q : Unit → Shared → Prop} {E : Value → Shared → Prop} {va vb vv : Value}
    (I : Inv C ρ mh s.heap) (so : SOk C s) (ha : VR ρ a va) (hb : VR ρ b vb) (hv : VR ρ v vv) (hQ : ∀ s', Ext C ρ [] s.heap ρ s'.heap → Inv C ρ mh' s'.heap → SOk C s' → Q () s') :
    wpAny C.M A (setItem va vb vv) Q E s := by
  unfold setI at h
  split at h
  · split at h
    · rename_i i kk hab vs hi
      split at h
      · rename_i hk
        cases h
        obtain ⟨x, ex, rfl⟩ := ha.ref_
        obtain ⟨t, rfl⟩ := hb.int_
        obtain ⟨o, ho, ws, n, rfl, r⟩ := I.at hi ex
        have hlen := r.length
        refine ki_setAt (n := n) (items := ws.toArray) ho hk.1 (by omega) (by simp [hlen]; omega) ?_
        have hm := List.mem_of_getElem? ex
        have hg : (s.heap.update x (Obj.mapSeq (·.setIfInBounds kk.toNat vv))).get? x = some (Obj.mapSeq (·.setIfInBounds kk.toNat vv) (listO ws n)) := Heap.get?_update_self _ ho rfl
        obtain ⟨n', he⟩ := mapSeq_listO (·.setIfInBounds kk.toNat vv) ws n
        rw [he] at hg
        have hg' : (s.heap.update x (Obj.mapSeq (·.setIfInBounds kk.toNat vv))).get? x = some (listO (ws.set kk.toNat vv) n') := by
          rw [hg]; simp
        exact hQ _ (Ext.set hm (Heap.SameBut.update ..) ⟨_, hg'⟩) (I.set (mh_lt hi) ex (Heap.SameBut.update ..).extBut hg' ⟨_, n', rfl, r.set hv⟩) (so.heap _ _)
      · cases h
    · cases h
  · cases h

noncomputable def dAugI (fo fi : D) (o : Op2) (fv : D) : DS := fun me mh => match fo me mh with
  | some (a, mh1) => (match fi me mh1 with
    | some (b, mh2) => (match oItem a b mh2 with
      | some (old, mh3) => (match fv me mh3 with
        | some (v, mh4) => (match o old v mh4 with
          | some (nw, mh5) => (match setI a b nw mh5 with
            | some mh6 => some (.next, me, mh6)
            | none => none)
          | none => none)
        | none => none)
      | none => none)
    | none => none)
  | none => none

theorem RS_augItem {o i value : PySem.Expr} {tpos pos : Pos} {op : Operator} {fo fi fv : D} {oo : Op2} (h1 : RE C d env o fo) (h2 : RE C d env i fi) (h3 : RE C d env value fv) (ho : RO2 C d (inplaceOp op) oo)
    (hi : ∀ ov iv new, augStore i ov iv new = (do holding [new, ov, iv] (setItem ov iv new); release [new, ov, iv] []; pure .next) := by intros; rfl) :
    RS C d env (exec (.AugAssign (.Subscript o i tpos) op value pos) env) (dAugI fo fi oo fv) := by
  intro me mh fl me' mh' hf ρ A s Q E ao I so F hQ
  unfold dAugI at hf
  split at hf
  · rename_i a mh1 e1
    split at hf
    · rename_i b mh2 e2
      split at hf
      · rename_i old mh3 e3
        split at hf
        · rename_i v mh4 e4
          split at hf
          · rename_i nw mh5 e5
            split at hf
            · rename_i mh6 e6
              cases hf
              refine wpAny_AugAssign_SubscriptAny (h1 e1 ao I so F fun va ρ1 s1 x1 I1 so1 v1 => h2 e2 ao I1 so1 (F.ext0 x1) fun vb ρ2 s2 x2 I2 so2 v2 => ?_) hi
              have x12 := x1.trans x2
              refine (item_ok (A := A) e3 I2 so2 (v1.mono x2.pre) v2 fun vo ρ3 s3 x3 I3 so3 v3 => ?_).1
              have x13 := x12.trans x3
              refine h3 e4 ao I3 so3 (F.ext0 x13) fun vv ρ4 s4 x4 I4 so4 v4 => ?_
              refine ho e5 ao I4 so4 (v3.mono x4.pre) v4 fun vn ρ5 s5 x5 I5 so5 v5 => ?_
              have x25 := x3.trans (x4.trans x5)
              refine setI_ok e6 I5 so5 ((v1.mono x2.pre).mono x25.pre) (v2.mono x25.pre) v5 fun s6 x6 I6 so6 => ?_
              have xx := x12.trans (x25.trans x6)
              exact hQ _ _ _ xx.wide I6 so6 (F.ext0 xx) rfl
            · cases hf
          · cases hf
        · cases hf
      · cases hf
    · cases hf
  · cases hf

end Mine

namespace Mine
variable {C : Cx} {d : Nat} {env : Env}

/-! ## an own class upon list -/
structure SubList (K : Frag) (c : Addr) : Prop where
  plain : PlainCls K c
  lst : mroIn K c (.type "list") = some true
  nmod : mroIn K c (.type "module") = some false
  ty : typeIn K (.ref c) = some (.type "type")
  append : findIn K (.ref c) "append" = some (some (.builtin "list.append"))
  iter : findIn K (.ref c) "__iter__" = some (some (.builtin "list.__iter__"))

theorem check_mos {M : Model} {A : Around} {E : Value → Shared → Prop} {s : Shared} {i owner n : String} {self : Value} {rest : List Value} {kw : List (Str × Value)} {Q : Unit → Shared → Prop}
    (hk : builtinKind i = some .slot ∨ builtinKind i = some .method) (hs : splitId i = some (owner, n)) (hi : Looks M s.heap (isInstance self (.type owner)) true) (ha : argsOk i ⟨self :: rest, kw⟩) (q : Q () s) :
    wpAny M A (checkBuiltinCall i ⟨self :: rest, kw⟩) Q E s := by
  rcases hk with hk | hk <;>
  · simp only [checkBuiltinCall, hk, hs]
    refine wpAny_bind (hi.here ?_)
    simp only [Bool.not_true, Bool.false_eq_true, if_false]
    cases hsig : Manifest.signature? i with
    | none => exact wpAny_pure q
    | some sig =>
      simp only [argsOk, hsig] at ha
      have h2 : Bind.checkArgs i sig ⟨self :: rest, kw⟩ = pure () := ha
      show wpAny M A (Bind.checkArgs i sig ⟨self :: rest, kw⟩) Q E s
      rw [h2]; exact wpAny_pure q

theorem call_sub {c : Addr} {id n : String} {B : Builtin} {x : Addr} {ox : Obj} {rest : List Value} {A : Around} {s : Shared} {Q : Value → Shared → Prop} {E : Value → Shared → Prop} (X : C.K.In s.heap) (S : SubList C.K c) (hox : s.heap.get? x = some ox) (hcx : ox.cls = .ref c)
    (hk : builtinKind id = some .slot ∨ builtinKind id = some .method) (hs : splitId id = some ("list", n)) (hp : plainId id = true) (he : entryFor table id = some B) (ha : argsOk id ⟨.ref x :: rest, []⟩)
    (hB : wpAny C.M A.in1 (B ⟨.ref x :: rest, []⟩) (fun fin s' => ∃ v, fin = .done (.ret v) ∧ Q v s') E s) : wpAny C.M A (call (.builtin id) (.ref x :: rest)) Q E s := by
  have hi : Looks C.M s.heap (isInstance (.ref x) (.type "list")) true := by
    have hT : Looks C.M s.heap (typeOf (.ref x)) (.ref c) := by rw [← hcx]; exact (Looks.ld (part := none) hox).andThen .now
    exact hT.andThen (looks_mroIn X S.lst)
  refine wpAny_call (codeAny_call_builtin hp he (check_mos hk hs hi ha (wpAny_mono hB (fun fin s' h' => ?_) fun _ _ h' => h')))
  obtain ⟨v, rfl, hv⟩ := h'; exact hv

theorem method_bi {c : Addr} {name : Str} {id : String} {x : Addr} {ox : Obj} {od : Option Obj} {pl : Sem Bool} {A : Around} {s : Shared} {Q : Value × List Value → Shared → Prop} {E : Value → Shared → Prop} (X : C.K.In s.heap) (I : InstAt s.heap x ox c od) (hp : PlainCls C.K c)
    (hf : findIn C.K (.ref c) name = some (some (.builtin id))) (ht : typeOf (.builtin id) = pure (.type "method_descriptor")) (hs : shadowIn od name = some false) (h : Q (.builtin id, [.ref x]) s) :
    wpAny C.M A (getMethod (.ref x) name pl) Q E s := by
  obtain ⟨g, hg, gok⟩ := hp.ga
  have hcan := gok.canon
  unfold getMethod specialOf
  refine wpAny_bind (wpAny_bind (I.type.here ((looks_findIn X hg).here ?_)))
  dsimp only
  rw [hcan, if_neg (by decide)]
  refine wpAny_bind (wpAny_bind (I.type.here ((looks_findIn X hp.gt).here ?_)))
  refine wpAny_bind (wpAny_bind (I.type.here ((looks_findIn X hf).here (wpAny_bind ((Looks.of_pure ht).here ?_)))))
  rw [if_neg (by decide +kernel)]
  refine wpAny_bind (wpAny_loadPart I.at_ ?_)
  have hd := I.dict
  cases e : ox.dict with
  | none => exact wpAny_bind (wpAny_rule (wpAny_pure h))
  | some dx =>
    cases od with
    | none => rw [e] at hd; exact hd.elim
    | some o =>
      rw [e] at hd
      obtain ⟨r, a, b⟩ := Option.map_eq_some_iff.mp hs
      refine wpAny_bind (wpAny_bind (wpAny_loadPart hd ?_))
      rw [nsLook_of a]
      refine wpAny_pure ?_
      rw [b]
      exact wpAny_bind (wpAny_rule (wpAny_pure h))

/-- the receiver is an object of the class, its own attributes do not shadow the name -/
noncomputable def selInst (c : Addr) (name : Str) : MV → MH → Bool := fun a mh => match a with
  | .ref i => (match mh[i]? with
    | some (.inst c' dd (some _)) => c' == c && (match mh[dd]? with | some (.attrs l) => (l.lookup name).isNone | _ => false)
    | _ => false)
  | _ => false
theorem gInst (ok : C.Ok) {c : Addr} {name : Str} {id : String} (hp : PlainCls C.K c) (hf : findIn C.K (.ref c) name = some (some (.builtin id))) (ht : typeOf (.builtin id) = pure (.type "method_descriptor")) : RGet C name id (selInst c name) := by
  intro a mh hs ρ s rv A Q E pl I hv h
  unfold selInst at hs
  split at hs
  · split at hs
    · rename_i i c' dd vs hi
      have hq := Bool.and_eq_true_iff.mp hs
      have hc : c' = c := by simpa using hq.1
      subst hc
      have h2 := hq.2
      split at h2
      · rename_i l hl
        obtain ⟨x, hx, rfl⟩ := hv.ref_
        obtain ⟨ox, od, IA, ns⟩ := inst_at I hi hl hx
        have q := ns.look name
        have hno : l.lookup name = none := by simpa using h2
        rw [hno] at q
        simp only at q
        exact method_bi (I.k ok) IA hp hf ht (by show (lookIn name od).map _ = _; rw [q]; rfl) h
      · cases h2
    · cases hs
  · cases hs

theorem mapSeq_push (x : Value) (c : Value) (dd : Option Addr) (ws : List Value) (n : Nat) : ∃ n', Obj.mapSeq (·.push x) { cls := c, dict := dd, data := .seq ws.toArray n } = { cls := c, dict := dd, data := .seq (ws ++ [x]).toArray n' } := by
  simp only [Obj.mapSeq]
  exact ⟨_, by simp; rfl⟩

noncomputable def isAttrs (mh : MH) (dd : Nat) : Bool := match mh[dd]? with | some (.attrs _) => true | _ => false
theorem isAttrs_ {mh : MH} {dd : Nat} (h : isAttrs mh dd = true) : ∃ l, mh[dd]? = some (.attrs l) := by
  unfold isAttrs at h
  split at h
  · exact ⟨_, by assumption⟩
  · cases h

noncomputable def fAppendI (c : Addr) : DF := fun mvs mh => match mvs with
  | [.ref i, x] => (match mh[i]? with
    | some (.inst c' dd (some vs)) => if c' = c ∧ vs.length ≤ 100000 ∧ isAttrs mh dd = true then some (.none, mh.set i (.inst c dd (some (vs ++ [x])))) else none
    | _ => none)
  | _ => none
theorem vAppendI (ok : C.Ok) {c : Addr} (S : SubList C.K c) : RV C d (.builtin "list.append") (fAppendI c) := by
  intro mvs mh mv mh' h ρ A s vs Q E ao I so hv hQ
  unfold fAppendI at h
  split at h
  · rename_i i x
    split at h
    · rename_i c' dd ms hi
      split at h
      · rename_i hl
        obtain ⟨rfl, hl, hat⟩ := hl
        obtain ⟨l, hdd⟩ := isAttrs_ hat
        cases h
        cases hv with
        | cons h1 h2 =>
          cases h2 with
          | @cons _ v _ _ h2 h3 =>
            cases h3
            obtain ⟨a, ea, rfl⟩ := h1.ref_
            obtain ⟨ox, od, IA, ns⟩ := inst_at I hi hdd ea
            obtain ⟨o, ho, da, ws, n, hda, rfl, r⟩ := I.at hi ea
            refine call_sub (n := "append") (I.k ok) S ho rfl (.inr (by decide +kernel)) (by decide +kernel) (by decide +kernel) PySem.entry_list_append (PySem.args_list_append _ _) ?_
            show wpAny _ _ (updateSeq a (·.push v) >>= fun _ => ret .none) _ _ s
            refine wpAny_bind ?_
            refine wpAny_updateSeq ho rfl (wpAny_pure ⟨.none, rfl, ?_⟩) (by simp [r.length]; exact Nat.le_trans hl (by decide)) (by simp [r.length]; exact Nat.le_trans hl (by decide))
            have hm := List.mem_of_getElem? ea
            obtain ⟨n', he⟩ := mapSeq_push v (.ref c') (some da) ws n
            have hg : (s.heap.update a (Obj.mapSeq (·.push v))).get? a = some (Obj.mapSeq (·.push v) { cls := .ref c', dict := some da, data := .seq ws.toArray n }) := Heap.get?_update_self _ ho rfl
            rw [he] at hg
            exact hQ _ ρ { s with heap := s.heap.update a (Obj.mapSeq (·.push v)) } (Ext.set hm (Heap.SameBut.update ..) ⟨_, hg⟩) (I.set (mh_lt hi) ea (Heap.SameBut.update ..).extBut hg ⟨da, ws ++ [v], n', hda, rfl, r.append (.one h2)⟩) (so.heap _ _) .none'
      · cases h
    · cases h
  · cases h

/-- its items are walked as a list's -/
theorem subIter (ok : C.Ok) {c : Addr} (S : SubList C.K c) : SubIter C (some c) := by
  intro s x o vs n X ho hc hd A Q E h
  have hT : Looks C.M s.heap (typeOf (.ref x)) (.ref c) := by rw [← hc]; exact (Looks.ld (part := none) ho).andThen .now
  have hS : Looks C.M s.heap (specialOf (.ref x) "__iter__") (some (.builtin "list.__iter__")) := hT.andThen (looks_findIn X S.iter)
  have call : wpAny C.M A (call (.builtin "list.__iter__") [.ref x]) (fun it s' => ∃ T' r, s'.TypeIs it T' ∧ typeLookup (.type T') "__next__" = pure (some r) ∧ Q it s') E s := by
    refine call_sub (n := "__iter__") X S ho hc (.inl (by decide +kernel)) (by decide +kernel) (by decide +kernel) entry_list_iter (args_list_iter _) ?_
    show wpAny _ _ (do ret (← newFields "list_iterator" [.ref x, rawInt 0])) _ _ s
    exact wpAny_bind (wpAny_newObj_type (wpAny_pure ⟨_, rfl, "list_iterator", _, ⟨_, Heap.get?_push_size _ rfl, rfl⟩, slot_listiter_next.lookup, h⟩))
  unfold pyIter
  refine wpAny_bind (hS.here ?_)
  show wpAny _ A (callSpecialIfBoundUnlessNone? (.ref x) "__iter__" _ >>= _) Q E s
  refine wpAny_bind ?_
  simp only [callSpecialIfBoundUnlessNone?, bindSpecialIfBound?]
  refine wpAny_holding (wpAny_bind (wpAny_bind (hS.here ?_)))
  simp only [slot_list_iter.bind]
  refine wpAny_bind (wpAny_askSetting (wpAny_ite ?_))
  have fin : ∀ (refuse : Sem Value), wpAny C.M A (if (Value.builtin "list.__iter__" == Value.none) = true then (refuse >>= fun v => pure (some v)) else (PySem.call (.builtin "list.__iter__") [.ref x] >>= fun v => pure (some v))) (fun r s' => ∃ it T' r', r = some it ∧ s'.TypeIs it T' ∧ typeLookup (.type T') "__next__" = pure (some r') ∧ Q it s') E s := by
    intro refuse
    rw [if_neg (show ¬ ((Value.builtin "list.__iter__" == Value.none) = true) by decide)]
    refine wpAny_bind (wpAny_mono call (fun it s' h' => wpAny_pure ?_) fun _ _ e => e)
    obtain ⟨T', r, hT', hl, hQ⟩ := h'
    exact ⟨it, T', r, rfl, hT', hl, hQ⟩
  split
  · refine wpAny_bind (wpAny_pure (wpAny_pure (wpAny_mono (fin _) (fun r s' hr => ?_) fun _ _ e => e)))
    obtain ⟨it, T', r', rfl, hT', hl, hQ⟩ := hr
    exact wpAny_bind (wpAny_specialOf hT' hl (wpAny_pure hQ))
  · refine wpAny_tryCatch (wpAny_bind (wpAny_pure (wpAny_pure (wpAny_mono (fin _) (fun r s' hr => ?_) fun _ _ e => e))))
    obtain ⟨it, T', r', rfl, hT', hl, hQ⟩ := hr
    exact wpAny_bind (wpAny_specialOf hT' hl (wpAny_pure hQ))
end Mine

namespace Mine
variable {C : Cx} {d : Nat} {env : Env}

/-! ## super() upon a built-in method -/
theorem slot_wd_get : Slot "wrapper_descriptor" "__get__" "wrapper_descriptor.__get__" := .of (owner := "wrapper_descriptor") (n := "__get__") (by rw [typeLookup_type, builtinLookup_eq_fast]; kernel_rfl) (by decide +kernel) (by decide +kernel) (by decide +kernel)
  (by first | exact .inl (by decide +kernel) | exact .inr (by decide +kernel)) (by rw [isSubtype_type]; kernel_rfl)
theorem slot_md_get : Slot "method_descriptor" "__get__" "method_descriptor.__get__" := .of (owner := "method_descriptor") (n := "__get__") (by rw [typeLookup_type, builtinLookup_eq_fast]; kernel_rfl) (by decide +kernel) (by decide +kernel) (by decide +kernel)
  (by first | exact .inl (by decide +kernel) | exact .inr (by decide +kernel)) (by rw [isSubtype_type]; kernel_rfl)
theorem entry_wd_get : entryFor table "wrapper_descriptor.__get__" = some Builtin.«wrapper_descriptor.__get__» := entryFor_of_tree (by kernel_rfl)
theorem entry_md_get : entryFor table "method_descriptor.__get__" = some Builtin.«method_descriptor.__get__» := entryFor_of_tree (by kernel_rfl)
theorem args_wd_get (a b c : Value) : argsOk "wrapper_descriptor.__get__" ⟨[a, b, c], []⟩ := by unfold argsOk; kernel_rfl
theorem args_md_get (a b c : Value) : argsOk "method_descriptor.__get__" ⟨[a, b, c], []⟩ := by unfold argsOk; kernel_rfl

noncomputable abbrev boundO (T : String) (id : String) (x : Addr) : Obj := { cls := .type T, data := .fields #[.builtin id, .ref x] }

/-- how a built-in descriptor binds -/
structure Binds (id : String) (DT BT : String) : Prop where
  ty : ∀ s : Shared, s.TypeIs (.builtin id) DT
  slot : ∃ gid B, Slot DT "__get__" gid ∧ entryFor table gid = some B ∧ (∀ a b c, argsOk gid ⟨[a, b, c], []⟩) ∧
    ∀ {M : Model} {A : Around} {E : Value → Shared → Prop} {h : Heap} {g : Array GenState} {d : Drawn} {t : Nat} {os : OsState} {x Cc : Addr} {Q : Fin → Shared → Prop}, Looks M h (isInstance (.ref x) (.type "list")) true →
      Q (.done (.ret (.ref h.objs.size))) ⟨h.push (boundO BT id x), g, d, t, os⟩ → wpAny M A (B ⟨[.builtin id, .ref x, .ref Cc], []⟩) Q E ⟨h, g, d, t, os⟩

theorem binds_len : Binds "list.__len__" "wrapper_descriptor" "method-wrapper" := by
  refine ⟨fun s => ?_, _, _, slot_wd_get, entry_wd_get, args_wd_get, ?_⟩
  · show typeOf _ = _
    show builtinType _ = _; rw [builtinType_eq_fast]; kernel_rfl
  · intro M A E h g d t os x Cc Q hi hq
    have e : (".".intercalate ("list.__len__".cutAt '.').dropLast) = "list" := by decide +kernel
    have hi' : Looks M h (isInstance (.ref x) (.type (".".intercalate ("list.__len__".cutAt '.').dropLast))) true := by rw [e]; exact hi
    unfold Builtin.«wrapper_descriptor.__get__»
    repeat (first | (refine wpAny_newObj_type ?_ (by size_fits)) | lk)
    exact hq
theorem binds_init : Binds "list.__init__" "wrapper_descriptor" "method-wrapper" := by
  refine ⟨fun s => ?_, _, _, slot_wd_get, entry_wd_get, args_wd_get, ?_⟩
  · show typeOf _ = _
    show builtinType _ = _; rw [builtinType_eq_fast]; kernel_rfl
  · intro M A E h g d t os x Cc Q hi hq
    have e : (".".intercalate ("list.__init__".cutAt '.').dropLast) = "list" := by decide +kernel
    have hi' : Looks M h (isInstance (.ref x) (.type (".".intercalate ("list.__init__".cutAt '.').dropLast))) true := by rw [e]; exact hi
    unfold Builtin.«wrapper_descriptor.__get__»
    repeat (first | (refine wpAny_newObj_type ?_ (by size_fits)) | lk)
    exact hq
theorem binds_pop : Binds "list.pop" "method_descriptor" "builtin_function_or_method" := by
  refine ⟨fun s => ?_, _, _, slot_md_get, entry_md_get, args_md_get, ?_⟩
  · show typeOf _ = _
    show builtinType _ = _; rw [builtinType_eq_fast]; kernel_rfl
  · intro M A E h g d t os x Cc Q hi hq
    have e : (".".intercalate ("list.pop".cutAt '.').dropLast) = "list" := by decide +kernel
    have hi' : Looks M h (isInstance (.ref x) (.type (".".intercalate ("list.pop".cutAt '.').dropLast))) true := by rw [e]; exact hi
    have e2 : (Manifest.toldItsClass.contains "list.pop") = false := by decide +kernel
    unfold Builtin.«method_descriptor.__get__»
    iterate 8 lk
    refine wpAny_pure ?_
    simp only [show ∀ a : Addr, (Value.ref a == Value.none) = false from fun _ => rfl, Bool.false_eq_true, if_false]
    rw [if_neg (by rw [e2]; decide)]
    repeat (first | (refine wpAny_newObj_type ?_ (by size_fits)) | lk)
    exact hq

theorem super_ga_bi {so D x Cc : Addr} {l₀ l : List Value} {K : Frag} {name : Str} {tk : Tok} {id DT BT : String} {prog : Program} {w : World} {A : Around} {E : Value → Shared → Prop} {h : Heap} {g : Array GenState} {d : Drawn} {t : Nat} {os : OsState} {Q : PySem.Fin → Shared → Prop}
    (hso : h.get? so = some { cls := .type "super", dict := none, data := .fields #[.ref D, .ref x, .ref Cc], slots := #[] }) (hno : Looks (model prog w) h (opaqueClassAbove (.ref Cc)) none)
    (hC : Looks (model prog w) h (mroOf (.ref Cc)) l₀) (hl : (l₀.dropWhile (· != .ref D)).drop 1 = l) (X : K.In h) (hi : Looks (model prog w) h (isInstance (.ref x) (.type "list")) true)
    (hf : alongIn K name l = some (some (.builtin id))) (hb : Binds id DT BT) (hxC : x ≠ Cc) (hn : (name == ("__class__" : Str)) = false)
    (hq : Q (.done (.ret (.ref h.objs.size))) ⟨h.push (boundO BT id x), g, d, t, os⟩) :
    wpAny (model prog w) A (Builtin.«super.__getattribute__» ⟨[.ref so, .str name tk], []⟩) Q E ⟨h, g, d, t, os⟩ := by
  obtain ⟨hty, gid, B, hslot, hent, hargs, hB⟩ := hb
  have hlk := hslot.lookup
  have hne : (Value.ref x == Value.ref Cc) = false := by simp [hxC]
  have hTf := hty ⟨h, g, d, t, os⟩
  have hdt : ({ cls := .type "super", dict := none, data := .fields #[.ref D, .ref x, .ref Cc], slots := #[] } : Obj).data = .fields #[.ref D, .ref x, .ref Cc] := rfl
  have f0 : (#[.ref D, .ref x, .ref Cc] : Array Value)[0]? = some (.ref D) := rfl
  have f1 : (#[.ref D, .ref x, .ref Cc] : Array Value)[1]? = some (.ref x) := rfl
  have f2 : (#[.ref D, .ref x, .ref Cc] : Array Value)[2]? = some (.ref Cc) := rfl
  have fin : ∀ A', wpAny (model prog w) A' (B ⟨[.builtin id, .ref x, .ref Cc], []⟩) (fun fin s' => ∃ v, fin = .done (.ret v) ∧ v = .ref h.objs.size ∧ s' = ⟨h.push (boundO BT id x), g, d, t, os⟩) E ⟨h, g, d, t, os⟩ := fun A' => hB hi ⟨_, rfl, rfl, rfl⟩
  unfold Builtin.«super.__getattribute__»
  repeat (first
    | (with_reducible refine wpAny_field hso hdt f0 ?_) | (with_reducible refine wpAny_field hso hdt f1 ?_) | (with_reducible refine wpAny_field hso hdt f2 ?_)
    | (with_reducible refine ks_wpAny_notOpaque hno ?_)
    | (with_reducible refine Looks.at hC ?_; rw [hl])
    | (refine ks_forIn_along X (fun _ _ => rfl) rfl ?_ hf)
    | (with_reducible refine wpAny_typeOf hTf ?_)
    | (with_reducible refine wpAny_of_eq hlk ?_)
    | (with_reducible refine wpAny_mono (wpAny_call_entry hslot hTf hent (fin _) (hargs _ _ _)) ?_ ?_)
    | (simp only [hn, hne, Bool.or_false, Bool.false_eq_true, if_false])
    | wp_step
    | dsimp only)
  · rintro a s ⟨rfl, rfl⟩
    exact wpAny_bind (wpAny_pure (wpAny_pure (wpAny_pure hq)))
  · exact fun _ _ e => e

theorem getMethod_super_bi {so D x Cc : Addr} {l₀ l : List Value} {K : Frag} {name : Str} {pl : Sem Bool} {id DT BT : String} {prog : Program} {w : World} {A : Around} {E : Value → Shared → Prop} {h : Heap} {g : Array GenState} {d : Drawn} {t : Nat} {os : OsState} {Q : Value × List Value → Shared → Prop}
    (hso : h.get? so = some { cls := .type "super", dict := none, data := .fields #[.ref D, .ref x, .ref Cc], slots := #[] }) (hno : Looks (model prog w) h (opaqueClassAbove (.ref Cc)) none)
    (hC : Looks (model prog w) h (mroOf (.ref Cc)) l₀) (hl : (l₀.dropWhile (· != .ref D)).drop 1 = l) (X : K.In h) (hi : Looks (model prog w) h (isInstance (.ref x) (.type "list")) true)
    (hf : alongIn K name l = some (some (.builtin id))) (hb : Binds id DT BT) (hxC : x ≠ Cc) (hn : (name == ("__class__" : Str)) = false)
    (hq : Q (.ref h.objs.size, []) ⟨h.push (boundO BT id x), g, d, t + 1, os⟩) :
    wpAny (model prog w) A (getMethod (.ref so) name pl) Q E ⟨h, g, d, t, os⟩ := by
  have hlk := PySem.F.ks_slot_super_ga.lookup
  have hcan := PySem.F.ks_canon_super_ga
  have hT : ∀ t', (⟨h, g, d, t', os⟩ : Shared).TypeIs (.ref so) "super" := fun _ => ⟨_, hso, rfl⟩
  unfold getMethod
  refine wpAny_bind (wpAny_specialOf (hT _) hlk ?_)
  show wpAny _ _ (if (Manifest.canonical "super.__getattribute__" != "object.__getattribute__") = true then _ else _) _ _ _
  rw [if_pos hcan]
  unfold getAttr getAttrBy
  refine wpAny_bind (wpAny_bind (wpAny_mkText (wpAny_holding (wpAny_bind (wpAny_typeOf (hT _) (wpAny_bind (wpAny_of_eq hlk ?_)))))))
  show wpAny _ _ (getAttrByItsOwn (.ref so) (.str name t) (.type "super") (.builtin "super.__getattribute__") true false) _ _ _
  unfold getAttrByItsOwn hookBefore callGetattribute boundAndCalled
  refine wpAny_bind (wpAny_of_eq (show (if onTheHeap (.type "super") then typeLookup (.type "super") "__getattr__" else pure none) = pure none from rfl) ?_)
  refine wpAny_bind (wpAny_attempt (wpAny_holding ?_))
  show wpAny _ _ (bindSpecial (.builtin "super.__getattribute__") (.ref so) >>= _) _ _ _
  refine wpAny_bind (wpAny_of_eq (PySem.F.ks_slot_super_ga.bind _) ?_)
  refine wpAny_mono (Q := fun v s' => v = .ref h.objs.size ∧ s' = ⟨h.push (boundO BT id x), g, d, t + 1, os⟩) (E := fun _ _ => False)
    (wpAny_call_entry PySem.F.ks_slot_super_ga (hT _) PySem.F.ks_entry_super_ga (super_ga_bi hso hno hC hl X hi hf hb hxC hn ⟨_, rfl, rfl, rfl⟩) (PySem.F.ks_gaArgs_super _ _)) (fun v s' hv => ?_) fun _ _ z => z.elim
  obtain ⟨rfl, rfl⟩ := hv
  exact wpAny_pure (wpAny_pure hq)
end Mine

namespace Mine
variable {C : Cx} {d : Nat} {env : Env}

/-! ## methods that say super() -/
theorem call_bound {b x : Addr} {BT id : String} {B : Builtin} {rest : List Value} {A : Around} {s : Shared} {Q : Value → Shared → Prop} {E : Value → Shared → Prop} (hb : s.heap.get? b = some (boundO BT id x)) (hBT : BT = "builtin_function_or_method" ∨ BT = "method-wrapper")
    (hp : plainId id = true) (he : entryFor table id = some B) (hchk : ∀ {Q' : Unit → Shared → Prop} {E' : Value → Shared → Prop}, Q' () s → wpAny C.M A.in1 (checkBoundCall id ⟨.ref x :: rest, []⟩) Q' E' s)
    (hB : wpAny C.M A.in1 (B ⟨.ref x :: rest, []⟩) (fun fin s' => ∃ v, fin = .done (.ret v) ∧ Q v s') E s) : wpAny C.M A (call (.ref b) rest) Q E s := by
  refine wpAny_call (codeAny_of_tree ?_)
  show wpAny _ A.in1 (callAny (.ref b) ⟨rest, []⟩) _ _ s
  unfold callAny
  refine wpAny_bind (wpAny_load hb ?_)
  have e1 : (Value.type BT == Value.type "method" || Value.type BT == Value.type "builtin_function_or_method" || Value.type BT == Value.type "method-wrapper") = true := by rcases hBT with rfl | rfl <;> decide
  have e2 : (Value.type BT != Value.type "method") = true := by rcases hBT with rfl | rfl <;> decide
  show wpAny _ _ (if (Value.type BT == Value.type "method" || Value.type BT == Value.type "builtin_function_or_method" || Value.type BT == Value.type "method-wrapper") = true then _ else _) _ _ s
  rw [if_pos e1]
  show wpAny _ _ (if (Value.type BT != Value.type "method") = true then _ else _) _ _ s
  rw [if_pos e2]
  refine wpAny_bind (hchk ?_)
  refine wpAny_pure ⟨plainId_quiet hp _, codeAny_builtin he ?_⟩
  rw [Around.under_plainId hp _]
  refine wpAny_mono hB (fun fin s' h' => ?_) fun _ _ e => e
  obtain ⟨v, rfl, hv⟩ := h'
  exact hv

/-- what a class upon list is known by, and its cell -/
structure SuperOk (C : Cx) (c cc : Addr) (name : Str) (id DT BT : String) : Prop where
  cell : ∃ a b l, C.K.lookup cc = some ⟨a, b, .cell (some (.ref c)), l⟩
  cls : ∃ cd, clsIn C.K c = some cd ∧ cd.mro.isEmpty = false ∧ cd.mro.contains (.ref c) = true ∧ alongIn C.K name ((cd.mro.dropWhile (· != .ref c)).drop 1) = some (some (.builtin id))
  opq : nsIn C.K cStatics "thirdparty.any" = some none
  mg : C.mg "super" = none
  mb : C.mb "super" = some (.type "super")
  top : (C.prog.main.scope.names.lookup ("super" : Str)).isSome = false
  binds : Binds id DT BT
  bt : BT = "builtin_function_or_method" ∨ BT = "method-wrapper"
  nm : (name == ("__class__" : Str)) = false

theorem super_call0 {c cc f x L : Addr} {name : Str} {id DT BT : String} (K : SuperOk C c cc name id DT BT) (S : SubList C.K c) {nm qual : Str} {params : Arguments} {body body' : List Stmt} {scope : Scope} {dV kV doc pm ct : Value} {an : Option Addr} {oc : Value} {od : Option Addr} {osl : Array (Option Value)} {p0 p1 apos pos : Pos} {pl : Sem Bool} {ar : Arg}
    {vs : Array Value} {file : Str} {tf : Tok} {ccl : Value} {cdd : Option Addr} {ccs : Array (Option Value)} {cda : Addr} {m : Str → Option Value} {ox : Obj} {A : Around} {E : Value → Shared → Prop} {Q : Value → Shared → Prop} {h : Heap} {g : Array GenState} {d : Drawn} {t : Nat} {os : OsState}
    (X : C.K.In h) (hg : h.Ns mainGlobals C.mg) (hb : h.Ns builtinsNs C.mb) (hK : C.K.lookup f = some ⟨oc, od, .func (fnX nm qual params body scope [("__class__", cc)] dV kV doc pm an (.ref cda) ct), osl⟩)
    (hcode : C.K.lookup cda = some ⟨ccl, cdd, .fields vs, ccs⟩) (hvs : vs[2]? = some (.str file tf)) (hfile : ((C.prog.main.file : Str) == file) = true)
    (hp : (params.posonlyargs ++ params.args).head? = some ar) (hks : scope.names.lookup ("super" : Str) = some .globalImplicit) (hkc : scope.names.lookup ("__class__" : Str) = some .free) (hka : scope.names.lookup ar.arg = some .local) (hk : scope.kind = .function)
    (hn : h.Ns L m) (hm : m ar.arg = some (.ref x)) (hox : h.get? x = some ox) (hcx : ox.cls = .ref c) (hnc : ∀ cd, ox.data ≠ .cls cd)
    (hq : ∀ b h' t', h'.get? b = some (boundO BT id x) → (∀ y o, h.get? y = some o → h'.get? y = some o) → wpAny C.M A (call (.ref b) []) Q E ⟨h', g, d, t', os⟩)
    (he : eval (.Call (.Attribute (.Call (.Name "super" p0) [] [] p1) name apos) [] [] pos) (ksEnv qual scope L f (.ref cda) cc) = (do
      let ov ← attributeBase (.Call (.Name "super" p0) [] [] p1) name (ksEnv qual scope L f (.ref cda) cc) (eval (.Call (.Name "super" p0) [] [] p1) (ksEnv qual scope L f (.ref cda) cc))
      standAt apos.atName
      let (g, first) ← holding [ov] (getMethod ov name pl)
      callWith pos g first (backTo pos (starEach [] (ksEnv qual scope L f (.ref cda) cc))) []) := by rfl) :
    _root_.PySem.wpAt C.M A (.func body' (ksEnv qual scope L f (.ref cda) cc)) (eval (.Call (.Attribute (.Call (.Name "super" p0) [] [] p1) name apos) [] [] pos) (ksEnv qual scope L f (.ref cda) cc)) Q E ⟨h, g, d, t, os⟩ := by
  obtain ⟨ca, cb, cl, hcell⟩ := K.cell
  obtain ⟨cd, hcls, hme, hmc, halong⟩ := K.cls
  have hD : ∃ oD, h.get? c = some oD ∧ oD.data = .cls cd := by
    unfold clsIn at hcls
    split at hcls
    · rename_i e
      cases hcls
      exact ⟨_, X _ _ e, rfl⟩
    · cases hcls
  obtain ⟨oD, hD1, hD2⟩ := hD
  have hxc : x ≠ c := fun e => by subst e; rw [hox] at hD1; cases hD1; exact hnc _ hD2
  refine ks_wpAt_MethodCall ?_ he
  refine ks_wpAt_super_base (env := ksEnv qual scope L f (.ref cda) cc) hks hkc K.nm rfl (X _ _ hK) rfl hp rfl (X _ _ hcode) rfl hvs hfile K.top ?_
  refine ks_loadName_global hk hks (Calls.loadGlobal_builtin (env := ksEnv qual scope L f (.ref cda) cc) hg K.mg hb K.mb ⟨rfl, ?_⟩)
  refine wpAny_loadName_free hk hkc rfl ⟨_, X _ _ hcell, rfl⟩ ?_
  refine wpAny_loadName_local hk hka hn hm ?_
  refine ks_wpAny_isType_cls hD1 hD2 ⟨rfl, ?_⟩
  have hsub : Looks C.M h (isSubtype (.ref c) (.ref c)) true := looks_mroIn X (by unfold mroIn; rw [hcls, Option.bind_some, if_neg (by rw [hme]; decide), hmc])
  refine ks_wpAny_call_super hD1 hD2 hox hcx hnc hsub (fun h1 e1 k1 => ?_)
  have X1 := X.keeps k1
  have hT1 : Looks C.M h1 (typeOf (.ref x)) (.ref c) := by rw [← hcx]; exact (Looks.ld (part := none) (k1 _ _ hox)).andThen .now
  have hi1 : Looks C.M h1 (isInstance (.ref x) (.type "list")) true := hT1.andThen (looks_mroIn X1 S.lst)
  refine getMethod_super_bi e1 (looks_opaque X1 K.opq) (l₀ := cd.mro) ((looks_clsIn X1 hcls).andThen .now) rfl X1 hi1 halong K.binds hxc K.nm ?_
  have hb' : (h1.push (boundO BT id x)).get? h1.objs.size = some (boundO BT id x) := Heap.get?_push_size _ rfl
  refine callWith_of (P := fun h' => h'.get? h1.objs.size = some (boundO BT id x)) rfl (fun h' e => ⟨.machine, .inr (.inl rfl), ?_⟩) (PyProof.Rows.evalArgs_none ⟨hb', ?_⟩)
  · refine (Looks.ld (part := none) e).andThen ?_
    have e2 : (Value.type BT != Value.type "method") = true := by rcases K.bt with rfl | rfl <;> decide
    have e3 : (Value.type BT == Value.type "builtin_function_or_method" || Value.type BT == Value.type "method-wrapper") = true := by rcases K.bt with rfl | rfl <;> decide
    show Looks _ _ (if (Value.type BT != Value.type "method") = true then _ else _) _
    rw [if_pos e2, if_pos e3]
    exact .now
  · exact hq _ _ _ hb' fun y o e => Heap.get?_push_of_some _ (k1 _ _ e)

end Mine

namespace Mine
variable {C : Cx} {d : Nat} {env : Env}

/-- a method of the class that closes over __class__, as it stands at f -/
structure MethAt (C : Cx) (c cc f : Addr) (nm qual : Str) (params : Arguments) (body : List Stmt) (scope : Scope) (dV kV doc pm ct : Value) (an : Option Addr) (cda : Addr) : Prop where
  fn : ∃ oc od osl, C.K.lookup f = some ⟨oc, od, .func (fnX nm qual params body scope [("__class__", cc)] dV kV doc pm an (.ref cda) ct), osl⟩
  code : codeIn C.K (.ref cda) qual = true
  codeO : ∃ ccl cdd vs ccs file tf, C.K.lookup cda = some ⟨ccl, cdd, .fields vs, ccs⟩ ∧ vs[2]? = some (.str file tf) ∧ ((C.prog.main.file : Str) == file) = true
  ks : scope.names.lookup ("super" : Str) = some .globalImplicit
  kc : scope.names.lookup ("__class__" : Str) = some .free
  nc : ∀ x ∈ scope.names, x.2 ≠ .cell
  co : scope.isCoroutine = false
  gen : scope.isGenerator = false
  k : scope.kind = .function

theorem boundChk_slot {id : String} {self : Value} {rest : List Value} {M : Model} {A : Around} {s : Shared} {Q : Unit → Shared → Prop} {E : Value → Shared → Prop} (hk : builtinKind id = some .slot) (ha : argsOk id ⟨self :: rest, []⟩) (q : Q () s) :
    wpAny M A (checkBoundCall id ⟨self :: rest, []⟩) Q E s := by
  unfold checkBoundCall
  cases hsig : Manifest.signature? id with
  | none => exact wpAny_pure q
  | some sig =>
    simp only [hk]
    simp only [argsOk, hsig] at ha
    have h2 : Bind.checkArgs id sig ⟨self :: rest, []⟩ = pure () := ha
    show wpAny M A (if (Manifest.AttrKind.slot != .method && Manifest.AttrKind.slot != .classMethod) = true then Bind.checkArgs id sig ⟨self :: rest, []⟩ else _) Q E s
    rw [if_pos (by decide), h2]
    exact wpAny_pure q

noncomputable def fPartCount (c : Addr) : DF := fun mvs mh => match mvs with
  | [.ref i] => (match mh[i]? with
    | some (.inst c' _ (some vs)) => if c' = c ∧ vs.length ≤ 100000 then some (.int vs.length, mh) else none
    | _ => none)
  | _ => none

theorem RF_partcount (ok : C.Ok) {c cc f : Addr} {nm qual : Str} {params : Arguments} {scope : Scope} {dV kV doc pm ct : Value} {an : Option Addr} {cda : Addr} {ar : Arg} {p0 p1 p2 p3 p4 : Pos} {pl : Sem Bool}
    (S : SubList C.K c) (K : SuperOk C c cc "__len__" "list.__len__" "wrapper_descriptor" "method-wrapper")
    (H : MethAt C c cc f nm qual params [.Return (some (.Call (.Attribute (.Call (.Name "super" p0) [] [] p1) "__len__" p2) [] [] p3)) p4] scope dV kV doc pm ct an cda)
    (hp : (params.posonlyargs ++ params.args).head? = some ar) (hka : scope.names.lookup ar.arg = some .local)
    (hbind : ∀ v : Value, bindArgs (fnX nm qual params [.Return (some (.Call (.Attribute (.Call (.Name "super" p0) [] [] p1) "__len__" p2) [] [] p3)) p4] scope [("__class__", cc)] dV kV doc pm an (.ref cda) ct) ⟨[v], []⟩ = pure [(ar.arg, v)])
    (he : ∀ L, eval (.Call (.Attribute (.Call (.Name "super" p0) [] [] p1) "__len__" p2) [] [] p3) (ksEnv qual scope L f (.ref cda) cc) = (do
      let ov ← attributeBase (.Call (.Name "super" p0) [] [] p1) "__len__" (ksEnv qual scope L f (.ref cda) cc) (eval (.Call (.Name "super" p0) [] [] p1) (ksEnv qual scope L f (.ref cda) cc))
      standAt p2.atName
      let (g, first) ← holding [ov] (getMethod ov "__len__" pl)
      callWith p3 g first (backTo p3 (starEach [] (ksEnv qual scope L f (.ref cda) cc))) []) := by intros; rfl) :
    RF C (d + 1) f (fPartCount c) := by
  intro mvs mh mv mh' hf ρ A s vs R ao I so hv hR
  unfold fPartCount at hf
  split at hf
  · rename_i i
    split at hf
    · rename_i c' dd ms hi
      split at hf
      · rename_i hc
        obtain ⟨rfl, hlen⟩ := hc
        cases hf
        cases hv with
        | cons h1 h2 =>
          cases h2
          obtain ⟨x, hx, rfl⟩ := h1.ref_
          obtain ⟨ox, hox, da, ws, n, hda, rfl, r⟩ := I.at hi hx
          obtain ⟨oc, od, osl, hfn⟩ := H.fn
          obtain ⟨ccl, cdd, cvs, ccs, file, tf, hco, hvs, hfile⟩ := H.codeO
          obtain ⟨hh, g, dr, t, os⟩ := s
          refine ks_codeAny_call_defAt (fd := fnX nm qual params [.Return (some (.Call (.Attribute (.Call (.Name "super" p0) [] [] p1) "__len__" p2) [] [] p3)) p4] scope [("__class__", cc)] dV kV doc pm an (.ref cda) ct) (binds := [(ar.arg, .ref x)])
            ao.room ((I.k ok) _ _ hfn) rfl (I.nolimit ok) (codeRec_of (I.k ok) H.code) rfl (BindsTo.of_eq (hbind _)) H.nc (fun y hy => by simp at hy; subst hy; exact hka) (fun h0 hns k0 => ?_) H.co H.gen H.k
          have I0 : Inv C ρ mh h0 := I.junk k0
          refine ks_wpAt_execs_cons (ks_wpAt_Return_some ?_)
          refine super_call0 K S (m := fun y => [(ar.arg, Value.ref x)].reverse.lookup y) (I0.k ok) (I0.g ok) (I0.b ok) hfn hco hvs hfile hp H.ks H.kc hka H.k hns (by simp) (k0 _ _ hox) rfl (fun cd e => by cases e) (fun b h1 t1 hb k1 => ?_) (he _)
          have I1 : Inv C ρ mh h1 := I0.junk k1
          have hx1 := k1 _ _ (k0 _ _ hox)
          refine call_bound hb (.inr rfl) (by decide +kernel) entry_list_len (fun hq' => ?_) ?_
          · exact boundChk_slot (by decide +kernel) (args_list_len _) hq'
          · show wpAny _ _ (seqSize x >>= fun n => mkInt n >>= ret) _ _ _
            refine wpAny_bind (wpAny_bind (wpAny_loadPart hx1 (wpAny_pure ?_)))
            refine wpAny_bind (wpAny_mkInt (wpAny_pure ⟨_, rfl, ?_⟩))
            have e : (ws.toArray.size : Int) = (ms.length : Int) := by simp [r.length]
            rw [e]
            exact hR _ ρ _ (Ext.all fun y o e => k1 _ _ (k0 _ _ e)) I1 (so.heap _ _) .int'
      · cases hf
    · cases hf
  · cases hf
end Mine

namespace Mine
variable {C : Cx} {d : Nat} {env : Env}

/-- a bound method of an own class: its arguments are looked at under the class's own name -/
theorem boundChk_method {K : Frag} {id : String} {self : Value} {rest : List Value} {c : Addr} {cd : ClassData} {M : Model} {A : Around} {s : Shared} {Q : Unit → Shared → Prop} {E : Value → Shared → Prop} (X : K.In s.heap) (hk : builtinKind id = some .method) (hv : (Manifest.varargsMethods.contains id) = false)
    (hm : Looks M s.heap (isInstance self (.type "module")) false) (hty : Looks M s.heap (isType self) false) (hT : Looks M s.heap (typeOf self) (.ref c)) (hc : clsIn K c = some cd) (htc : typeIn K (.ref c) = some (.type "type"))
    (ha : ∀ sig, Manifest.signature? id = some sig → Bind.checkArgs id { sig with full := s!"{cd.qualname.toString}.{Bind.lastOf id}" } ⟨self :: rest, []⟩ = pure ()) (q : Q () s) :
    wpAny M A (checkBoundCall id ⟨self :: rest, []⟩) Q E s := by
  unfold checkBoundCall
  cases hsig : Manifest.signature? id with
  | none => exact wpAny_pure q
  | some sig =>
    simp only [hk]
    have hax := ha sig hsig
    show wpAny M A (if (Manifest.AttrKind.method != .method && Manifest.AttrKind.method != .classMethod) = true then _ else _) Q E s
    rw [if_neg (by decide)]
    refine wpAny_bind (hm.here ?_)
    rw [if_neg (by rw [hv]; decide)]
    refine wpAny_bind (hty.here ?_)
    show wpAny M A (if false = true then _ else _) Q E s
    rw [if_neg (by decide)]
    refine wpAny_bind (hT.here ?_)
    dsimp only
    refine wpAny_bind ((looks_clsIn X hc).here ?_)
    refine wpAny_bind ((looks_typeIn X htc).here ?_)
    show wpAny M A (if (Value.type "type" == Value.type "type") = true then _ else _) Q E s
    rw [if_pos (by decide), hax]
    exact wpAny_pure q

theorem looks_isType_seq {M : Model} {h : Heap} {x : Addr} {cl : Value} {dd : Option Addr} {vs : Array Value} {n : Nat} {sl : Array (Option Value)} (hx : h.get? x = some ⟨cl, dd, .seq vs n, sl⟩) : Looks M h (isType (.ref x)) false := by
  unfold isType loadHead
  exact (Looks.ld hx).andThen .now

/-- the attributes of an object, one of them no -/
noncomputable def lacks (mh : MH) (dd : Nat) (name : Str) : Bool := match mh[dd]? with | some (.attrs l) => (l.lookup name).isNone | _ => false
theorem lacks_ {mh : MH} {dd : Nat} {name : Str} (h : lacks mh dd name = true) : ∃ l, mh[dd]? = some (.attrs l) ∧ l.lookup name = none := by
  unfold lacks at h
  split at h
  · exact ⟨_, by assumption, by simpa using h⟩
  · cases h

theorem eraseIdx_last {α : Type} : ∀ {l : List α}, l.eraseIdx (l.length - 1) = l.dropLast
  | [] => rfl
  | [a] => rfl
  | a :: b :: r => by
    have := eraseIdx_last (l := b :: r)
    simpa using this
theorem mapSeq_eraseIdx (j : Nat) (c : Value) (dd : Option Addr) (ws : List Value) (n : Nat) (hj : j < ws.length) : ∃ n', Obj.mapSeq (fun xs => xs.eraseIdxIfInBounds j) { cls := c, dict := dd, data := .seq ws.toArray n } = { cls := c, dict := dd, data := .seq (ws.eraseIdx j).toArray n' } := by
  have : ws.toArray.eraseIdxIfInBounds j = (ws.eraseIdx j).toArray := by
    unfold Array.eraseIdxIfInBounds
    rw [dif_pos (by simpa using hj)]
    simp
  refine ⟨if ((ws.toArray.eraseIdxIfInBounds j).size == ws.toArray.size) = true then n else n + 1, ?_⟩
  simp only [Obj.mapSeq, this]

noncomputable def fPop (c : Addr) : DF := fun mvs mh => match mvs with
  | [.ref i] => (match mh[i]? with
    | some (.inst c' dd (some vs)) => if c' = c ∧ vs.length ≤ 100000 ∧ lacks mh dd "part_count" = true then (match vs.getLast? with
      | none => some (.tup [.str ⟨#[]⟩, .str ⟨#[]⟩], mh)
      | some v => some (v, mh.set i (.inst c dd (some vs.dropLast)))) else none
    | _ => none)
  | _ => none

noncomputable abbrev popBody (q0 q1 q2 q3 q4 q5 q6 q7 q8 q9 p0 p1 p2 p3 p4 : Pos) (k0 k1 k2 kt : Nat) : List Stmt :=
  [.If (.Compare (.Call (.Attribute (.Name "self" q0) "part_count" q1) [] [] q2) [.Eq] [.Constant (.int 0) k0 q3] q4) [.Return (some (.Tuple [.Constant (.str "") k1 q5, .Constant (.str "") k2 q6] kt q7)) q8] [] q9,
    .Return (some (.Call (.Attribute (.Call (.Name "super" p0) [] [] p1) "pop" p2) [] [] p3)) p4]

theorem pop_last {C : Cx} {A : Around} {c : Addr} {x : Addr} {ws : List Value} {n j : Nat} {da : Option Addr} {rv : Value} {Q : PySem.Fin → Shared → Prop} {E : _} {h : Heap} {g dr t os}
    (hx : h.get? x = some { cls := .ref c, dict := da, data := .seq ws.toArray n }) (hl : ws.length ≤ 100000) (hjj : ws.length - 1 = j) (hrv : ws[j]? = some rv)
    (hQ : Q (.done (.ret rv)) ⟨h.update x (Obj.mapSeq fun xs => xs.eraseIdxIfInBounds j), g, dr, t, os⟩) : wpAny C.M A (Builtin.«list.pop» ⟨[.ref x], []⟩) Q E ⟨h, g, dr, t, os⟩ := by
  subst hjj
  have hj : ws.length - 1 < ws.length := (List.getElem?_eq_some_iff.mp hrv).1
  unfold Builtin.«list.pop»
  repeat lk
  have hemp : ws.toArray.isEmpty = false := by cases ws with | nil => cases hrv | cons => rfl
  rw [if_neg (by rw [hemp]; decide)]
  have hix : seqIndex? (-1) ws.toArray.size = some (ws.length - 1) := by
    unfold seqIndex?
    simp
    omega
  have hg2 : ws.toArray[ws.length - 1]? = some rv := by simpa using hrv
  rw [hix, Option.bind_some, hg2]
  refine wpAny_bind ?_
  show wpAny _ _ (updateSeq x fun xs => xs.eraseIdxIfInBounds (ws.length - 1)) _ _ _
  refine wpAny_updateSeq hx rfl (wpAny_pure hQ) (Nat.le_trans hl (by decide)) (by
    unfold Array.eraseIdxIfInBounds
    rw [dif_pos (by simpa using hj), Array.size_eraseIdx]
    exact Nat.le_trans (Nat.sub_le _ _) (Nat.le_trans hl (by decide)))
theorem RF_pop (ok : C.Ok) {c cc f fpc : Addr} {nm qual : Str} {params : Arguments} {scope : Scope} {dV kV doc pm ct : Value} {an : Option Addr} {cda : Addr} {ar : Arg} {q0 q1 q2 q3 q4 q5 q6 q7 q8 q9 p0 p1 p2 p3 p4 : Pos} {k0 k1 k2 kt : Nat} {pl : Sem Bool} {pl1 : Nat → Sem Bool}
    (S : SubList C.K c) (K : SuperOk C c cc "pop" "list.pop" "method_descriptor" "builtin_function_or_method")
    (H : MethAt C c cc f nm qual params (popBody q0 q1 q2 q3 q4 q5 q6 q7 q8 q9 p0 p1 p2 p3 p4 k0 k1 k2 kt) scope dV kV doc pm ct an cda)
    (hp : (params.posonlyargs ++ params.args).head? = some ar) (har : ar.arg = "self") (hka : scope.names.lookup ar.arg = some .local)
    (hbind : ∀ v : Value, bindArgs (fnX nm qual params (popBody q0 q1 q2 q3 q4 q5 q6 q7 q8 q9 p0 p1 p2 p3 p4 k0 k1 k2 kt) scope [("__class__", cc)] dV kV doc pm an (.ref cda) ct) ⟨[v], []⟩ = pure [(ar.arg, v)])
    (hpc : findIn C.K (.ref c) "part_count" = some (some (.ref fpc))) (hpt : typeIn C.K (.ref fpc) = some (.type "function")) (hpd : IsDef C fpc) (hpr : RF C d fpc (fPartCount c))
    (hchk : ∀ cd sig self, clsIn C.K c = some cd → Manifest.signature? "list.pop" = some sig → Bind.checkArgs "list.pop" { sig with full := s!"{cd.qualname.toString}.{Bind.lastOf "list.pop"}" } ⟨[self], []⟩ = pure ())
    (he : ∀ L, eval (.Call (.Attribute (.Call (.Name "super" p0) [] [] p1) "pop" p2) [] [] p3) (ksEnv qual scope L f (.ref cda) cc) = (do
      let ov ← attributeBase (.Call (.Name "super" p0) [] [] p1) "pop" (ksEnv qual scope L f (.ref cda) cc) (eval (.Call (.Name "super" p0) [] [] p1) (ksEnv qual scope L f (.ref cda) cc))
      standAt p2.atName
      let (g, first) ← holding [ov] (getMethod ov "pop" pl)
      callWith p3 g first (backTo p3 (starEach [] (ksEnv qual scope L f (.ref cda) cc))) []) := by intros; rfl)
    (he1 : ∀ L, eval (.Call (.Attribute (.Name "self" q0) "part_count" q1) [] [] q2) (ksEnv qual scope L f (.ref cda) cc) = (do
      let ov ← eval (.Name "self" q0) (ksEnv qual scope L f (.ref cda) cc)
      standAt q1.atName
      let (g, first) ← holding [ov] (getMethod ov "part_count" (pl1 L))
      callWith q2 g first (backTo q2 (starEach [] (ksEnv qual scope L f (.ref cda) cc))) []) := by intros; rfl) :
    RF C (d + 1) f (fPop c) := by
  intro mvs mh mv mh' hf ρ A s vs R ao I so hv hR
  unfold fPop at hf
  split at hf
  · rename_i i
    split at hf
    · rename_i c' dd ms hi
      split at hf
      · rename_i hc
        obtain ⟨rfl, hlen, hlk⟩ := hc
        obtain ⟨l, hl, hno⟩ := lacks_ hlk
        cases hv with
        | cons h1 h2 =>
          cases h2
          obtain ⟨x, hx, rfl⟩ := h1.ref_
          obtain ⟨ox, hox, da, ws, n, hda, rfl, r⟩ := I.at hi hx
          obtain ⟨oc, od, osl, hfn⟩ := H.fn
          obtain ⟨ccl, cdd, cvs, ccs, file, tf, hco, hvs, hfile⟩ := H.codeO
          obtain ⟨hh, g, dr, t, os⟩ := s
          refine ks_codeAny_call_defAt (fd := fnX nm qual params (popBody q0 q1 q2 q3 q4 q5 q6 q7 q8 q9 p0 p1 p2 p3 p4 k0 k1 k2 kt) scope [("__class__", cc)] dV kV doc pm an (.ref cda) ct) (binds := [(ar.arg, .ref x)])
            ao.room ((I.k ok) _ _ hfn) rfl (I.nolimit ok) (codeRec_of (I.k ok) H.code) rfl (BindsTo.of_eq (hbind _)) H.nc (fun y hy => by simp at hy; subst hy; exact hka) (fun h0 hns kk0 => ?_) H.co H.gen H.k
          have I0 : Inv C ρ mh h0 := I.junk kk0
          have ao1 : Aok d (A.deeper (callEnv (fnX nm qual params (popBody q0 q1 q2 q3 q4 q5 q6 q7 q8 q9 p0 p1 p2 p3 p4 k0 k1 k2 kt) scope [("__class__", cc)] dV kV doc pm an (.ref cda) ct) hh.objs.size f)) := ao.deeper
          have hself : (fun y => [(ar.arg, Value.ref x)].reverse.lookup y) ("self" : Str) = some (.ref x) := by simp [har]
          refine ks_wpAt_execs_cons (ks_wpAt_If (wpAt_of_wpAny (wpAny_isTrue_Compare1 ?_)))
          -- self.part_count()
          show wpAny _ _ (eval (.Call (.Attribute (.Name "self" q0) "part_count" q1) [] [] q2) (ksEnv qual scope hh.objs.size f (.ref cda) cc)) _ _ _
          rw [he1]
          refine wpAny_bind (wpAny_Name (wpAny_loadName_local (env := ksEnv qual scope hh.objs.size f (.ref cda) cc) H.k (by rw [← har]; exact hka) hns hself ?_) (by decide))
          refine wpAny_bind (wpAny_standAt (wpAny_bind (wpAny_holding (getMeth_ok ok S.plain hpc hpt I0 hi hl hno hx ?_))))
          obtain ⟨ob, fd, hkd, hdat⟩ := hpd
          refine Calls.callWith_function (o := ob) (fd := fd) (PyProof.Rows.evalArgs_none ⟨⟨(I0.k ok) _ _ hkd, hdat⟩, ?_⟩)
          have hden : fPartCount c' [.ref i] mh = some (.int ms.length, mh) := by simp [fPartCount, hi, hlen]
          refine wpAny_call (hpr hden ao1 I0 (so.heap _ _) (.cons h1 .nil) fun v ρ1 s1 x1 I1 so1 v1 => ?_)
          obtain ⟨t1, rfl⟩ := v1.int_
          refine wpAny_Constant_int (eq_int (wpAny_truthy_bool ?_))
          have hns1 : s1.heap.Ns hh.objs.size (fun y => [(ar.arg, Value.ref x)].reverse.lookup y) := Ns.keep1 hns fun o e => x1.keep _ o e (fun hm => by
            obtain ⟨o', e'⟩ := I.liveId hm; exact absurd (Heap.lt_size e') (Nat.lt_irrefl _)) (I0.not_x (I.fresh (get_size hh)).2) (by simp)
          have xx : Ext C ρ [] hh ρ1 s1.heap := (Ext.all kk0).trans x1
          cases hms : ms.getLast? with
          | none =>
            have hnil : ms = [] := by simpa using hms
            subst hnil
            simp only [hms] at hf
            cases hf
            have h00 : (((([] : List MV).length : Nat) : Int) == 0) = true := rfl
            simp only [h00, if_true]
            refine wpAt_of_wpAny (wpAny_execs_cons (wpAny_Return_some ?_))
            refine PyProof.Rows.Tuple_ (PyProof.Rows.args_cons (wpAny_Constant_str (PyProof.Rows.args_cons (wpAny_Constant_str (PyProof.Rows.args_nil ?_)) rfl)) rfl)
            refine wpAny_newTuple ?_ (by show 2 ≤ sizeLine; decide)
            have I1' : Inv C ρ1 mh s1.heap := I1
            refine hR _ _ _ (xx.trans (Ext.pushF _ _ _)) (I1'.pushF rfl) (so1.heap _ _) (.tup' mem_froze ?_)
            exact .cons .str' (.cons .str' .nil)
          | some v =>
            simp only [hms] at hf
            cases hf
            have hpos : (((ms.length : Nat) : Int) == 0) = false := by
              cases ms with
              | nil => simp at hms
              | cons a b => simp; omega
            simp only [hpos, Bool.false_eq_true, if_false]
            refine wpAt_of_wpAny (wpAny_execs_nil ?_)
            refine ks_wpAt_execs_cons (ks_wpAt_Return_some ?_)
            obtain ⟨o2, ho2, da2, ws2, n2, hda2, rfl, r2⟩ := I1.at hi (pre_get x1.pre hx)
            obtain ⟨hh1, g1, dr1, t1', os1⟩ := s1
            refine super_call0 K S (m := fun y => [(ar.arg, Value.ref x)].reverse.lookup y) (I1.k ok) (I1.g ok) (I1.b ok) hfn hco hvs hfile hp H.ks H.kc hka H.k hns1 (by simp) ho2 rfl (fun cd e => by cases e) (fun b h2 t2 hb k2 => ?_) (he _)
            have I2 : Inv C ρ1 mh h2 := I1.junk k2
            have hx2 := k2 _ _ ho2
            obtain ⟨cd, hcls, _⟩ := K.cls
            have hT : Looks C.M h2 (typeOf (.ref x)) (.ref c') := (Looks.ld (part := none) hx2).andThen .now
            refine call_bound hb (.inl rfl) (by decide +kernel) PySem.F.entry_list_pop (fun hq' => ?_) ?_
            · exact boundChk_method (I2.k ok) (by decide +kernel) (by decide +kernel) (hT.andThen (looks_mroIn (I2.k ok) S.nmod)) (looks_isType_seq hx2) hT hcls S.ty (fun sig hsig => hchk cd sig _ hcls hsig) hq'
            · have hl2 := r2.length
              have hv' : ms[ms.length - 1]? = some mv := by rw [← hms, List.getLast?_eq_getElem?]
              obtain ⟨rv, hrv, hvr⟩ := r2.get hv'
              have hj : ms.length - 1 < ws2.length := (List.getElem?_eq_some_iff.mp hrv).1
              have hm := List.mem_of_getElem? (pre_get x1.pre hx)
              obtain ⟨n', he'⟩ := mapSeq_eraseIdx (ms.length - 1) (.ref c') (some da2) ws2 n2 hj
              refine pop_last hx2 (by omega) (by omega) hrv ⟨rv, rfl, ?_⟩
              have hgg : (h2.update x (Obj.mapSeq fun xs => xs.eraseIdxIfInBounds (ms.length - 1))).get? x = some (Obj.mapSeq (fun xs => xs.eraseIdxIfInBounds (ms.length - 1)) { cls := .ref c', dict := some da2, data := .seq ws2.toArray n2 }) := Heap.get?_update_self _ hx2 rfl
              rw [he'] at hgg
              have hre : VRs ρ1 ms.dropLast (ws2.eraseIdx (ms.length - 1)) := by rw [← eraseIdx_last]; exact r2.eraseIdx
              exact hR _ ρ1 ⟨h2.update x _, g1, dr1, t2, os1⟩ ((xx.trans (Ext.all k2)).trans (Ext.set hm (Heap.SameBut.update ..) ⟨_, hgg⟩)) (I2.set (mh_lt hi) (pre_get x1.pre hx) (Heap.SameBut.update ..).extBut hgg ⟨da2, _, n', hda2, rfl, hre⟩) (so1.heap _ _) hvr
      · cases hf
    · cases hf
  · cases hf

end Mine

namespace Mine
variable {C : Cx} {d : Nat} {env : Env}

/-! ## an object of an own class upon list is made -/
noncomputable def makesLIn (K : Frag) (C : Addr) : Bool := match K.lookup C with
  | some ⟨_, _, .cls cd, sl⟩ => !cd.abstract && !cd.hasDel && cd.hasDict && (sl.toList[4]?).join == some (.builtin "list.__new__") && !cd.mro.isEmpty && cd.mro.contains (.ref C) && cd.mro.contains (.type "list") &&
      specialIn K (.ref C) "__call__" == some (some (.builtin "type.__call__")) && instIn K (.ref C) (.type "type") == some true
  | _ => false
structure MakesL (M : Model) (h : Heap) (C : Addr) : Prop where
  obj : ∃ oc od cd sl, h.get? C = some ⟨oc, od, .cls cd, sl⟩ ∧ cd.abstract = false ∧ cd.hasDel = false ∧ cd.mro.isEmpty = false
  made : Looks M h (Bind.madeBy (.ref C)) (some "list.__new__")
  base : Looks M h (Bind.staticBase (.ref C)) (.ref C)
  self : Looks M h (isSubtype (.ref C) (.ref C)) true
  top : Looks M h (isSubtype (.ref C) (.type "list")) true
  call : Looks M h (specialOf (.ref C) "__call__") (some (.builtin "type.__call__"))
  typ : Looks M h (isInstance (.ref C) (.type "type")) true
theorem makesL_of {K : Frag} {M : Model} {h : Heap} (X : K.In h) {C : Addr} (e : makesLIn K C = true) : MakesL M h C := by
  unfold makesLIn at e
  split at e
  · rename_i oc od cd sl ho
    simp only [Bool.and_eq_true, Bool.not_eq_true', beq_iff_eq] at e
    obtain ⟨⟨⟨⟨⟨⟨⟨⟨e1, e2⟩, _⟩, e3⟩, e4⟩, e5⟩, e6⟩, e7⟩, e8⟩ := e
    have hc : clsIn K C = some cd := by unfold clsIn; rw [ho]
    have hm : Looks M h (mroOf (.ref C)) cd.mro := (looks_clsIn X hc).andThen .now
    obtain ⟨c, l, hl⟩ : ∃ c l, cd.mro = c :: l := by cases q : cd.mro with | nil => rw [q] at e4; cases e4 | cons c l => exact ⟨c, l, rfl⟩
    have made : Looks M h (Bind.madeBy (.ref C)) (some "list.__new__") := by
      intro A Q E s k q
      unfold Bind.madeBy
      refine wpAny_bind (hm A _ E s k ?_)
      rw [hl, List.forIn_cons]
      refine wpAny_bind (wpAny_bind (wpAny_bind (wpAny_bind (wpAny_loadPart (k _ _ (X _ _ ho)) (wpAny_pure ?_)))))
      dsimp only
      rw [← Array.getElem?_toList, e3]
      exact wpAny_pure (wpAny_pure (wpAny_pure q))
    refine ⟨⟨oc, od, cd, sl, X _ _ ho, e1, e2, e4⟩, made, ?_, looks_mroIn X ?_, looks_mroIn X ?_, looks_specialIn X e7, looks_instIn X e8⟩
    · intro A Q E s k q
      unfold Bind.staticBase
      refine wpAny_bind (hm A _ E s k ?_)
      rw [hl, List.forIn_cons]
      exact wpAny_bind (wpAny_bind (wpAny_bind (made A _ E s k (wpAny_pure (wpAny_pure (wpAny_pure q))))))
    · unfold mroIn; rw [hc, Option.bind_some, if_neg (by rw [e4]; decide), e5]
    · unfold mroIn; rw [hc, Option.bind_some, if_neg (by rw [e4]; decide), e6]
  · cases e

noncomputable abbrev listInst (C dx : Addr) : Obj := { cls := .ref C, dict := some dx, data := .seq #[] }

section
variable {prog : Program} {w : World} {A : Around} {K : Frag} {Cc : Addr} {R : Result → Shared → Prop} {h : Heap} {g : Array GenState} {dr : Drawn} {t : Nat} {os : OsState}
theorem newL {rest : List Value} (Y : MakesL (model prog w) h Cc)
    (hq : R (.ok (.ret (.ref (h.objs.size + 1)))) ⟨(h.push emptyDict).push (listInst Cc h.objs.size), g, dr, t, os⟩) :
    codeAny (model prog w) A (.call (.builtin "list.__new__") ⟨.ref Cc :: rest, []⟩) R ⟨h, g, dr, t, os⟩ := by
  obtain ⟨⟨oc, od, cd, sl, hC, e1, e2, e4⟩, made, base, self, top, call, typ⟩ := Y
  have hk : builtinKind "list.__new__" = some .builtinFn := by decide +kernel
  have hs : splitId "list.__new__" = some ("list", "__new__") := by decide +kernel
  have hty : Looks (model prog w) h (isType (.ref Cc)) true := by
    unfold isType loadHead
    exact (Looks.ld hC).andThen .now
  refine codeAny_call_builtin_code (plainId_quiet PySem.F.plain_list_new _) ?_
  simp only [checkBuiltinCall, hk, hs]
  repeat lk
  refine codeAny_builtin_stack PySem.F.entry_list_new rfl fun p st => ?_
  rw [Around.under_plainId PySem.F.plain_list_new _]
  have hown := owner_list_new
  have hC2 : ((h.push emptyDict).push (listInst Cc h.objs.size)).get? Cc = some { cls := oc, dict := od, data := Data.cls cd, slots := sl } := Heap.get?_push_of_some _ (Heap.get?_push_of_some _ hC)
  simp only [hown]
  repeat (first | simp only [e2, Bool.false_eq_true, if_false] | lk)
  rw [Heap.size_push]
  exact hq

theorem makeL_core {rest : List Value} {init : Addr} (Y : MakesL (model prog w) h Cc) (hi : Looks (model prog w) h (typeLookup (.ref Cc) "__init__") (some (.ref init)))
    (hb : ∀ self, Looks (model prog w) h (bindSpecial (.ref init) self) (.ref init, [self]))
    (hq : codeAny (model prog w) (A.under (.builtin "type.__call__" ⟨.ref Cc :: rest, []⟩)) (.call (.ref init) ⟨.ref (h.objs.size + 1) :: rest, []⟩) (InitBack (h.objs.size + 1) R) ⟨(h.push emptyDict).push (listInst Cc h.objs.size), g, dr, t, os⟩) :
    codeAny (model prog w) A (.call (.ref Cc) ⟨rest, []⟩) R ⟨h, g, dr, t, os⟩ := by
  have Y' := Y
  obtain ⟨⟨oc, od, cd, sl, hC, e1, e2, e4⟩, made, base, self, top, call, typ⟩ := Y
  refine codeAny_of_tree ?_
  show wpAny _ _ (callAny (.ref Cc) _) _ _ _
  refine nd_load hC ?_
  show wpAny _ _ (callAny.viaDunder (.ref Cc) _) _ _ _
  unfold callAny.viaDunder
  refine wpAny_bind (call.at ?_)
  dsimp only
  rw [tc_bind]
  refine wpAny_bind (wpAny_pure (wpAny_bind (wpAny_pure ?_)))
  refine wpAny_pure (a := Fin.again (.call (.builtin "type.__call__") ⟨.ref Cc :: rest, []⟩)) (And.intro rfl ?_)
  refine codeAny_call_builtin_at (Code.quiet_builtin _ (by decide +kernel)) entry_typeCall (check_slot tc_kind tc_split typ (tc_args _ _ _) ?_)
  unfold Builtin.«type.__call__»
  have hm : Looks (model prog w) h (mroOf (.ref Cc)) cd.mro := ((Looks.ld (part := none) hC).andThen .now).andThen .now
  repeat (first | simp only [e4, Bool.false_eq_true, if_false] | with_reducible refine wpAny_call ?_ | lk)
  refine newL Y' ?_
  have k : ∀ b o, h.get? b = some o → ((h.push emptyDict).push (listInst Cc h.objs.size)).get? b = some o := fun b o e => Heap.get?_push_of_some _ (Heap.get?_push_of_some _ e)
  have hx : ((h.push emptyDict).push (listInst Cc h.objs.size)).get? (h.objs.size + 1) = some (listInst Cc h.objs.size) := by heap_get
  have t1 : Looks (model prog w) ((h.push emptyDict).push (listInst Cc h.objs.size)) (typeOf (.ref (h.objs.size + 1))) (.ref Cc) := (Looks.ld hx).andThen .now
  have s1 := self.keeps k
  have i1 := hi.keeps k
  have b1 := (hb (.ref (h.objs.size + 1))).keeps k
  unfold isInstance callSpecial? specialOf
  repeat (first | with_reducible refine wpAny_call ?_ | lk)
  refine codeAny_mono hq fun r s' z => ?_
  rcases r with e | (v | _ | _ | _) <;> first | exact z | exact z.elim | skip
  obtain ⟨rfl, z⟩ := z
  exact wpAny_pure (wpAny_pure z)
end
end Mine

namespace Mine
open Builtin Builtin.ObjectAttr Builtin.Getset_descriptor
variable {C : Cx} {d : Nat} {env : Env}

/-! ## an attribute is stored -/
/-- the class lets its objects' attributes be stored plainly -/
structure StoreCls (K : Frag) (c : Addr) : Prop where
  sa : findIn K (.ref c) "__setattr__" = some (some (.builtin "object.__setattr__"))
  rl : ∀ self cd, clsIn K c = some cd → refuseLoop self "__setattr__" cd.mro = pure ()
  ex : ∃ cd, clsIn K c = some cd ∧ cd.hasDict = true ∧ cd.mro.isEmpty = false
  ob : mroIn K c (.type "object") = some true

theorem setAttrI {K : Frag} {c x dx : Addr} {prog : Program} {w : World} {A : Around} {E : Value → Shared → Prop} {s : Shared} {ox : Obj} {name : Str} {v : Value} {es : List DictEntry} {n : Nat} {Q : Unit → Shared → Prop} (X : K.In s.heap) (I : InstAt s.heap x ox c (some (dictOf es n))) (hd : ox.dict = some dx)
    (S : StoreCls K c) (ht : takerIn K c name = some none) (hl : (getL name es).isSome = true) (hz : es.length ≤ 1000)
    (h : ∀ h' hsh tk n', h'.get? dx = some (dictOf (putL name hsh (.str name tk) v es) n') → Heap.SameBut dx s.heap h' → ∀ t', Q () { s with heap := h', toks := t' }) :
    wpAny (model prog w) A (setAttr (.ref x) name v) Q E s := by
  have SF := PySem.F.store_object
  obtain ⟨cd, hc, hdict, ne⟩ := S.ex
  have sub : Looks (model prog w) s.heap (isInstance (.ref x) (.type "object")) true := I.type.andThen (looks_mroIn X S.ob)
  refine set_plain X I S.sa ?_
  refine codeAny_call_builtin SF.slot.plain SF.entry (@check_slot (model prog w) _ _ { s with toks := s.toks + 1 } "object.__setattr__" "object" "__setattr__" (.ref x) [.str name s.toks, v] [] _ SF.kind SF.split sub (SF.args (.ref x) (.str name s.toks) v) ?_)
  obtain ⟨attr, ha, hr⟩ := Option.bind_eq_some_iff.mp ht
  have hm : Looks (model prog w) s.heap (mroOf (.ref c)) cd.mro := (looks_clsIn X hc).andThen .now
  have L3 : Looks (model prog w) s.heap (storeTaker? attr) none := by
    cases attr with
    | none => cases hr; exact .now
    | some a =>
      obtain ⟨b, hb, hb2⟩ := Option.map_eq_some_iff.mp hr
      cases b with
      | true => cases hb2
      | false => exact (looks_takesIn X hb).andThen .now
  rw [osa_eq, refuse_eq]
  obtain ⟨hh, gg, dr, tt, os⟩ := s
  dsimp only at I hm L3 X h
  refine wpAny_bind (wpAny_bind (I.type.at (wpAny_bind (hm.at ?_))))
  rw [S.rl _ _ hc]
  refine wpAny_pure (wpAny_bind (I.type.at (wpAny_bind ((looks_findIn X ha).at (wpAny_bind (L3.at ?_))))))
  obtain ⟨hx, hcl, hno, hdd⟩ := I
  obtain ⟨oc, odi, oda, osl⟩ := ox
  dsimp only at hcl hd hdd
  subst hcl hd
  dsimp only at hdd
  refine wpAny_bind (wpAny_pure (wpAny_bind (wpAny_bind (wpAny_loadPart hx (wpAny_bind ((looks_clsIn X hc).at ?_))))))
  rw [hdict]
  refine wpAny_pure (a := some dx) (wpAny_bind (wpAny_pure ?_))
  have D : hh.get? dx = some (dictOf es n) := hdd
  refine wpAny_bind ?_
  unfold nsSet
  refine wpAny_bind (wpAny_bind (wpAny_askSetting (wpAny_pure (wpAny_bind (wpAny_mkText (wpAny_bind (wpAny_loadPart D ?_)))))))
  have c : (!es.toArray.any (·.key.isStr name) && es.toArray.any (·.refKey)) = false := by
    rw [← Array.any_toList, ← Array.any_toList]
    unfold getL at hl
    split at hl
    · rename_i en he
      rw [List.any_eq_true.mpr ⟨en, List.mem_of_find?_eq_some he, List.find?_some he⟩]; rfl
    · split at hl
      · cases hl
      · rename_i z; rw [Bool.not_eq_true] at z; rw [z, Bool.and_false]
  show wpAny _ _ (if aRefKeyMayBeTheName _ _ = true then _ else _) _ _ _
  rw [aRefKeyMayBeTheName_at, c]
  refine wpAny_updatePart D ?_
  have D' : ∀ f, (hh.update dx f).get? dx = some (f (dictOf es n)) → (hh.update dx f).get? dx = some (f (dictOf es n)) := fun _ e => e
  have U : ∀ (hsh : Int) (tk : Tok), (hh.update dx (Obj.putName name hsh (.str name tk) v)).get? dx = some (dictOf (putL name hsh (.str name tk) v es) (putN name es n)) := fun hsh tk => by
    rw [Heap.get?_update_self _ D (by rw [putName_dict]; rfl), putName_dict]
  have hlen : ∀ (hsh : Int) (tk : Tok) (es : List DictEntry), (putL name hsh (.str name tk) v es).length ≤ es.length + 1 := by
    intro hsh tk es
    induction es with
    | nil => simp [putL]
    | cons e r ih => unfold putL; split <;> simp <;> omega
  refine wpAny_bind (wpAny_lookBehind (U _ _) (pastItsLine_dict (by rw [List.size_toArray, sizeLine_eq]; have := hlen (PyData.keyHash w.params name) tt.succ es; have h2 := hlen (PyData.keyHash w.params name) (tt + 1) es; first | omega | (refine Nat.le_trans (hlen _ _ _) ?_; omega))) ?_)
  exact wpAny_pure (h _ _ _ _ (U _ _) (Heap.SameBut.update ..) _)

theorem upd_len {l : List (Str × MV)} {x : Str} {v : MV} : (updA l x v).length ≤ l.length + 1 := by
  induction l with
  | nil => simp [updA]
  | cons p r ih => obtain ⟨y, w⟩ := p; unfold updA; split <;> simp <;> omega

/-- o.name = v upon the mini heap -/
noncomputable def setAttrD (c : Addr) (name : Str) (a v : MV) (mh : MH) : Option MH := match a with
  | .ref i => (match mh[i]? with
    | some (.inst c' dd _) => if c' = c then (match mh[dd]? with
      | some (.attrs l) => if l.length ≤ 100 then some (mh.set dd (.attrs (updA l name v))) else none
      | _ => none) else none
    | _ => none)
  | _ => none
theorem setAttr_ok (ok : C.Ok) {c : Addr} {name : Str} (S : StoreCls C.K c) (ht : takerIn C.K c name = some none) {a v : MV} {mh mh' : MH} (h : setAttrD c name a v mh = some mh') {ρ : Wd} {A : Around} {s : Shared} {Q : Unit → Shared → Prop} {E : Value → Shared → Prop} {va vv : Value}
    (I : Inv C ρ mh s.heap) (so : SOk C s) (ha : VR ρ a va) (hv : VR ρ v vv) (hQ : ∀ s', Ext C ρ [] s.heap ρ s'.heap → Inv C ρ mh' s'.heap → SOk C s' → Q () s') :
    wpAny C.M A (setAttr va name vv) Q E s := by
  unfold setAttrD at h
  split at h
  · rename_i i
    split at h
    · rename_i c' dd it hi
      split at h
      · rename_i hc
        subst hc
        split at h
        · rename_i l hl
          split at h
          · rename_i hlen
            cases h
            obtain ⟨x, hx, rfl⟩ := ha.ref_
            have key : ∃ ox da es n, InstAt s.heap x ox c' (some (dictOf es n)) ∧ ox.dict = some da ∧ ρ.ids[dd]? = some da ∧ AttrsR ρ l es := by
              obtain ⟨o, ho, r⟩ := I.at hi hx
              cases it with
              | none =>
                obtain ⟨da, hda, rfl⟩ := r
                obtain ⟨od, hod, es, n, rfl, rd⟩ := I.at hl hda
                exact ⟨_, da, es, n, ⟨ho, rfl, rfl, hod⟩, rfl, hda, rd⟩
              | some ms =>
                obtain ⟨da, vs, n, hda, rfl, _⟩ := r
                obtain ⟨od, hod, es, n', rfl, rd⟩ := I.at hl hda
                exact ⟨_, da, es, n', ⟨ho, rfl, rfl, hod⟩, rfl, hda, rd⟩
            obtain ⟨ox, da, es, n, IA, hdx, hda, rd⟩ := key
            refine setAttrI (I.k ok) IA hdx S ht ?_ (by rw [rd.len]; omega) fun h' hsh tk n' hg hs t' => ?_
            · have := rd.look name
              split at this
              · obtain ⟨_, e, _⟩ := this; rw [e]; rfl
              · rw [this.1]; rfl
            · have hm := List.mem_of_getElem? hda
              exact hQ _ (Ext.set hm hs ⟨_, hg⟩) (I.set (mh_lt hl) hda hs.extBut hg ⟨_, _, rfl, rd.put hv⟩) (so.heap _ _)
          · cases h
        · cases h
      · cases h
    · cases h
  · cases h
end Mine

namespace Mine
variable {C : Cx} {d : Nat} {env : Env}

/-! ## _Accumulator() -/
noncomputable abbrev initBody (q0 q1 q2 q3 q4 p0 p1 p2 p3 p4 : Pos) : List Stmt :=
  [.Assign [.Attribute (.Name "self" q0) "_initial_size" q1] (.Name "initial_size" q2) q3,
    .Expr (.Call (.Attribute (.Call (.Name "super" p0) [] [] p1) "__init__" p2) [] [] p3) p4]

noncomputable def fInitAcc (c : Addr) : DF := fun mvs mh => match mvs with
  | [.ref i] => (match mh[i]? with
    | some (.inst c' dd (some [])) => if c' = c then (match setAttrD c "_initial_size" (.ref i) (.int 0) mh with
      | some mh' => if dd ≠ i then some (.none, mh') else none
      | none => none) else none
    | _ => none)
  | _ => none

theorem setAttrD_get {c : Addr} {name : Str} {i : Nat} {v : MV} {mh mh' : MH} {dd : Nat} {it : Option (List MV)} (h : setAttrD c name (.ref i) v mh = some mh') (hi : mh[i]? = some (.inst c dd it)) (hne : dd ≠ i) : mh'[i]? = some (.inst c dd it) := by
  unfold setAttrD at h
  simp only [hi, if_true] at h
  split at h
  · split at h
    · cases h
      rw [List.getElem?_set_ne hne]; exact hi
    · cases h
  · cases h

theorem set_same {α : Type} : ∀ {l : List α} {i : Nat} {a : α}, l[i]? = some a → l.set i a = l
  | [], _, _, h => by simp at h
  | x :: l, 0, a, h => by simp at h; simp [h]
  | x :: l, i + 1, a, h => by
    show x :: l.set i a = x :: l
    rw [set_same (by simpa using h)]

theorem chk_list_init {x : Addr} {M : Model} {A : Around} {s : Shared} {Q : Unit → Shared → Prop} {E : Value → Shared → Prop} (q : Q () s) : wpAny M A (checkBoundCall "list.__init__" ⟨[.ref x], []⟩) Q E s :=
  boundChk_slot (id := "list.__init__") (by decide +kernel) (PySem.F.args_list_init_1 _) q

theorem run_list_init {x : Addr} {cl : Value} {dd : Option Addr} {n : Nat} {M : Model} {A : Around} {h : Heap} {g : Array GenState} {dr : Drawn} {t : Nat} {os : OsState} {Q : PySem.Fin → Shared → Prop} {E : Value → Shared → Prop} (hx : h.get? x = some { cls := cl, dict := dd, data := .seq #[] n })
    (q : ∀ h', h'.get? x = some { cls := cl, dict := dd, data := .seq #[] n } → Heap.SameBut x h h' → Q (.done (.ret .none)) ⟨h', g, dr, t, os⟩) : wpAny M A (Builtin.«list.__init__» ⟨[.ref x], []⟩) Q E ⟨h, g, dr, t, os⟩ := by
  unfold Builtin.«list.__init__»
  repeat lk
  have hg : (h.update x (Obj.mapSeq fun _ => #[])).get? x = some { cls := cl, dict := dd, data := .seq #[] n } := by
    rw [Heap.get?_update_self _ hx rfl]
    rfl
  refine wpAny_updatePart (part := none) hx ?_
  refine wpAny_lookBehind hg rfl ?_
  refine wpAny_bind (wpAny_letGo ?_)
  exact wpAny_pure (q _ hg (Heap.SameBut.update ..))

set_option maxHeartbeats 1000000 in
theorem RF_initAcc (ok : C.Ok) {c cc f : Addr} {nm qual : Str} {params : Arguments} {scope : Scope} {dV kV doc pm ct : Value} {an : Option Addr} {cda : Addr} {ar : Arg} {q0 q1 q2 q3 q4 p0 p1 p2 p3 p4 : Pos} {pl : Sem Bool}
    (S : SubList C.K c) (St : StoreCls C.K c) (htk : takerIn C.K c "_initial_size" = some none) (K : SuperOk C c cc "__init__" "list.__init__" "wrapper_descriptor" "method-wrapper")
    (H : MethAt C c cc f nm qual params (initBody q0 q1 q2 q3 q4 p0 p1 p2 p3 p4) scope dV kV doc pm ct an cda)
    (hp : (params.posonlyargs ++ params.args).head? = some ar) (har : ar.arg = "self") (hka : scope.names.lookup ("self" : Str) = some .local) (hkb : scope.names.lookup ("initial_size" : Str) = some .local)
    (hbind : ∃ tk, ∀ (s : Shared) (v : Value), C.K.In s.heap → BindsTo s (fnX nm qual params (initBody q0 q1 q2 q3 q4 p0 p1 p2 p3 p4) scope [("__class__", cc)] dV kV doc pm an (.ref cda) ct) ⟨[v], []⟩ [("self", v), ("initial_size", .int 0 tk)])
    (he : ∀ L, eval (.Call (.Attribute (.Call (.Name "super" p0) [] [] p1) "__init__" p2) [] [] p3) (ksEnv qual scope L f (.ref cda) cc) = (do
      let ov ← attributeBase (.Call (.Name "super" p0) [] [] p1) "__init__" (ksEnv qual scope L f (.ref cda) cc) (eval (.Call (.Name "super" p0) [] [] p1) (ksEnv qual scope L f (.ref cda) cc))
      standAt p2.atName
      let (g, first) ← holding [ov] (getMethod ov "__init__" pl)
      callWith p3 g first (backTo p3 (starEach [] (ksEnv qual scope L f (.ref cda) cc))) []) := by intros; rfl) :
    RF C (d + 1) f (fInitAcc c) := by
  intro mvs mh mv mh' hf ρ A s vs R ao I so hv hR
  unfold fInitAcc at hf
  split at hf
  · rename_i i
    split at hf
    · rename_i c' dd hi
      split at hf
      · rename_i hc
        subst hc
        split at hf
        · rename_i mh1 hset
          split at hf
          · rename_i hne
            cases hf
            cases hv with
            | cons h1 h2 =>
              cases h2
              obtain ⟨x, hx, rfl⟩ := h1.ref_
              obtain ⟨oc, od, osl, hfn⟩ := H.fn
              obtain ⟨ccl, cdd, cvs, ccs, file, tf, hco, hvs, hfile⟩ := H.codeO
              obtain ⟨tk, hbind⟩ := hbind
              refine ks_codeAny_call_defAt (fd := fnX nm qual params (initBody q0 q1 q2 q3 q4 p0 p1 p2 p3 p4) scope [("__class__", cc)] dV kV doc pm an (.ref cda) ct) (binds := [("self", .ref x), ("initial_size", .int 0 tk)])
                ao.room ((I.k ok) _ _ hfn) rfl (I.nolimit ok) (codeRec_of (I.k ok) H.code) rfl (hbind _ _ (I.k ok)) H.nc (fun y hy => by
                  simp at hy
                  rcases hy with rfl | rfl
                  · exact hka
                  · exact hkb) (fun h0 hns k0 => ?_) H.co H.gen H.k
              have I0 : Inv C ρ mh h0 := I.junk k0
              have hms : (fun y => [(("self" : Str), Value.ref x), ("initial_size", .int 0 tk)].reverse.lookup y) ("self" : Str) = some (.ref x) := by rfl
              have hmi : (fun y => [(("self" : Str), Value.ref x), ("initial_size", .int 0 tk)].reverse.lookup y) ("initial_size" : Str) = some (.int 0 tk) := by rfl
              refine ks_wpAt_execs_cons (wpAt_of_wpAny (plainObj_wpAny_Assign_Attribute ?_ rfl))
              refine wpAny_Name (wpAny_loadName_local (env := ksEnv qual scope s.heap.objs.size f (.ref cda) cc) H.k hkb hns hmi ?_) (by decide)
              refine wpAny_Name (wpAny_loadName_local (env := ksEnv qual scope s.heap.objs.size f (.ref cda) cc) H.k hka hns hms ?_) (by decide)
              refine setAttr_ok ok St htk hset I0 (so.heap _ _) (.ref' hx) .int' fun s1 x1 I1 so1 => ?_
              have hns1 : s1.heap.Ns s.heap.objs.size (fun y => [(("self" : Str), Value.ref x), ("initial_size", .int 0 tk)].reverse.lookup y) := Ns.keep1 hns fun o e => x1.keep _ o e (fun hm => by
                obtain ⟨o', e'⟩ := I.liveId hm; exact absurd (Heap.lt_size e') (Nat.lt_irrefl _)) (I0.not_x (I.fresh (get_size s.heap)).2) (by simp)
              have hi1 := setAttrD_get hset hi hne
              obtain ⟨o2, ho2, da2, ws2, n2, hda2, rfl, r2⟩ := I1.at hi1 hx
              cases r2
              have xx : Ext C ρ [] s.heap ρ s1.heap := (Ext.all k0).trans x1
              obtain ⟨hh1, g1, dr1, t1, os1⟩ := s1
              refine ks_wpAt_execs_cons (ks_wpAt_Expr_any ?_ (by show interactive (ksEnv qual scope s.heap.objs.size f (.ref cda) cc) = false; unfold interactive; simp [Env.blockKind, H.k]) rfl)
              refine super_call0 K S (m := fun y => [(("self" : Str), Value.ref x), ("initial_size", .int 0 tk)].reverse.lookup y) (I1.k ok) (I1.g ok) (I1.b ok) hfn hco hvs hfile hp H.ks H.kc (by rw [har]; exact hka) H.k hns1 (by rw [har]; exact hms) ho2 rfl (fun cd e => by cases e) (fun b h2 t2 hb k2 => ?_) (he _)
              have I2 : Inv C ρ _ h2 := I1.junk k2
              have hx2 := k2 _ _ ho2
              refine call_bound hb (.inr rfl) (by decide +kernel) PySem.F.entry_list_init (fun hq' => chk_list_init hq') ?_
              refine run_list_init hx2 fun h3 hx3 hs3 => ⟨.none, rfl, ?_⟩
              have I3 : Inv C ρ mh' h3 := by
                have := I2.set (mh_lt hi1) hx hs3.extBut hx3 (mo := .inst c' dd (some [])) ⟨da2, [], n2, hda2, rfl, .nil⟩
                rwa [set_same (by exact hi1)] at this
              refine wpAt_of_wpAny (wpAny_execs_nil ?_)
              exact hR _ ρ ⟨h3, g1, dr1, t2, os1⟩ ((xx.trans (Ext.all k2)).trans (Ext.set (List.mem_of_getElem? hx) hs3 ⟨_, hx3⟩)) I3 (so1.heap _ _) .none'
          · cases hf
        · cases hf
      · cases hf
    · cases hf
  · cases hf
end Mine

namespace Mine
variable {C : Cx} {d : Nat} {env : Env}

/-- an object of a class upon list is made, by its own __init__ -/
noncomputable def fMakeL (c : Addr) (init : DF) : DF := fun mvs mh => match init (.ref (mh.length + 1) :: mvs) (mh ++ [.attrs [], .inst c mh.length (some [])]) with
  | some (.none, mh') => some (.ref (mh.length + 1), mh')
  | _ => none

theorem under_call_ok {d : Nat} {A : Around} {c : Addr} {rest : List Value} (h : Aok (d + 1) A) : Aok d (A.under (.builtin "type.__call__" ⟨.ref c :: rest, []⟩)) := by
  have h1 : (Code.builtin "type.__call__" ⟨.ref c :: rest, []⟩).weight = 1 := by
    unfold Code.weight
    rfl
  have h2 : (Code.builtin "type.__call__" ⟨.ref c :: rest, []⟩).cUnits = 1 := rfl
  refine ⟨?_, ?_, h.handled⟩
  · have := h.depth; show A.depth + (Code.builtin "type.__call__" ⟨.ref c :: rest, []⟩).weight + 2 * d ≤ 900; omega
  · have := h.units; show A.units + (Code.builtin "type.__call__" ⟨.ref c :: rest, []⟩).cUnits + 16 * d ≤ 9000; omega

theorem RF_makeL (ok : C.Ok) {c fI : Addr} {init : DF} (hm : makesLIn C.K c = true) (hi : findIn C.K (.ref c) "__init__" = some (some (.ref fI))) (hf : typeIn C.K (.ref fI) = some (.type "function")) (hr : RF C d fI init) : RF C (d + 1) c (fMakeL c init) := by
  intro mvs mh mv mh' hfm ρ A s vs R ao I so hv hR
  unfold fMakeL at hfm
  split at hfm
  · rename_i mh1 hin
    cases hfm
    obtain ⟨hh, g, dr, t, os⟩ := s
    refine makeL_core (makesL_of (I.k ok) hm) (looks_findIn (I.k ok) hi) (fun self => bind_fn (I.k ok) self hf) ?_
    have I1 : Inv C (ρ.push hh.objs.size) (mh ++ [.attrs []]) (hh.push emptyDict) := I.push ⟨[], 0, rfl, .nil⟩
    have hid : (ρ.push hh.objs.size).ids[mh.length]? = some hh.objs.size := by rw [← I.len]; simp
    have I2 : Inv C ((ρ.push hh.objs.size).push (hh.push emptyDict).objs.size) ((mh ++ [.attrs []]) ++ [.inst c mh.length (some [])]) ((hh.push emptyDict).push (listInst c hh.objs.size)) := I1.push ⟨hh.objs.size, [], 0, hid, rfl, .nil⟩
    have x2 : Ext C ρ [] hh ((ρ.push hh.objs.size).push (hh.push emptyDict).objs.size) ((hh.push emptyDict).push (listInst c hh.objs.size)) := (Ext.push _ _ _).trans (Ext.push _ _ _)
    have hix : ((ρ.push hh.objs.size).push (hh.push emptyDict).objs.size).ids[mh.length + 1]? = some (hh.objs.size + 1) := by
      rw [← I.len, Heap.size_push]
      show ((ρ.ids ++ [hh.objs.size]) ++ [hh.objs.size + 1])[ρ.ids.length + 1]? = _
      rw [List.getElem?_append_right (by simp)]
      simp
    refine hr (by rw [List.append_assoc]; exact hin) (under_call_ok ao) I2 (so.heap _ _) (.cons (.ref' hix) (hv.mono x2.pre)) fun v ρ3 s3 x3 I3 so3 v3 => ?_
    exact ⟨v3.none_, hR _ ρ3 s3 (x2.trans x3) I3 so3 (.ref' (pre_get x3.pre hix))⟩
  · cases hfm

theorem RE_ccall0 (ok : C.Ok) {g : Str} {p pos : Pos} {c : Addr} {den : DF} (hg : C.mg g = some (.ref c)) (hx : env.kindOf g = some .globalImplicit) (hd : (g == ("__debug__" : Str)) = false)
    (hk : keepIn C.K (.ref c) = true) (hr : RF C d c den) : RE C d env (.Call (.Name g p) [] [] pos) (dCall den dL0) := by
  intro me mh mv mh' h ρ A s Q E ao I so F hQ
  unfold dCall dL0 at h
  simp only at h
  refine wpAny_Call_NameR (eval_glob ok hg hx hd I F ?_)
  refine callWith_K0 (I.k ok) hk ?_
  exact wpAny_call (hr h ao I so .nil fun v ρ2 s2 x2 I2 so2 v2 => hQ v ρ2 s2 x2 I2 so2 v2)
/-! ## statements upon attributes -/
noncomputable def dAsgAttr (st : MV → MV → MH → Option MH) (fv fo : D) : DS := fun me mh => match fv me mh with
  | some (v, mh1) => (match fo me mh1 with
    | some (a, mh2) => (match st a v mh2 with
      | some mh3 => some (.next, me, mh3)
      | none => none)
    | none => none)
  | none => none
theorem RS_asgAttr (ok : C.Ok) {c : Addr} {o value : PySem.Expr} {attr : Str} {p pos : Pos} {fv fo : D} (S : StoreCls C.K c) (ht : takerIn C.K c attr = some none) (hv : RE C d env value fv) (ho : RE C d env o fo)
    (hs : swapsWith value (some (.Attribute o attr p)) pos.line env = pure false := by rfl) : RS C d env (exec (.Assign [.Attribute o attr p] value pos) env) (dAsgAttr (setAttrD c attr) fv fo) := by
  intro me mh fl me' mh' hf ρ A s Q E ao I so F hQ
  unfold dAsgAttr at hf
  split at hf
  · rename_i v mh1 h1
    split at hf
    · rename_i a mh2 h2
      split at hf
      · rename_i mh3 h3
        cases hf
        refine plainObj_wpAny_Assign_Attribute (hv h1 ao I so F fun vv ρ1 s1 x1 I1 so1 v1 => ho h2 ao I1 so1 (F.ext0 x1) fun va ρ2 s2 x2 I2 so2 v2 => ?_) hs
        exact setAttr_ok ok S ht h3 I2 so2 v2 (v1.mono x2.pre) fun s3 x3 I3 so3 => hQ _ _ _ ((x1.trans x2).trans x3).wide I3 so3 (F.ext0 ((x1.trans x2).trans x3)) rfl
      · cases hf
    · cases hf
  · cases hf
noncomputable def dAugAttr (gt : Op1) (st : MV → MV → MH → Option MH) (oo : Op2) (fo fv : D) : DS := fun me mh => match fo me mh with
  | some (a, mh1) => (match gt a mh1 with
    | some (old, mh2) => (match fv me mh2 with
      | some (v, mh3) => (match oo old v mh3 with
        | some (nw, mh4) => (match st a nw mh4 with
          | some mh5 => some (.next, me, mh5)
          | none => none)
        | none => none)
      | none => none)
    | none => none)
  | none => none
theorem RS_augAttr (ok : C.Ok) {c : Addr} {o value : PySem.Expr} {attr : Str} {tpos pos : Pos} {op : Operator} {gt : Op1} {oo : Op2} {fo fv : D} (S : StoreCls C.K c) (ht : takerIn C.K c attr = some none) (ho : RE C d env o fo) (hg : RO1 C d (fun v => getAttr v attr true) gt)
    (hv : RE C d env value fv) (hop : RO2 C d (inplaceOp op) oo) : RS C d env (exec (.AugAssign (.Attribute o attr tpos) op value pos) env) (dAugAttr gt (setAttrD c attr) oo fo fv) := by
  intro me mh fl me' mh' hf ρ A s Q E ao I so F hQ
  unfold dAugAttr at hf
  split at hf
  · rename_i a mh1 h1
    split at hf
    · rename_i old mh2 h2
      split at hf
      · rename_i v mh3 h3
        split at hf
        · rename_i nw mh4 h4
          split at hf
          · rename_i mh5 h5
            cases hf
            refine wpAny_AugAssign_AttributeAny (ho h1 ao I so F fun va ρ1 s1 x1 I1 so1 v1 => hg h2 ao I1 so1 v1 fun vo ρ2 s2 x2 I2 so2 v2 => ?_)
            have x12 := x1.trans x2
            refine hv h3 ao I2 so2 (F.ext0 x12) fun vv ρ3 s3 x3 I3 so3 v3 => hop h4 ao I3 so3 (v2.mono x3.pre) v3 fun vn ρ4 s4 x4 I4 so4 v4 => ?_
            have x24 := x2.trans (x3.trans x4)
            refine setAttr_ok ok S ht h5 I4 so4 (v1.mono x24.pre) v4 fun s5 x5 I5 so5 => ?_
            have xx := x1.trans (x24.trans x5)
            exact hQ _ _ _ xx.wide I5 so5 (F.ext0 xx) rfl
          · cases hf
        · cases hf
      · cases hf
    · cases hf
  · cases hf
end Mine

namespace Mine
variable {C : Cx} {d : Nat} {env : Env}

/-! ## generator expressions over the pieces -/
/-- the pieces: pairs of texts -/
noncomputable def rowsOf : List MV → Option (List (Str × Str))
  | [] => some []
  | .tup [.str a, .str b] :: r => (rowsOf r).map ((a, b) :: ·)
  | _ :: _ => none

noncomputable def RowAt (h : Heap) (v : Value) (ab : Str × Str) : Prop := ∃ T n ta tb, v = .ref T ∧ h.get? T = some (tupO [.str ab.1 ta, .str ab.2 tb] n)
theorem rows_at {ρ : Wd} {mh : MH} {h : Heap} (I : Inv C ρ mh h) : ∀ {ms : List MV} {ws : List Value} {rows : List (Str × Str)}, VRs ρ ms ws → rowsOf ms = some rows →
    ws.length = rows.length ∧ ∀ (j : Nat) (v : Value) (ab : Str × Str), ws[j]? = some v → rows[j]? = some ab → RowAt h v ab
  | [], _, rows, hv, e => by cases hv; simp [rowsOf] at e; subst e; exact ⟨rfl, fun j v ab h => by simp at h⟩
  | m :: ms, _, rows, hv, e => by
    cases hv with
    | @cons _ v _ vs h1 h2 =>
      unfold rowsOf at e
      split at e
      · rename_i e0; cases e0
      · rename_i a b r e0
        cases e0
        obtain ⟨rs, hr, rfl⟩ := Option.map_eq_some_iff.mp e
        obtain ⟨hl, hrest⟩ := rows_at I h2 hr
        refine ⟨by simp [hl], fun j w ab hw hab => ?_⟩
        cases j with
        | zero =>
          simp at hw hab
          subst hw hab
          obtain ⟨T, ts, n, hT, rfl, hts⟩ := h1.tup_
          cases hts with
          | cons q1 q2 =>
            cases q2 with
            | cons q2 q3 =>
              cases q3
              obtain ⟨ta, rfl⟩ := q1.str_
              obtain ⟨tb, rfl⟩ := q2.str_
              exact ⟨T, n, ta, tb, rfl, I.fz _ hT⟩
        | succ j => exact hrest j w ab (by simpa using hw) (by simpa using hab)
      · cases e

noncomputable def addrsOf (ws : List Value) : List Addr := ws.filterMap fun v => match v with | .ref a => some a | _ => none

noncomputable def StAcc (it x : Addr) (ox : Obj) (ws : List Value) (rows : List (Str × Str)) (i : Nat) (h : Heap) : Prop :=
  h.IsListIter it x i ∧ h.get? x = some ox ∧ ∀ (j : Nat) (v : Value) (ab : Str × Str), ws[j]? = some v → rows[j]? = some ab → RowAt h v ab
noncomputable def PtAcc (rows : List (Str × Str)) (i : Nat) (vals : Array Value) : Prop := ∃ (ab : Str × Str) (ta tb : Tok), rows[i]? = some ab ∧ vals = #[.str ab.1 ta, .str ab.2 tb]
/-- the walk over the items of an object upon list -/
theorem walksAcc {it x : Addr} {ox : Obj} {ws : List Value} {n : Nat} {rows : List (Str × Str)} {A : Around} (hh : A.handled = none) (hd : ox.data = .seq ws.toArray n) (hlen : ws.length = rows.length) (hix : it ≠ x) (hiw : ∀ a ∈ addrsOf ws, it ≠ a) :
    WalksU C.prog C.w A it (it :: x :: addrsOf ws) [it] rows.length (PtAcc rows) (StAcc it x ox ws rows) (fun i T h => StAcc it x ox ws rows (i + 1) h ∧ T ∈ addrsOf ws) := by
  have mem : ∀ {j : Nat} {T : Addr}, ws[j]? = some (.ref T) → T ∈ addrsOf ws := fun {j T} e => List.mem_filterMap.mpr ⟨.ref T, List.mem_of_getElem? e, rfl⟩
  have rowKeep : ∀ {h h' : Heap} {j : Nat} {v : Value} {ab : Str × Str}, ws[j]? = some v → RowAt h v ab → (∀ b ∈ addrsOf ws, ∀ o, h.get? b = some o → h'.get? b = some o) → RowAt h' v ab := by
    rintro h h' j v ab hj ⟨T, k, ta, tb, rfl, ho⟩ hk
    exact ⟨T, k, ta, tb, rfl, hk T (mem hj) _ ho⟩
  have bump : ∀ {h h' : Heap} {i : Nat}, Heap.ExtBut it h h' → h'.IsListIter it x i → h.get? x = some ox → (∀ (j : Nat) (v : Value) (ab : Str × Str), ws[j]? = some v → rows[j]? = some ab → RowAt h v ab) →
      StAcc it x ox ws rows i h' := fun hs hit hx hr =>
    ⟨hit, hs _ _ (Ne.symm hix) hx, fun j v ab hj hab => rowKeep hj (hr j v ab hj hab) fun b hb o e => hs b o (fun z => hiw b hb z.symm) e⟩
  refine ⟨by simp, fun i h h' st hk => ?_, fun i s Q E hi st hQ => ?_, fun elts k pos i T s Q E hm hQ => ?_, fun i T h hm => ?_, fun s Q E st hQ => ?_, fun i s Q E st hQ => wpAny_pyIter_listiter st.1 hQ⟩
  · obtain ⟨⟨o, ho, r⟩, hx, hr⟩ := st
    exact ⟨⟨o, hk it (by simp) o ho, r⟩, hk x (by simp) _ hx, fun j v ab hj hab => rowKeep hj (hr j v ab hj hab) fun b hb => hk b (by simp [hb])⟩
  · obtain ⟨hit, hx, hr⟩ := st
    have hiw' : i < ws.length := by omega
    obtain ⟨T, k, ta, tb, hv, ho⟩ := hr i ws[i] rows[i] (List.getElem?_eq_getElem hiw') (List.getElem?_eq_getElem hi)
    have hTm : T ∈ addrsOf ws := mem (by rw [List.getElem?_eq_getElem hiw', hv])
    refine nextObj_item (C := C) hit hx hd (x := .ref T) (by simp [List.getElem?_eq_getElem hiw', hv]) fun h' hit' hs => ?_
    exact hQ T _ h' s.toks ⟨rows[i], ta, tb, List.getElem?_eq_getElem hi, rfl⟩ ⟨_, hs.extBut T _ (fun z => hiw T hTm z.symm) ho, rfl, k, rfl⟩ ⟨bump hs.extBut hit' hx hr, hTm⟩ fun b o hb e => hs.extBut b o (by simpa using hb) e
  · exact wpAny_letOwnedTupleGo_listiter hm.1.1 (hQ s.heap hm.1 fun b o _ e => e)
  · simp only [List.mem_singleton]
    exact fun z => hiw T hm.2 z.symm
  · obtain ⟨hit, hx, hr⟩ := st
    exact nextObj_end (C := C) hh hit hx hd (by simp [hlen]) fun h' hs => hQ h' s.toks fun b o hb e => hs b o (by simpa using hb) e
theorem passing_all (n : Nat) : passing (fun _ => true) n 0 = List.range n := by
  unfold passing
  simp

/-- what a piece's element gives -/
noncomputable def EltOk (C : Cx) (scope : Scope) (elt : PySem.Expr) (xa xb : Str) (okR : Str × Str → Prop) (G : Str × Str → Value → Prop) : Prop :=
  ∀ (A' : Around) (E' : Value → Shared → Prop) (cenv : Env) (s₂ : Shared) (m₂ : Str → Option Value) (ab : Str × Str) (ta tb : Tok), A'.handled = none → okR ab → cenv.scope = scope → cenv.globals = mainGlobals → cenv.builtins = builtinsNs →
    s₂.heap.Ns cenv.locals m₂ → m₂ xa = some (.str ab.1 ta) → m₂ xb = some (.str ab.2 tb) → s₂.heap.Ns mainGlobals C.mg → s₂.heap.Ns builtinsNs C.mb →
    wpAny C.M A' (eval elt cenv) (fun y s₃ => G ab y ∧ Keeps s₂ s₃) E' s₂

theorem gen_acc (ok : C.Ok) {elt : PySem.Expr} {xa xb : Str} {pa pb pt ip pos : Pos} {kt : Nat} {scope : Scope} {p : Addr × Addr} {c : Addr} (S : SubList C.K c) {okR : Str × Str → Prop} {G : Str × Str → Value → Prop}
    (hT : p ∈ C.T) (hgv : C.gv p.2 = none) (hcode : env.code = .ref p.1) (hco : scope.isCoroutine = false) (hclos : closureFor scope env = pure []) (hcell : ∀ y ∈ scope.names, y.2 ≠ .cell) (h0 : scope.names.lookup (".0" : Str) = some NameKind.local)
    (hxa : scope.names.lookup xa = some .local) (hxb : scope.names.lookup xb = some .local) (hab : xa ≠ xb) (hk : scope.kind = .function) (hself : env.kindOf "self" = some .local) (helt : EltOk C scope elt xa xb okR G)
    {me : ME} {mh : MH} {ρ : Wd} {A : Around} {s : Shared} {Q : Value → Shared → Prop} {E : Value → Shared → Prop} {x : Addr} {i dd : Nat} {ms : List MV} {rows : List (Str × Str)} (ao : Aok d A) (I : Inv C ρ mh s.heap) (so : SOk C s) (F : FR C ρ env me s.heap)
    (hx : ρ.ids[i]? = some x) (hm : ∃ m, s.heap.Ns env.locals m ∧ m "self" = some (.ref x)) (hi : mh[i]? = some (.inst c dd (some ms))) (hr : rowsOf ms = some rows) (hokR : ∀ ab ∈ rows, okR ab)
    (hQ : ∀ a fp wr gn St s₅, WalksS C.prog C.w A.in4 a fp wr (GenOnlyQ gn) rows.length (fun j y => ∃ ab, rows[j]? = some ab ∧ G ab y) St → St 0 s₅ → (∀ i s', St i s' → s'.TypeIs (.ref a) "generator") → a ∈ fp → (∀ b ∈ fp, b < s₅.heap.objs.size) →
      (∀ b ∈ wr, s.heap.get? b = none) → Ext C ρ [] s.heap ρ s₅.heap → Inv C ρ mh s₅.heap → SOk C s₅ → Q (.ref a) s₅) :
    wpAny C.M A (eval (.GeneratorExp elt [⟨.Tuple [.Name xa pa, .Name xb pb] kt pt, .Name "self" ip, [], 0⟩] scope pos) env) Q E s := by
  obtain ⟨m, hns, hms⟩ := hm
  obtain ⟨ox, hox, da, ws, n, hda, rfl, r⟩ := I.at hi hx
  obtain ⟨hlen, hrow⟩ := rows_at I r hr
  have e0 : s.heap.get? s.heap.objs.size = none := get_size _
  refine wpAny_GeneratorExp_walksQT ao.handled hco hclos hcell h0 hxa hxb hab hk ao.room (wpAny_Name (wpAny_loadName_local F.kind hself hns hms ?_) (by decide)) (fun _ => rfl)
  refine subIter ok S (I.k ok) hox rfl rfl ?_
  have kp : ∀ b o', s.heap.get? b = some o' → (s.heap.push { cls := .type "list_iterator", data := .fields #[.ref x, .int 0 0] }).get? b = some o' := fun b o' e => Heap.get?_push_of_some _ e
  have I1 : Inv C ρ mh (s.heap.push { cls := .type "list_iterator", data := .fields #[.ref x, .int 0 0] }) := I.junk kp
  have hit : (s.heap.push { cls := .type "list_iterator", data := .fields #[.ref x, .int 0 0] }).IsListIter s.heap.objs.size x 0 := ⟨_, Heap.get?_push_size _ rfl, rfl, rfl⟩
  generalize hH1 : s.heap.push { cls := .type "list_iterator", data := .fields #[.ref x, .int 0 0] } = H1 at kp I1 hit ⊢
  refine ⟨I1.nolimit ok, ?_⟩
  obtain ⟨ps, hok, _⟩ := I1.tab p hT
  have hgc : ∀ {Q' : Value → Shared → Prop} {q : Str} {tk : Tok} {A' : Around} {E' : Value → Shared → Prop}, (∀ code h' tk' ps', Heap.ExtBut p.2 H1 h' → CodeTab h' p.1 p.2 ps' → Q' code { s with heap := h', toks := tk' }) → wpAny C.M A' (genexprCode env pos q scope) Q' E' { s with heap := H1, toks := tk } := by
    intro Q' q tk A' E' hh
    cases hf : codeAmong pos ps.toList with
    | some cv => exact wpAny_genexprCode_hit hcode hok.1 hf (hh _ _ _ ps (fun b o _ e => e) hok)
    | none => exact wpAny_genexprCodeX hcode hok.1 hok.2 hf fun c' h' tk' e1 _ _ e2 _ e3 _ => hh _ _ _ _ e1 ⟨e2, e3⟩
  refine hgc fun code h2 tk2 ps2 hx2 hc2 => ?_
  have I2 : Inv C ρ mh h2 := I1.grow hT hx2 hc2 (fun pos q e => by rw [hgv] at e; cases e) (ok.tu p hT)
  have x12 : Ext C ρ [] s.heap ρ h2 := (Ext.all kp).trans (Ext.grow (mem_X hT) hx2 ⟨_, hc2.2.2⟩)
  obtain ⟨bm, ob, hbm, hbn, hbo, hbc, hbd, hbp, hbx⟩ := ok.mod
  refine wpAny_builtinsFor (m := C.mg) (by rw [F.glob]; exact I2.g ok) hbm hbn (I2.keep _ _ hbo hbx) hbc hbd hbp ?_
  have itn : C.base.get? s.heap.objs.size = none := (I.fresh e0).2
  have itP : s.heap.objs.size ≠ p.2 := fun z => I.not_x itn (z ▸ mem_X hT)
  have hit2 : h2.IsListIter s.heap.objs.size x 0 := let ⟨o, ho, r⟩ := hit; ⟨o, hx2 _ o itP ho, r⟩
  have xP : x ≠ p.2 := fun z => I.id_x (List.mem_of_getElem? hx) (z ▸ mem_X hT)
  have xkeep : h2.get? x = some { cls := .ref c, dict := some da, data := .seq ws.toArray n } := hx2 _ _ xP (kp _ _ hox)
  obtain ⟨hlen2, hrow2⟩ : ws.length = rows.length ∧ ∀ (j : Nat) (v : Value) (ab : Str × Str), ws[j]? = some v → rows[j]? = some ab → RowAt h2 v ab := rows_at I2 r hr
  have hadr : ∀ a ∈ addrsOf ws, ∃ (j : Nat) (v : Value) (ab : Str × Str), ws[j]? = some v ∧ rows[j]? = some ab ∧ v = Value.ref a := by
    intro a ha
    obtain ⟨v, hv, e⟩ := List.mem_filterMap.mp ha
    obtain ⟨j, hj, rfl⟩ := List.mem_iff_getElem.mp hv
    refine ⟨j, ws[j], rows[j], List.getElem?_eq_getElem hj, List.getElem?_eq_getElem (hlen2 ▸ hj), ?_⟩
    split at e
    · cases e; assumption
    · cases e
  have hadrLive : ∀ a ∈ addrsOf ws, ∃ o, s.heap.get? a = some o := by
    intro a ha
    obtain ⟨j, v, ab, hj, hab', rfl⟩ := hadr a ha
    obtain ⟨T, k, ta, tb, e, ho⟩ := hrow j _ ab hj hab'
    cases e; exact ⟨_, ho⟩
  have hix : s.heap.objs.size ≠ x := fun z => by rw [← z, e0] at hox; cases hox
  have hiw : ∀ a ∈ addrsOf ws, s.heap.objs.size ≠ a := fun a ha z => by obtain ⟨o, e⟩ := hadrLive a ha; rw [← z, e0] at e; cases e
  have sub2 : ∀ b o, s.heap.get? b = some o → ∃ o', h2.get? b = some o' := x12.live
  refine ⟨s.heap.objs.size, s.heap.objs.size :: x :: addrsOf ws, [s.heap.objs.size], rows.length, PtAcc rows, StAcc s.heap.objs.size x _ ws rows, _, fun _ => true, fun i y => ∃ ab, rows[i]? = some ab ∧ G ab y, rfl,
    fun A' hA' => walksAcc hA' rfl hlen hix hiw, fun i vals ⟨ab, ta, tb, _, e⟩ => ⟨_, _, e⟩, ⟨hit2, xkeep, hrow2⟩, ?_, I2.nolimit ok, ?_, ?_, ?_⟩
  · intro b hb
    rcases List.mem_cons.mp hb with rfl | hb
    · exact Heap.lt_size hit2.choose_spec.1
    · rcases List.mem_cons.mp hb with rfl | hb
      · exact Heap.lt_size xkeep
      · obtain ⟨o, e⟩ := hadrLive b hb
        obtain ⟨o', e'⟩ := sub2 b o e
        exact Heap.lt_size e'
  · intro hm
    rw [List.mem_singleton] at hm
    obtain ⟨mc, hn, _⟩ := I.nolimit ok
    obtain ⟨o, e⟩ := Ns.live hn
    rw [hm, e0] at e; cases e
  · intro href hhref
    have up : ∀ {s₂ : Shared}, (∀ b ∈ List.range h2.objs.size, b ∉ [s.heap.objs.size] → ∀ o, href.get? b = some o → s₂.heap.get? b = some o) → ∀ b o, b ≠ s.heap.objs.size → h2.get? b = some o → s₂.heap.get? b = some o :=
      fun hk b o hb e => hk b (List.mem_range.mpr (Heap.lt_size e)) (by simpa using hb) o (hhref b o e)
    refine ⟨fun A' E' i va vb s₂ m₂ _ _ _ _ _ _ => wpAny_tests_nil ⟨rfl, s₂.heap, s₂.toks, rfl, fun b o e => e⟩, fun A' E' i va vb s₂ m₂ hA hP _ hns2 hma hmb hk => ?_⟩
    obtain ⟨ab, ta, tb, hab', e⟩ := hP
    have e' : va = .str ab.1 ta ∧ vb = .str ab.2 tb := by
      have := congrArg Array.toList e
      simpa using this
    obtain ⟨rfl, rfl⟩ := e'
    have gne : mainGlobals ≠ s.heap.objs.size := fun z => by obtain ⟨o, e⟩ := Ns.live (I.g ok); rw [z, e0] at e; cases e
    have bne' : builtinsNs ≠ s.heap.objs.size := fun z => by obtain ⟨o, e⟩ := Ns.live (I.b ok); rw [z, e0] at e; cases e
    refine wpAny_mono (helt A' E' _ s₂ m₂ ab ta tb hA (hokR _ (List.mem_of_getElem? hab')) rfl (by show env.globals = _; exact F.glob) rfl hns2 hma hmb (Ns.keep1 (I2.g ok) fun o e => up hk _ o gne e) (Ns.keep1 (I2.b ok) fun o e => up hk _ o bne' e)) (fun y s₃ h3 => ⟨⟨ab, hab', h3.1⟩, h3.2⟩) fun _ _ e => e
  · intro a h5 tk gs hgb hag hsz5 hk5 W hat
    have x5 : Ext C ρ [] s.heap ρ h5 := x12.trans (Ext.all hk5)
    have I5 : Inv C ρ mh h5 := I2.junk hk5
    rw [passing_all] at W
    simp only [List.length_range] at W
    refine hQ a _ _ _ _ { heap := h5, gens := s.gens.push gs, drawn := s.drawn, toks := tk, os := s.os } ⟨W.sub, W.grefl, W.gtrans, W.frame, fun i s Q E hi st hQ' => W.item i s Q E hi st fun v s' hv => hQ' v s' (by
      obtain ⟨i', hi', ab, hab', hg⟩ := hv
      have : i' = i := by
        rw [List.getElem?_range hi] at hi'
        exact (Option.some.inj hi').symm
      subst this
      exact ⟨ab, hab', hg⟩), W.done, W.self⟩ hat (fun i s' st => st.1.typeIs) List.mem_cons_self ?_ ?_ x5 I5 ?_
    · intro b hb
      show b < h5.objs.size
      rw [hsz5]
      rcases List.mem_cons.mp hb with rfl | hb
      · exact Nat.lt_succ_self _
      · rcases List.mem_cons.mp hb with rfl | hb
        · exact Nat.lt_succ_of_lt hag
        · exact Nat.lt_succ_of_lt (Nat.lt_trans (List.mem_range.mp hb) hag)
    · intro b hb
      rcases List.mem_cons.mp hb with rfl | hb
      · cases e : s.heap.get? h2.objs.size with
        | none => rfl
        | some o => obtain ⟨o', e'⟩ := sub2 _ o e; exact absurd (Heap.lt_size e') (Nat.lt_irrefl _)
      · rw [List.mem_singleton] at hb; subst hb; exact e0
    · exact ⟨so.os, so.gens.push hgb⟩
end Mine

namespace Mine
variable {C : Cx} {d : Nat} {env : Env}

theorem args_sum2 (a b : Value) : argsOk "sum" ⟨[a, b], []⟩ := by unfold argsOk; kernel_rfl

theorem call_sum2 {prog : Program} {w : World} {A : Around} {E : Value → Shared → Prop} {s₂ : Shared} {tk : Tok} {Q : Value → Shared → Prop} {I : Addr} {fp wr : List Addr} {G : Array GenState → Array GenState → Prop} {n : Nat} {P : Nat → Value → Prop} {St : Nat → Shared → Prop}
    (W : WalksS prog w A.in1 I fp wr G n P St) (hst : St 0 s₂) (hfp : ∀ b ∈ fp, b < s₂.heap.objs.size) (val : Nat → Int) (hval : ∀ i v, P i v → ∃ t, v = .int (val i) t) (hQ : ∀ s' t', Moved wr G s₂ s' → Q (.int (preSum val n) t') s') :
    wpAny (model prog w) A (call (.builtin "sum") [.ref I, .int 0 tk]) Q E s₂ := by
  refine call_function_tree PySem.F.kind_sum PySem.F.plain_sum PySem.F.entry_sum (args_sum2 _ _) ?_
  unfold Builtin.«sum»
  simp only [List.length_cons, List.length_nil]
  rw [if_neg (by decide)]
  refine wpAny_bind (wpAny_of_eq (show Builtin.Builtins.bindParams "sum" ["start"] 0 ⟨[.int 0 tk], []⟩ = pure [some (.int 0 tk)] from rfl) ?_)
  refine wpAny_bind (W.self 0 s₂ _ _ hst ?_)
  have tail : ∀ (t0 : Tok) (s₃ : Shared), s₃.heap = s₂.heap → s₃.gens = s₂.gens → s₃.drawn = s₂.drawn → s₃.os = s₂.os → s₂.toks ≤ s₃.toks → wpAny (model prog w) A.in1 (do
      for (ty, what, hint) in [("str", "strings", "''"), ("bytes", "bytes", "b''"), ("bytearray", "bytearray", "b''")] do
        if ← isInstance (.int 0 t0) (.type ty) then
          rule "sum.start-refused"; raiseError "TypeError" s!"sum() can't sum {what} [use {hint}.join(seq) instead]"
      again (.builtin "sum.loop" ⟨[.ref I, ← newList [.int 0 t0], rawInt 0, rawInt 0], []⟩)) (fun fin s' => match fin with
      | .done f => (match (Except.ok f : Result) with | .ok (.ret v) => Q v s' | .ok _ => False | .error e => E e s')
      | .again c' => c'.quiet = true ∧ codeAny (model prog w) A c' (fun r s' => match r with | .ok (.ret v) => Q v s' | .ok _ => False | .error e => E e s') s') E s₃ := by
    rintro t0 ⟨h3, g3, d3, tk3, os3⟩ e1 e2 e3 e4 e5
    dsimp only at e1 e2 e3 e4 e5
    subst e1 e2 e3 e4
    simp only [List.forIn_cons, List.forIn_nil]
    refine wpAny_bind (wpAny_bind (wpAny_bind (wpAny_isInstance (T := "int") (b := false) (typeIs_int _ _ _) PySem.sub_int_str ?_)))
    simp only [Bool.false_eq_true, if_false]
    refine wpAny_pure (wpAny_bind (wpAny_bind (wpAny_isInstance (T := "int") (b := false) (typeIs_int _ _ _) PySem.sub_int_bytes ?_)))
    simp only [Bool.false_eq_true, if_false]
    refine wpAny_pure (wpAny_bind (wpAny_bind (wpAny_isInstance (T := "int") (b := false) (typeIs_int _ _ _) PySem.sub_int_bytearray ?_)))
    simp only [Bool.false_eq_true, if_false]
    refine wpAny_pure (wpAny_pure ?_)
    refine wpAny_bind (wpAny_newObj_type ?_)
    have hSf : s₂.heap.objs.size ∉ fp := fun hm => Nat.lt_irrefl _ (hfp _ hm)
    refine wpAny_pure ⟨plainId_quiet PySem.F.plain_sum_loop _, codeAny_sum_loopAnyS W val hval s₂.heap.objs.size hSf n 0 _ t0 0 0 (.inl rfl) rfl (Nat.zero_le _)
      (W.frame 0 s₂ _ _ hst e5 fun b _ o e => Heap.get?_push_of_some _ e) (Heap.get?_push_size _ rfl) fun s' t' hm => ?_⟩
    refine hQ s' t' ?_
    exact Moved.drop_new hm e5
  dsimp only
  rw [if_pos (by rfl)]
  refine wpAny_bind (wpAny_rule (wpAny_bind (wpAny_mkInt (wpAny_bind (wpAny_pure ?_)))))
  exact tail _ _ rfl rfl rfl rfl (Nat.le_succ _)

/-! ## the length of an _Accumulator -/
noncomputable def lenRows (rows : List (Str × Str)) : Int := (rows.map fun ab => ((ab.1.length : Int) + (ab.2.length : Int))).sum
theorem preSum_rows (rows : List (Str × Str)) : ∀ n, n ≤ rows.length → preSum (fun j => match rows[j]? with | some ab => (ab.1.length : Int) + (ab.2.length : Int) | none => 0) n = lenRows (rows.take n)
  | 0, _ => by simp [preSum, lenRows]
  | n + 1, h => by
    have hn : n < rows.length := h
    unfold preSum
    rw [preSum_rows rows n (by omega), List.getElem?_eq_getElem hn, List.take_succ, List.getElem?_eq_getElem hn]
    show _ = lenRows (rows.take n ++ [rows[n]])
    unfold lenRows
    rw [List.map_append, List.sum_append]
    simp only [List.map_cons, List.map_nil, List.sum_cons, List.sum_nil, Int.add_zero]

/-- addresses of no concern changed -/
theorem Inv.extMany {ρ : Wd} {mh : MH} {h h' : Heap} (I : Inv C ρ mh h) {wr : List Addr} (hw : ∀ b ∈ wr, ¬ ρ.has b ∧ C.base.get? b = none) (hk : ∀ b o, b ∉ wr → h.get? b = some o → h'.get? b = some o) : Inv C ρ mh h' := by
  have bl : ∀ b o, C.base.get? b = some o → b ∉ wr := fun b o e hm => by rw [(hw b hm).2] at e; cases e
  refine ⟨I.len, I.nd, fun i mo hi => ?_, fun p hm => ?_, I.sep, I.st, I.new, I.newf, fun b o e hx => hk b o (bl b o e) (I.keep b o e hx), I.tabKeep fun p hp b o hb' e => hk b o ?_ e, I.xb, I.pw⟩
  · obtain ⟨a, o, h1, h2, h3⟩ := I.obj i mo hi
    exact ⟨a, o, h1, hk a o (fun hm => (hw a hm).1 (.inl (List.mem_of_getElem? h1))) h2, h3⟩
  · exact hk _ _ (fun hm' => (hw _ hm').1 (.inr ⟨p.2, hm⟩)) (I.fz p hm)
  · obtain ⟨⟨o1, e1⟩, ⟨o2, e2⟩, _⟩ := I.xb p hp
    rcases hb' with rfl | rfl
    · exact bl _ _ e1
    · exact bl _ _ e2

noncomputable def dLenAcc (c : Addr) (xs : Nat) : D := fun me mh => match me.lookup xs with
  | some (.ref i) => (match mh[i]? with
    | some (.inst c' dd (some ms)) => if c' = c then (match mh[dd]?, rowsOf ms with
      | some (.attrs l), some rows => (match l.lookup ("_initial_size" : Str) with
        | some (.int k) => if k = 0 ∧ rows.length ≤ 100000 ∧ (rows.all fun ab => decide (ab.1.length ≤ sizeLine) && decide (ab.2.length ≤ sizeLine)) = true then some (.int (lenRows rows), mh) else none
        | _ => none)
      | _, _ => none) else none
    | _ => none)
  | _ => none

theorem RE_sumAcc (ok : C.Ok) {elt : PySem.Expr} {xs : Nat} {xa xb : Str} {pf pa pb pt ip ap at_ gpos pos : Pos} {kt : Nat} {scope : Scope} {p : Addr × Addr} {c : Addr} (S : SubList C.K c)
    (hg : C.mg "sum" = none) (hb : C.mb "sum" = some (.builtin "sum")) (hsum : env.kindOf "sum" = some .globalImplicit) (hxs : C.tbl[xs]? = some "self")
    (hT : p ∈ C.T) (hgv : C.gv p.2 = none) (hcode : env.code = .ref p.1) (hco : scope.isCoroutine = false) (hclos : closureFor scope env = pure []) (hcell : ∀ y ∈ scope.names, y.2 ≠ .cell) (h0 : scope.names.lookup (".0" : Str) = some NameKind.local)
    (hxa : scope.names.lookup xa = some .local) (hxb : scope.names.lookup xb = some .local) (hab : xa ≠ xb) (hk : scope.kind = .function) (hself : env.kindOf "self" = some .local)
    (helt : EltOk C scope elt xa xb (fun ab => ab.1.length ≤ sizeLine ∧ ab.2.length ≤ sizeLine) (fun ab y => ∃ t, y = .int ((ab.1.length : Int) + (ab.2.length : Int)) t))
    (hdd : hasDictIn C.K c = true) (hf : findIn C.K (.ref c) "_initial_size" = some none)
    (he : eval (.Attribute (.Name "self" ap) "_initial_size" at_) env = (do
      let o ← eval (.Name "self" ap) env
      standAt at_.atName
      let r ← holding [o] (getAttr o "_initial_size" true)
      letTemporaryGo (.Name "self" ap) o r
      pure r) := by with_unfolding_all rfl) :
    RE C d env (.Call (.Name "sum" pf) [.GeneratorExp elt [⟨.Tuple [.Name xa pa, .Name xb pb] kt pt, .Name "self" ip, [], 0⟩] scope gpos, .Attribute (.Name "self" ap) "_initial_size" at_] [] pos) (dLenAcc c xs) := by
  intro me mh mv mh' h ρ A s Q E ao I so F hQ
  unfold dLenAcc at h
  split at h
  · rename_i i hme
    split at h
    · rename_i c' dd ms hi
      split at h
      · rename_i hc
        subst hc
        split at h
        · rename_i l rows hl hr
          split at h
          · rename_i k hk0
            split at h
            · rename_i hcond
              obtain ⟨rfl, hlen, hall⟩ := hcond
              cases h
              obtain ⟨rv, hv1, hv2⟩ := F.var xs _ "self" hme hxs
              obtain ⟨x, hx, rfl⟩ := hv1.ref_
              unfold VarAt at hv2
              rw [hself] at hv2
              refine wpAny_Call_NameR (eval_bui ok hg hb hsum (by decide) I F ?_)
              refine PyProof.Rows.callWith_builtin1 (PyProof.Rows.args_cons ?_ rfl) rfl rfl
              refine gen_acc ok S hT hgv hcode hco hclos hcell h0 hxa hxb hab hk hself helt ao I so F hx hv2 hi hr (fun ab hm => by
                have := List.all_eq_true.mp hall ab hm
                simpa using this) fun a fp wr gn St s5 W hst hTg haf hfp hwr x5 I5 so5 => ?_
              have F5 := F.ext0 x5
              obtain ⟨rv5, hv5, hv6⟩ := F5.var xs _ "self" hme hxs
              obtain ⟨x', hx', rfl⟩ := hv5.ref_
              rw [hx] at hx'; cases hx'
              unfold VarAt at hv6
              rw [hself] at hv6
              obtain ⟨m5, hns5, hm5⟩ := hv6
              refine PyProof.Rows.args_cons (Attribute_any_ (wpAny_Name (wpAny_loadName_local F.kind hself hns5 hm5 ?_) (by decide)) he) rfl
              obtain ⟨ox, od, IA, ns⟩ := inst_at I5 hi hl hx
              have q := ns.look "_initial_size"
              rw [hk0] at q
              obtain ⟨rv0, q1, q2⟩ := q
              obtain ⟨tk0, rfl⟩ := q2.int_
              refine get_valueP (I5.k ok) IA S.plain (findObj_own hdd hf rfl q1) rfl ?_
              refine PyProof.Rows.args_nil ?_
              refine call_sum2 W.of_in1.of_in1.of_in1 (W.frame 0 s5 s5.heap _ hst (Nat.le_succ _) fun _ _ _ e => e) hfp (fun j => match rows[j]? with | some ab => (ab.1.length : Int) + (ab.2.length : Int) | none => 0)
                (fun j v hv => by obtain ⟨ab, hab', t, rfl⟩ := hv; exact ⟨t, by rw [hab']⟩) fun s6 t6 hm6 => ?_
              rw [preSum_rows rows _ (Nat.le_refl _), List.take_length]
              have k6 : ∀ b o o', s.heap.get? b = some o → s5.heap.get? b = some o' → s6.heap.get? b = some o' := fun b o o' e e' => hm6.heap b o' (fun hw => by rw [hwr b hw] at e; cases e) e'
              have hwr2 : ∀ b ∈ wr, ¬ ρ.has b ∧ C.base.get? b = none := fun b hb => I.fresh (hwr b hb)
              have I6 : Inv C ρ mh s6.heap := I5.extMany hwr2 hm6.heap
              have x6 : Ext C ρ [] s.heap ρ s6.heap := by
                refine ⟨.refl ρ, fun b o e hb hx hF => k6 b o o e (x5.keep b o e hb hx hF), fun a ha => .inl ha, fun a ha => .inl ha, fun b o e => ?_⟩
                obtain ⟨o', e'⟩ := x5.live b o e
                exact ⟨o', hm6.heap b o' (fun hw => by rw [hwr b hw] at e; cases e) e'⟩
              exact hQ _ ρ s6 x6 I6 ⟨hm6.os.trans so5.os, hm6.gens.bare so5.gens⟩ .int'
            · cases h
          · cases h
        · cases h
      · cases h
    · cases h
  · cases h
end Mine

namespace Mine
variable {C : Cx} {d : Nat} {env : Env}

theorem eltLen {scope : Scope} {xa xb : Str} {pb p1 p2 p3 p4 p5 p6 : Pos} (hk : scope.kind = .function) (hxa : scope.names.lookup xa = some .local) (hxb : scope.names.lookup xb = some .local) (hl : scope.names.lookup ("len" : Str) = some .globalImplicit)
    (hda : (xa == ("__debug__" : Str)) = false) (hdb : (xb == ("__debug__" : Str)) = false) (hg : C.mg "len" = none) (hb : C.mb "len" = some (.builtin "len")) :
    EltOk C scope (.BinOp (.Call (.Name "len" p1) [.Name xa p2] [] p3) .Add (.Call (.Name "len" p4) [.Name xb p5] [] p6) pb) xa xb (fun ab => ab.1.length ≤ sizeLine ∧ ab.2.length ≤ sizeLine) (fun ab y => ∃ t, y = .int ((ab.1.length : Int) + (ab.2.length : Int)) t) := by
  intro A' E' cenv s₂ m₂ ab ta tb hA hok hsc hgl hbu hns hma hmb hG hB
  have kf : cenv.scope.kind = .function := by rw [hsc]; exact hk
  have ka : cenv.kindOf xa = some .local := by show cenv.scope.names.lookup xa = _; rw [hsc]; exact hxa
  have kb : cenv.kindOf xb = some .local := by show cenv.scope.names.lookup xb = _; rw [hsc]; exact hxb
  have kl : cenv.kindOf "len" = some .globalImplicit := by show cenv.scope.names.lookup ("len" : Str) = _; rw [hsc]; exact hl
  have fit : ∀ n : Nat, n ≤ sizeLine → (n : Int) < 2 ^ 63 := fun n h => by
    have : sizeLine = 16777216 := rfl
    omega
  have gl : ∀ {s₃ : Shared} {p : Pos} {Q : Value → Shared → Prop}, s₃.heap = s₂.heap → Q (.builtin "len") s₃ → wpAny C.M A' (eval (.Name "len" p) cenv) Q E' s₃ := fun e hq =>
    Calls.Name_function_global kf kl (Calls.loadGlobal_builtin (by rw [hgl, e]; exact hG) hg (by rw [hbu, e]; exact hB) hb hq) (by decide)
  refine wpAny_BinOp (wpAny_Call_NameR (gl rfl ?_))
  refine PyProof.Rows.callWith_builtin1 (PyProof.Rows.args_cons (wpAny_Name (wpAny_loadName_local kf ka hns hma ?_) hda) rfl) rfl rfl
  refine PyProof.Rows.args_nil (PySem.P.len_str (Int.not_le.mpr (fit _ hok.1)) ?_)
  refine wpAny_Call_NameR (gl rfl ?_)
  refine PyProof.Rows.callWith_builtin1 (PyProof.Rows.args_cons (wpAny_Name (wpAny_loadName_local kf kb hns hmb ?_) hdb) rfl) rfl rfl
  refine PyProof.Rows.args_nil (PySem.P.len_str (Int.not_le.mpr (fit _ hok.2)) ?_)
  refine add_int ?_
  exact ⟨⟨_, rfl⟩, s₂.heap, _, rfl, fun b o e => e⟩

theorem eltJoin {scope : Scope} {xa xb g : Str} {p1 p2 p3 p4 p5 p6 : Pos} {kt : Nat} {tg : Tok} (hk : scope.kind = .function) (hxa : scope.names.lookup xa = some .local) (hxb : scope.names.lookup xb = some .local) (hl : scope.names.lookup g = some .globalImplicit)
    (hda : (xa == ("__debug__" : Str)) = false) (hdb : (xb == ("__debug__" : Str)) = false) (hdg : (g == ("__debug__" : Str)) = false) (hg : C.mg g = some (.str ⟨#[]⟩ tg))
    (he : ∀ cenv : Env, ∃ pl, attributeBase (.Name g p1) "join" cenv (eval (.Name g p1) cenv) = eval (.Name g p1) cenv ∧ eval (.Call (.Attribute (.Name g p1) "join" p2) [.Tuple [.Name xa p3, .Name xb p4] kt p5] [] p6) cenv = (do
      let ov ← attributeBase (.Name g p1) "join" cenv (eval (.Name g p1) cenv)
      standAt p2.atName
      let (f, first) ← holding [ov] (getMethod ov "join" pl)
      callWith p6 f first (backTo p6 (starEach [.Tuple [.Name xa p3, .Name xb p4] kt p5] cenv)) []) := by intro cenv; exact ⟨_, rfl, rfl⟩) :
    EltOk C scope (.Call (.Attribute (.Name g p1) "join" p2) [.Tuple [.Name xa p3, .Name xb p4] kt p5] [] p6) xa xb (fun ab => ab.1.length + ab.2.length ≤ 16777216) (fun ab y => ∃ t, y = .str (Txt.join ⟨#[]⟩ [ab.1, ab.2]) t) := by
  intro A' E' cenv s₂ m₂ ab ta tb hA hok hsc hgl hbu hns hma hmb hG hB
  have kf : cenv.scope.kind = .function := by rw [hsc]; exact hk
  have ka : cenv.kindOf xa = some .local := by show cenv.scope.names.lookup xa = _; rw [hsc]; exact hxa
  have kb : cenv.kindOf xb = some .local := by show cenv.scope.names.lookup xb = _; rw [hsc]; exact hxb
  have kl : cenv.kindOf g = some .globalImplicit := by show cenv.scope.names.lookup g = _; rw [hsc]; exact hl
  obtain ⟨pl, hbase, he⟩ := he cenv
  rw [he, hbase]
  refine wpAny_bind (Calls.Name_function_global kf kl (Calls.loadGlobal_global (by rw [hgl]; exact hG) hg ?_) hdg)
  refine wpAny_bind (wpAny_standAt (wpAny_bind (wpAny_holding (getMethod_builtin (id := "str.join") (typeIs_str _ _ _) PySem.F.plainAttrs_str PySem.F.slot_str_join PySem.F.type_str_join (fun a e => by cases e) ?_))))
  dsimp only
  refine Calls.callWith_builtin rfl (Calls.evalArgs_plain ?_)
  refine PyProof.Rows.args_cons (PyProof.Rows.Tuple_ (PyProof.Rows.args_cons (wpAny_Name (wpAny_loadName_local kf ka hns hma ?_) hda) rfl)) rfl
  refine PyProof.Rows.args_cons (wpAny_Name (wpAny_loadName_local kf kb hns hmb ?_) hdb) rfl
  refine PyProof.Rows.args_nil (wpAny_newTuple ?_ (by show 2 ≤ sizeLine; decide))
  refine PyProof.Rows.args_nil ?_
  refine PyProof.Rows.join_tuple (items := #[.str ab.1 ta, .str ab.2 tb]) (ys := [ab.1, ab.2]) ⟨_, Heap.get?_push_size _ rfl, rfl, _, rfl⟩ ?_ (by simp; exact hok) fun t' k => ⟨⟨_, rfl⟩, _, _, rfl, fun b o e => Heap.get?_push_of_some _ e⟩
  exact .cons _ _ (.cons _ _ .nil)

noncomputable def txtJ (a b : Str) : Str := Txt.join ⟨#[]⟩ [a, b]
/-- the pieces end to end -/
noncomputable def strRows (rows : List (Str × Str)) : Str := Txt.join ⟨#[]⟩ (rows.map fun ab => txtJ ab.1 ab.2)
noncomputable def dStrAcc (c : Addr) (xs : Nat) : D := fun me mh => match me.lookup xs with
  | some (.ref i) => (match mh[i]? with
    | some (.inst c' _ (some ms)) => if c' = c then (match rowsOf ms with
      | some rows => if rows.length ≤ 100000 ∧ (rows.all fun ab => decide (ab.1.length + ab.2.length ≤ 16777216)) = true ∧ JoinOk ⟨#[]⟩ (rows.map fun ab => txtJ ab.1 ab.2) = true then some (.str (strRows rows), mh) else none
      | _ => none) else none
    | _ => none)
  | _ => none

theorem items_rows {rows : List (Str × Str)} {l : List (Str × Tok)} (h : ItemsOf (fun j y => ∃ ab, rows[j]? = some ab ∧ ∃ t, y = Value.str (txtJ ab.1 ab.2) t) (strValues l).toArray rows.length) : l.map (·.1) = rows.map fun ab => txtJ ab.1 ab.2 := by
  obtain ⟨hl, hi⟩ := h
  have hl' : l.length = rows.length := by simpa [strValues] using hl
  refine List.ext_getElem? fun j => ?_
  by_cases hj : j < l.length
  · obtain ⟨ab, hab, t, e⟩ := hi j (.str l[j].1 l[j].2) (by simp [strValues, hj])
    have e' : l[j].1 = txtJ ab.1 ab.2 := by injection e
    simp [List.getElem?_map, hab, List.getElem?_eq_getElem hj, e']
  · rw [List.getElem?_eq_none (by simpa using hj), List.getElem?_eq_none (by simp; omega)]

theorem RE_joinAcc (ok : C.Ok) {elt : PySem.Expr} {xs : Nat} {g xa xb : Str} {tg : Tok} {pf pj pa pb pt ip gpos pos : Pos} {kt : Nat} {scope : Scope} {p : Addr × Addr} {c : Addr} {pl : Sem Bool} (S : SubList C.K c)
    (hg : C.mg g = some (.str ⟨#[]⟩ tg)) (hgk : env.kindOf g = some .globalImplicit) (hdg : (g == ("__debug__" : Str)) = false) (hxs : C.tbl[xs]? = some "self")
    (hT : p ∈ C.T) (hgv : C.gv p.2 = none) (hcode : env.code = .ref p.1) (hco : scope.isCoroutine = false) (hclos : closureFor scope env = pure []) (hcell : ∀ y ∈ scope.names, y.2 ≠ .cell) (h0 : scope.names.lookup (".0" : Str) = some NameKind.local)
    (hxa : scope.names.lookup xa = some .local) (hxb : scope.names.lookup xb = some .local) (hab : xa ≠ xb) (hk : scope.kind = .function) (hself : env.kindOf "self" = some .local)
    (helt : EltOk C scope elt xa xb (fun ab => ab.1.length + ab.2.length ≤ 16777216) (fun ab y => ∃ t, y = .str (Txt.join ⟨#[]⟩ [ab.1, ab.2]) t))
    (hbase : attributeBase (.Name g pf) "join" env (eval (.Name g pf) env) = eval (.Name g pf) env)
    (he : eval (.Call (.Attribute (.Name g pf) "join" pj) [.GeneratorExp elt [⟨.Tuple [.Name xa pa, .Name xb pb] kt pt, .Name "self" ip, [], 0⟩] scope gpos] [] pos) env = (do
      let ov ← attributeBase (.Name g pf) "join" env (eval (.Name g pf) env)
      standAt pj.atName
      let (f, first) ← holding [ov] (getMethod ov "join" pl)
      callWith pos f first (backTo pos (starEach [.GeneratorExp elt [⟨.Tuple [.Name xa pa, .Name xb pb] kt pt, .Name "self" ip, [], 0⟩] scope gpos] env)) []) := by rfl) :
    RE C d env (.Call (.Attribute (.Name g pf) "join" pj) [.GeneratorExp elt [⟨.Tuple [.Name xa pa, .Name xb pb] kt pt, .Name "self" ip, [], 0⟩] scope gpos] [] pos) (dStrAcc c xs) := by
  intro me mh mv mh' h ρ A s Q E ao I so F hQ
  unfold dStrAcc at h
  split at h
  · rename_i i hme
    split at h
    · rename_i c' dd ms hi
      split at h
      · rename_i hc
        subst hc
        split at h
        · rename_i rows hr
          split at h
          · rename_i hcond
            obtain ⟨hlen, hall, hjok⟩ := hcond
            cases h
            obtain ⟨rv, hv1, hv2⟩ := F.var xs _ "self" hme hxs
            obtain ⟨x, hx, rfl⟩ := hv1.ref_
            unfold VarAt at hv2
            rw [hself] at hv2
            rw [he, hbase]
            refine wpAny_bind (eval_glob ok hg hgk hdg I F ?_)
            refine wpAny_bind (wpAny_standAt (wpAny_bind (wpAny_holding (getMethod_builtin (id := "str.join") (typeIs_str _ _ _) PySem.F.plainAttrs_str PySem.F.slot_str_join PySem.F.type_str_join (fun a e => by cases e) ?_))))
            dsimp only
            have fin : wpAny C.M A (spliced (backTo pos (starEach [.GeneratorExp elt [⟨.Tuple [.Name xa pa, .Name xb pb] kt pt, .Name "self" ip, [], 0⟩] scope gpos] env))) (fun ws s2 => wpAny C.M A (call (.builtin "str.join") ([.str ⟨#[]⟩ tg] ++ ws)) Q E s2) E s → wpAny C.M A (callWith pos (.builtin "str.join") [.str ⟨#[]⟩ tg] (backTo pos (starEach [.GeneratorExp elt [⟨.Tuple [.Name xa pa, .Name xb pb] kt pt, .Name "self" ip, [], 0⟩] scope gpos] env)) []) Q E s := by
              intro hh
              have hs : starEach [.GeneratorExp elt [⟨.Tuple [.Name xa pa, .Name xb pb] kt pt, .Name "self" ip, [], 0⟩] scope gpos] env = (false, eval (.GeneratorExp elt [⟨.Tuple [.Name xa pa, .Name xb pb] kt pt, .Name "self" ip, [], 0⟩] scope gpos) env) :: starEach [] env := rfl
              rw [hs] at hh ⊢
              exact Calls.callWith_builtin rfl (Calls.evalArgs_plain hh)
            refine fin (PyProof.Rows.args_cons ?_ rfl)
            refine gen_acc ok S hT hgv hcode hco hclos hcell h0 hxa hxb hab hk hself helt ao I so F hx hv2 hi hr (fun ab hm => by
              have := List.all_eq_true.mp hall ab hm
              simpa using this) fun a fp wr gn St s5 W hst hTg haf hfp hwr x5 I5 so5 => ?_
            refine PyProof.Rows.args_nil ?_
            refine SC.joinGen W.of_in1.of_in1 hTg hst hfp haf (fun j v hv => by obtain ⟨ab, _, t, rfl⟩ := hv; exact ⟨_, _, rfl⟩) (fun s6 l hm6 hit => ?_) (Nat.le_trans hlen (by decide))
            have hl := items_rows hit
            rw [hl]
            refine ⟨hjok, fun t' k => ?_⟩
            have hwr2 : ∀ b ∈ wr, ¬ ρ.has b ∧ C.base.get? b = none := fun b hb => I.fresh (hwr b hb)
            have I6 : Inv C ρ mh s6.heap := I5.extMany hwr2 hm6.heap
            have x6 : Ext C ρ [] s.heap ρ s6.heap := by
              refine ⟨.refl ρ, fun b o e hb hx hF => hm6.heap b o (fun hw => by rw [hwr b hw] at e; cases e) (x5.keep b o e hb hx hF), fun a ha => .inl ha, fun a ha => .inl ha, fun b o e => ?_⟩
              obtain ⟨o', e'⟩ := x5.live b o e
              exact ⟨o', hm6.heap b o' (fun hw => by rw [hwr b hw] at e; cases e) e'⟩
            exact hQ _ ρ { s6 with toks := k } x6 I6 ⟨hm6.os.trans so5.os, hm6.gens.bare so5.gens⟩ .str'
          · cases h
        · cases h
      · cases h
    · cases h
  · cases h
end Mine

namespace Mine
variable {C : Cx} {d : Nat} {env : Env}

/-! ## slices -/
noncomputable def RP (C : Cx) (d : Nat) (env : Env) : Option PySem.Expr → Option D → Prop
  | none, none => True
  | some e, some f => RE C d env e f
  | _, _ => False
noncomputable def dPart : Option D → ME → MH → Option (Option Int × MH)
  | none, _, mh => some (none, mh)
  | some f, me, mh => match f me mh with
    | some (.int i, mh1) => some (some i, mh1)
    | _ => none
noncomputable def pickL (vs : List MV) (lo hi : Option Int) : List MV := (sliceRange (sliceBounds lo hi none vs.length).1 (sliceBounds lo hi none vs.length).2.1 (sliceBounds lo hi none vs.length).2.2).filterMap (vs[·]?)
theorem VRs.pick {ρ : Wd} {ms : List MV} {ws : List Value} (r : VRs ρ ms ws) : ∀ js : List Nat, VRs ρ (js.filterMap (ms[·]?)) (js.filterMap (ws[·]?))
  | [] => .nil
  | j :: js => by
    cases hj : ms[j]? with
    | none => rw [List.filterMap_cons_none hj, List.filterMap_cons_none (r.get_none hj)]; exact VRs.pick r js
    | some m =>
      obtain ⟨w, hw, hv⟩ := r.get hj
      rw [List.filterMap_cons_some hj, List.filterMap_cons_some hw]
      exact .cons hv (VRs.pick r js)

theorem part_ok {e : Option PySem.Expr} {f : Option D} (hp : RP C d env e f) {me : ME} {mh mh' : MH} {r : Option Int} (h : dPart f me mh = some (r, mh')) {ρ : Wd} {A : Around} {s : Shared} {Q : Value → Shared → Prop} {E : Value → Shared → Prop} (ao : Aok d A) (I : Inv C ρ mh s.heap) (so : SOk C s) (F : FR C ρ env me s.heap)
    (hQ : ∀ v ρ' s' l, Ext C ρ [] s.heap ρ' s'.heap → Inv C ρ' mh' s'.heap → SOk C s' → v = partValue l → l.map (·.1) = r → IsPart v r → Q v s') : wpAny C.M A (evalPart e env) Q E s := by
  cases e with
  | none =>
    cases f with
    | none => cases h; exact wpAny_pure (hQ _ _ _ none (Ext.refl _ _ _) I so rfl rfl .none)
    | some f => exact hp.elim
  | some e =>
    cases f with
    | none => exact hp.elim
    | some f =>
      simp only [dPart] at h
      split at h
      · rename_i hf
        cases h
        rw [evalPart_some]
        refine hp hf ao I so F fun v ρ1 s1 x1 I1 so1 v1 => ?_
        obtain ⟨t, rfl⟩ := v1.int_
        exact hQ _ _ _ (some (_, t)) x1 I1 so1 rfl rfl (.int _ _)
      · cases h

noncomputable def dSliceL (fo : D) (lo hi : Option D) : D := fun me mh => match fo me mh with
  | some (.lst vs, mh1) => (match dPart lo me mh1 with
    | some (l, mh2) => (match dPart hi me mh2 with
      | some (u, mh3) => if vs.length ≤ 100000 then some (.lst (pickL vs l u), mh3) else none
      | none => none)
    | none => none)
  | some (.ref i, mh1) => (match dPart lo me mh1 with
    | some (l, mh2) => (match dPart hi me mh2 with
      | some (u, mh3) => (match mh3[i]? with
        | some (.list vs) => if vs.length ≤ 100000 then some (.lst (pickL vs l u), mh3) else none
        | _ => none)
      | none => none)
    | none => none)
  | _ => none
theorem RE_sliceL {value : PySem.Expr} {lower upper : Option PySem.Expr} {p pos : Pos} {fo : D} {lo hi : Option D} (ho : RE C d env value fo) (hl : RP C d env lower lo) (hu : RP C d env upper hi)
    (ht : ∀ o r, letTemporaryGo value o r = pure () := by intro _ _; rfl) : RE C d env (.Subscript value (.Slice lower upper none p) pos) (dSliceL fo lo hi) := by
  intro me mh mv mh' h ρ A s Q E ao I so F hQ
  unfold dSliceL at h
  split at h
  · rename_i vs mh1 h1
    split at h
    · rename_i l mh2 h2
      split at h
      · rename_i u mh3 h3
        split at h
        · rename_i hlen
          cases h
          refine wpAny_Subscript_Slice (T := "list") slot_list_getitem.lookup (ho h1 ao I so F fun vo ρ1 s1 x1 I1 so1 v1 => wpAny_Slice (part_ok hl h2 ao I1 so1 (F.ext0 x1) fun vl ρ2 s2 ll x2 I2 so2 _ _ pl => part_ok hu h3 ao I2 so2 (F.ext0 (x1.trans x2)) fun vu ρ3 s3 lu x3 I3 so3 _ _ pu => ?_)) ht
          rw [evalPart_none]
          refine wpAny_pure ?_
          obtain ⟨a, ws, n, ea, rfl, r⟩ := (v1.mono (x2.trans x3).pre).lst_
          have kp : ∀ b o', s3.heap.get? b = some o' → (s3.heap.push { cls := .type "slice", data := .fields #[vl, vu, .none] }).get? b = some o' := fun b o' e => Heap.get?_push_of_some _ e
          have I4 := I3.junk kp
          have hlist := isList_of (I4.fz _ ea)
          refine ⟨hlist.typeIs, wpAny_getItem_list_slice hlist (Heap.IsSliceOf.new ..) pl pu .none (by simp) ?_ (by simp [r.length]; exact Nat.le_trans hlen (by decide))⟩
          have e : slicePick ws.toArray l u none = ((sliceRange (sliceBounds l u none vs.length).1 (sliceBounds l u none vs.length).2.1 (sliceBounds l u none vs.length).2.2).filterMap (ws[·]?)).toArray := by
            unfold slicePick
            simp [r.length]
          rw [e]
          exact Post.lst (Q := Q) (fun v ρ' s' x => hQ v ρ' s' ((x1.trans (x2.trans x3)).trans ((Ext.all kp).trans x))) I4 (so3.heap _ _) (r.pick _) s3.toks
        · cases h
      · cases h
    · cases h
  · rename_i i mh1 h1
    split at h
    · rename_i l mh2 h2
      split at h
      · rename_i u mh3 h3
        split at h
        · rename_i vs hi
          split at h
          · rename_i hlen
            cases h
            refine wpAny_Subscript_Slice (T := "list") slot_list_getitem.lookup (ho h1 ao I so F fun vo ρ1 s1 x1 I1 so1 v1 => wpAny_Slice (part_ok hl h2 ao I1 so1 (F.ext0 x1) fun vl ρ2 s2 ll x2 I2 so2 _ _ pl => part_ok hu h3 ao I2 so2 (F.ext0 (x1.trans x2)) fun vu ρ3 s3 lu x3 I3 so3 _ _ pu => ?_)) ht
            rw [evalPart_none]
            refine wpAny_pure ?_
            obtain ⟨a, ha, rfl⟩ := (v1.mono (x2.trans x3).pre).ref_
            have kp : ∀ b o', s3.heap.get? b = some o' → (s3.heap.push { cls := .type "slice", data := .fields #[vl, vu, .none] }).get? b = some o' := fun b o' e => Heap.get?_push_of_some _ e
            have I4 := I3.junk kp
            obtain ⟨o, ea, ws, n, rfl, r⟩ := I4.at hi ha
            have hlist := isList_of ea
            refine ⟨hlist.typeIs, wpAny_getItem_list_slice hlist (Heap.IsSliceOf.new ..) pl pu .none (by simp) ?_ (by simp [r.length]; exact Nat.le_trans hlen (by decide))⟩
            have e : slicePick ws.toArray l u none = ((sliceRange (sliceBounds l u none vs.length).1 (sliceBounds l u none vs.length).2.1 (sliceBounds l u none vs.length).2.2).filterMap (ws[·]?)).toArray := by
              unfold slicePick
              simp [r.length]
            rw [e]
            exact Post.lst (Q := Q) (fun v ρ' s' x => hQ v ρ' s' ((x1.trans (x2.trans x3)).trans ((Ext.all kp).trans x))) I4 (so3.heap _ _) (r.pick _) s3.toks
          · cases h
        · cases h
      · cases h
    · cases h
  · cases h

noncomputable def dSliceS (fo : D) (lo hi : Option D) : D := fun me mh => match fo me mh with
  | some (.str x, mh1) => (match dPart lo me mh1 with
    | some (l, mh2) => (match dPart hi me mh2 with
      | some (u, mh3) => if x.length ≤ sizeLine then some (.str (Txt.slice x l u), mh3) else none
      | none => none)
    | none => none)
  | _ => none
theorem RE_sliceS {value : PySem.Expr} {lower upper : Option PySem.Expr} {p pos : Pos} {fo : D} {lo hi : Option D} (ho : RE C d env value fo) (hl : RP C d env lower lo) (hu : RP C d env upper hi)
    (ht : ∀ o r, letTemporaryGo value o r = pure () := by intro _ _; rfl) : RE C d env (.Subscript value (.Slice lower upper none p) pos) (dSliceS fo lo hi) := by
  intro me mh mv mh' h ρ A s Q E ao I so F hQ
  unfold dSliceS at h
  split at h
  · rename_i x mh1 h1
    split at h
    · rename_i l mh2 h2
      split at h
      · rename_i u mh3 h3
        split at h
        · rename_i hlen
          cases h
          refine wpAny_Subscript_Slice (T := "str") PySem.F.slot_str_getitem.lookup (ho h1 ao I so F fun vo ρ1 s1 x1 I1 so1 v1 => wpAny_Slice (part_ok hl h2 ao I1 so1 (F.ext0 x1) fun vl ρ2 s2 ll x2 I2 so2 el el' _ => part_ok hu h3 ao I2 so2 (F.ext0 (x1.trans x2)) fun vu ρ3 s3 lu x3 I3 so3 eu eu' _ => ?_)) ht
          rw [evalPart_none]
          refine wpAny_pure ?_
          obtain ⟨t, rfl⟩ := v1.str_
          have kp : ∀ b o', s3.heap.get? b = some o' → (s3.heap.push { cls := .type "slice", data := .fields #[vl, vu, .none] }).get? b = some o' := fun b o' e => Heap.get?_push_of_some _ e
          have I4 := I3.junk kp
          subst el eu
          refine ⟨typeIs_str _ _ _, wpAny_getItem_str_slice (l := ll) (u := lu) (st := none) ⟨_, Heap.get?_push_size _ rfl, rfl, rfl⟩ rfl ?_⟩
          have xx := (x1.trans (x2.trans x3)).trans (Ext.all kp)
          have fin : ∀ t' k, Q (.str (Txt.slice x l u) t') { s3 with heap := s3.heap.push { cls := .type "slice", data := .fields #[partValue ll, partValue lu, .none] }, toks := k } := fun t' k => hQ _ ρ3 _ xx I4 (so3.heap _ _) .str'
          subst el' eu'
          unfold sliceMade slicePicked
          unfold Txt.slice at fin
          simp only [Option.map_none, Option.getD_none] at fin ⊢
          split
          · rename_i hc
            rw [if_pos hc] at fin
            exact fin t s3.toks
          · rename_i hc
            rw [if_neg hc] at fin
            refine ⟨?_, fin _ _⟩
            show ((Builtin.Str.strSliceIndices _ _ 1 x.length).filterMap (x.cps[·]?)).toArray.size ≤ sizeLine
            rw [List.size_toArray]
            exact Nat.le_trans (List.length_filterMap_le _ _) (Nat.le_trans (sliceIndices_le _ _ _) hlen)
        · cases h
      · cases h
    · cases h
  · cases h
end Mine

namespace Mine
variable {C : Cx} {d : Nat} {env : Env}

/-! ## several targets at once -/
noncomputable def dAsgT (tg : Tg) (f : D) : DS := fun me mh => match f me mh with
  | some (v, mh1) => (match tg me mh1 v with
    | some me1 => some (.next, me1, mh1)
    | none => none)
  | none => none
theorem RS_asgT {elts : List PySem.Expr} {k : Nat} {tpos pos : Pos} {value : PySem.Expr} {f : D} {tg : Tg} (h : RE C d env value f) (ht : RTg C d env (fa env) (.Tuple elts k tpos) tg)
    (hs : swapsWithSole [.Tuple elts k tpos] value pos.line env = pure false := by rfl) (hw : swappedStores [.Tuple elts k tpos] value env = pure none := by rfl) :
    RS C d env (exec (.Assign [.Tuple elts k tpos] value pos) env) (dAsgT tg f) := by
  intro me mh fl me' mh' hf ρ A s Q E ao I so F hQ
  unfold dAsgT at hf
  split at hf
  · rename_i v mh1 h1
    split at hf
    · rename_i me1 h2
      cases hf
      exact PyProof.Rows.Assign_Tuple (h h1 ao I so F fun vv ρ1 s1 x1 I1 so1 v1 => ht h2 ao I1 so1 (F.ext0 x1) v1 fun s2 x2 I2 so2 F2 => hQ _ _ _ (x1.wide.trans x2) I2 so2 F2 rfl) hs hw
    · cases hf
  · cases hf

noncomputable def tgTR (xs : List Nat) : Tg := fun me _ v => match v with
  | .tup vs => if vs.length = xs.length then some (upds me xs.reverse vs.reverse) else none
  | _ => none
inductive LNames (C : Cx) (env : Env) : List Nat → List Str → Prop where
  | nil : LNames C env [] []
  | cons {x n xs ns} : C.tbl[x]? = some n → env.kindOf n = some .local → LNames C env xs ns → LNames C env (x :: xs) (n :: ns)
theorem LNames.len {xs : List Nat} {ns : List Str} (h : LNames C env xs ns) : xs.length = ns.length := by
  induction h with
  | nil => rfl
  | cons _ _ _ ih => simp [ih]
theorem LNames.append {xs xs' : List Nat} {ns ns' : List Str} (h : LNames C env xs ns) (h' : LNames C env xs' ns') : LNames C env (xs ++ xs') (ns ++ ns') := by
  induction h with
  | nil => exact h'
  | cons a b _ ih => exact .cons a b ih
theorem LNames.reverse {xs : List Nat} {ns : List Str} (h : LNames C env xs ns) : LNames C env xs.reverse ns.reverse := by
  induction h with
  | nil => exact .nil
  | cons a b _ ih => rw [List.reverse_cons, List.reverse_cons]; exact ih.append (.cons a b .nil)
theorem LNames.run (ok : C.Ok) {xs : List Nat} {ns : List Str} (h : LNames C env xs ns) : ∀ {vs : List MV} {ws : List Value} {me : ME} {mh : MH} {ρ : Wd} {A : Around} {s : Shared} {Q : Unit → Shared → Prop} {E : Value → Shared → Prop},
    vs.length = xs.length → VRs ρ vs ws → Inv C ρ mh s.heap → SOk C s → FR C ρ env me s.heap →
    (∀ s', Ext C ρ (fa env) s.heap ρ s'.heap → Inv C ρ mh s'.heap → SOk C s' → FR C ρ env (upds me xs vs) s'.heap → Q () s') →
    wpAny C.M A (assignInOrder (ns.map fun n => bindName env n) ws) Q E s := by
  induction h with
  | nil =>
    intro vs ws me mh ρ A s Q E hl hv I so F hQ
    cases hv with
    | nil => exact wpAny_assignInOrder_none (hQ _ (Ext.refl _ _ _) I so F)
    | cons _ _ => simp at hl
  | cons hx hk _ ih =>
    intro vs ws me mh ρ A s Q E hl hv I so F hQ
    cases hv with
    | nil => simp at hl
    | cons h1 h2 =>
      refine wpAny_assignInOrder_more (wpAny_bindName (storeV ok hx (.inl hk) I so F h1 fun s1 x1 I1 so1 F1 => ?_))
      exact ih (by simpa using hl) h2 I1 so1 F1 fun s2 x2 I2 so2 F2 => hQ _ (x1.trans x2) I2 so2 F2
theorem RS_asgTR (ok : C.Ok) {elts : List PySem.Expr} {k : Nat} {tpos pos : Pos} {value : PySem.Expr} {f : D} {xs : List Nat} {ns : List Str} (h : RE C d env value f) (hn : LNames C env xs ns)
    (hs : swapsWithSole [.Tuple elts k tpos] value pos.line env = pure false := by rfl) (hw : swappedStores [.Tuple elts k tpos] value env = pure (some ns) := by rfl) :
    RS C d env (exec (.Assign [.Tuple elts k tpos] value pos) env) (dAsgT (tgTR xs) f) := by
  intro me mh fl me' mh' hf ρ A s Q E ao I so F hQ
  unfold dAsgT at hf
  split at hf
  · rename_i v mh1 h1
    split at hf
    · rename_i me1 h2
      cases hf
      unfold tgTR at h2
      split at h2
      · rename_i vs
        split at h2
        · rename_i hl
          cases h2
          refine PyProof.Rows.Assign_Tuple_swapped (h h1 ao I so F fun vv ρ1 s1 x1 I1 so1 v1 => ?_) hs hw
          obtain ⟨a, ws, n, ea, rfl, r⟩ := v1.tup_
          have ho := I1.fz _ ea
          have hsz : ns.length = ws.toArray.size := by have h1 := hn.len; have h2 := r.length; simp; omega
          rw [hsz]
          refine wpAny_unpackItems_tuple ao.handled (isTuple_of ho) fun h' he => ?_
          have hk' : ∀ b o, s1.heap.get? b = some o → h'.get? b = some o := fun b o e => he b o (fun z => by subst z; rw [get_size] at e; cases e) e
          have F1 := F.ext0 x1
          have x0 : Ext C ρ1 (fa env) s1.heap ρ1 h' := (Ext.all hk').more (by simp)
          refine hn.reverse.run ok (mh := mh') (vs := vs.reverse) (by simp [hl]) (by simpa using r.reverse) (I1.junk hk') (so1.heap _ _) (F1.keep (.refl _) (fun a _ o e => hk' a o e) fun a ha => (F1.out a ha).1) fun s' x I' so' F' => ?_
          exact hQ _ _ _ (x1.wide.trans (x0.trans x)) I' so' F' rfl
        · cases h2
      · cases h2
    · cases hf
  · cases hf

/-! ## len and str of objects -/
theorem Aok.in1 {A : Around} (h : Aok (d + 1) A) : Aok d A.in1 := ⟨by have := h.depth; show A.depth + 2 * d ≤ 900; omega, by have := h.units; show A.units + 1 + 16 * d ≤ 9000; omega, h.handled⟩
theorem Aok.in2 {A : Around} (h : Aok (d + 1) A) : Aok d A.in1.in1 := ⟨by have := h.depth; show A.depth + 2 * d ≤ 900; omega, by have := h.units; show A.units + 1 + 1 + 16 * d ≤ 9000; omega, h.handled⟩

noncomputable def fLenX (c : Addr) (den : DF) : DF := fun mvs mh => match mvs with
  | [.ref i] => (match mh[i]? with
    | some (.inst c' dd (some vs)) => if c' = c ∧ isAttrs mh dd = true then (match den [.ref i] mh with
      | some (.int n, mh') => if 0 ≤ n ∧ n < 1000000000 then some (.int n, mh') else none
      | _ => none) else none
    | _ => fLen mvs mh)
  | _ => fLen mvs mh
theorem vLenX (ok : C.Ok) {c f : Addr} {den : DF} (hs : findIn C.K (.ref c) "__len__" = some (some (.ref f))) (hf : typeIn C.K (.ref f) = some (.type "function")) (hr : RF C d f den) : RV C (d + 1) (.builtin "len") (fLenX c den) := by
  intro mvs mh mv mh' h ρ A s vs Q E ao I so hv hQ
  unfold fLenX at h
  split at h
  · rename_i i
    split at h
    · rename_i c' dd ms hi
      split at h
      · rename_i hc
        obtain ⟨rfl, hat⟩ := hc
        obtain ⟨l, hl⟩ := isAttrs_ hat
        split at h
        · rename_i n mh1 hden
          split at h
          · rename_i hn
            cases h
            cases hv with
            | cons h1 h2 =>
              cases h2
              obtain ⟨x, hx, rfl⟩ := h1.ref_
              obtain ⟨ox, od, IA, ns⟩ := inst_at I hi hl hx
              refine Calls.call_function_entry kind_len plain_len entry_len (args_len1 _) ?_
              unfold Builtin.«len»
              refine wpAny_bind (m := oneArg "len" _) (wpAny_pure ?_)
              refine wpAny_bind (m := callSpecial? (.ref x) (Str.ofString "__len__")) (special_fn (I.k ok) IA hs hf (wpAny_call (hr hden ao.in1 I so (.cons h1 .nil) fun v ρ1 s1 x1 I1 so1 v1 => ?_)))
              obtain ⟨t, rfl⟩ := v1.int_
              refine wpAny_bind (wpAny_holding (wpAny_pure ?_))
              refine wpAny_bind (wpAny_letGo ?_)
              show wpAny _ _ (if _ < 0 then _ else _) _ _ _
              rw [if_neg (by omega)]
              show wpAny _ _ (if _ ≥ 2 ^ 63 then _ else _) _ _ _
              rw [if_neg (by omega)]
              exact wpAny_bind (wpAny_mkInt (wpAny_pure ⟨_, rfl, hQ _ _ _ x1 I1 (so1.heap _ _) .int'⟩))
          · cases h
        · cases h
      · cases h
    · exact vLen h ao I so hv hQ
  · exact vLen h ao I so hv hQ

noncomputable def fStrI (c : Addr) (den : DF) : DF := fun mvs mh => match mvs with
  | [.ref i] => (match mh[i]? with
    | some (.inst c' dd (some vs)) => if c' = c ∧ isAttrs mh dd = true then (match den [.ref i] mh with
      | some (.str x, mh') => some (.str x, mh')
      | _ => none) else none
    | _ => none)
  | _ => none
theorem vStrI (ok : C.Ok) {c f : Addr} {den : DF} (hs : findIn C.K (.ref c) "__str__" = some (some (.ref f))) (hf : isFn C.K (.ref f) = true) (hr : RF C d f den) : RV C (d + 1) (.type "str") (fStrI c den) := by
  intro mvs mh mv mh' h ρ A s vs Q E ao I so hv hQ
  unfold fStrI at h
  split at h
  · rename_i i
    split at h
    · rename_i c' dd ms hi
      split at h
      · rename_i hc
        obtain ⟨rfl, hat⟩ := hc
        obtain ⟨l, hl⟩ := isAttrs_ hat
        split at h
        · rename_i n mh1 hden
          cases h
          cases hv with
          | cons h1 h2 =>
            cases h2
            obtain ⟨x, hx, rfl⟩ := h1.ref_
            obtain ⟨ox, od, IA, ns⟩ := inst_at I hi hl hx
            refine kso_call (by have := ao.units; show A.units + 1 + 1 < 9900; omega) (I.k ok) IA hs hf (wpAny_call (hr hden ao.in2 I so (.cons h1 .nil) fun v ρ1 s1 x1 I1 so1 v1 => ?_))
            obtain ⟨t, rfl⟩ := v1.str_
            exact hQ _ _ _ x1 I1 so1 .str'
        · cases h
      · cases h
    · cases h
  · cases h
end Mine

namespace Mine
variable {C : Cx} {d : Nat} {env : Env}

/-! ## a def within a def is made -/
noncomputable abbrev fdOf (name qual : Str) (params : Arguments) (body : FuncBody) (scope : Scope) (clos : List (Str × Addr)) (doc pm cv ctv : Value) : FuncData :=
  { name, qualname := qual, params, body, scope, globals := mainGlobals, closure := clos, defaults := .none, kwdefaults := .none, doc, pyModule := pm, annotations := none, code := cv, closureTuple := ctv, builtins := builtinsNs }

theorem among_snoc {pos : Pos} {a b : Int} {c : Value} (l : List Value) (h : TriplesOk l) (hne : a ≠ pos.line ∨ b ≠ pos.col) : codeAmong pos (l ++ [rawInt a, rawInt b, c]) = codeAmong pos l := by
  fun_induction TriplesOk l with
  | case1 =>
    simp only [List.nil_append, codeAmong, rawInt]
    rw [if_neg]
    simp only [Bool.and_eq_true, beq_iff_eq, not_and]
    rcases hne with h1 | h1
    · exact fun e => absurd e h1
    · exact fun _ => h1
  | case2 a' t b' u x rest ih =>
    simp only [List.cons_append, codeAmong]
    rw [ih h]
  | case3 l h1 h2 => exact h.elim
theorem among_snoc_same {pos : Pos} {c : Value} (l : List Value) (h : TriplesOk l) (hn : codeAmong pos l = none) {cv : Value} (e : codeAmong pos (l ++ [rawInt pos.line, rawInt pos.col, c]) = some cv) : cv = c := by
  rw [codeAmong_snoc l h hn] at e; cases e; rfl

/-- a code table grew by a code that is frozen -/
theorem Inv.growF {ρ : Wd} {mh : MH} {h h' : Heap} (I : Inv C ρ mh h) {p : Addr × Addr} (hp : p ∈ C.T) (hk : Heap.ExtBut p.2 h h') {ps : Array Value} (hc : CodeTab h' p.1 p.2 ps) {c : Addr} {oc : Obj} (hcn : h.get? c = none) (hco : h'.get? c = some oc)
    (htq : TabQ C.gv ((c, oc) :: ρ.fz) p.2 ps) (hu : ∀ q ∈ C.T, q.2 = p.2 → q = p) : Inv C (ρ.froze c oc) mh h' := by
  have hx := mem_X hp
  have fr := I.fresh hcn
  have hle : ρ.le (ρ.froze c oc) := ρ.le_froze _ _
  refine ⟨I.len, I.nd, fun i mo hi => ?_, fun q hm => ?_, fun q hm => ?_, fun q hm => (I.st q hm).mono hle.fz, I.new, fun q hm => ?_, fun b o e hb => hk b o (fun e' => hb (e' ▸ hx)) (I.keep b o e hb), fun q hq => ?_, I.xb, I.pw⟩
  · obtain ⟨a, o, h1, h2, h3⟩ := I.obj i mo hi
    exact ⟨a, o, h1, hk a o (fun e => I.id_x (List.mem_of_getElem? h1) (e ▸ hx)) h2, h3.mono hle⟩
  · rcases List.mem_cons.mp hm with rfl | hm
    · exact hco
    · exact hk _ _ (fun e => I.newf q hm (e ▸ hx)) (I.fz q hm)
  · rcases List.mem_cons.mp hm with rfl | hm
    · exact fun q => fr.1 (.inl q)
    · exact I.sep q hm
  · rcases List.mem_cons.mp hm with rfl | hm
    · exact I.not_x fr.2
    · exact I.newf q hm
  · by_cases e : q.2 = p.2
    · rw [hu q hq e]; exact ⟨ps, hc, htq⟩
    · obtain ⟨qs, x, tq⟩ := I.tab q hq
      refine ⟨qs, x.extBut hk (fun z => ?_) e, tq.mono hle.fz⟩
      exact (I.xb q hq).2.2 (z ▸ hx)

theorem mkTail (ok : C.Ok) {p : Addr × Addr} {name qual : Str} {params : Arguments} {body : FuncBody} {scope : Scope} {clos : List (Str × Addr)} {pos : Pos} {fl : Nat} {ρ : Wd} {mh : MH} {A : Around} {s : Shared} {Q : Value → Shared → Prop} {E : Value → Shared → Prop}
    (hT : p ∈ C.T) (hcode : env.code = .ref p.1) (hge : env.globals = mainGlobals) (hcl : closureFor scope env = pure clos) (I : Inv C ρ mh s.heap)
    (hgv : ∀ pos' q', C.gv p.2 = some (pos', q') → (pos' = pos ∧ q' = qual) ∨ ((pos.line : Int) ≠ pos'.line ∨ (pos.col : Int) ≠ pos'.col))
    (h : ∀ cv ctv doc ρ' h' tk, Inv C ρ' mh h' → ρ'.ids = ρ.ids → ρ'.st = ρ.st → Ext C ρ [] s.heap ρ' h' → Heap.ExtBut p.2 s.heap h' → s.heap.objs.size ≤ h'.objs.size → (C.gv p.2 = some (pos, qual) → CodeFz ρ'.fz cv qual) →
      Q (.ref h'.objs.size) { s with heap := h'.push { cls := .type "function", data := .func (fdOf name qual params body scope clos doc ((C.mg "__name__").getD .none) cv ctv) }, toks := tk }) :
    wpAny C.M A (makeTail name qual params body scope env .none .none none pos fl) Q E s := by
  obtain ⟨bm, ob, hbm, hbn, hbo, hbc, hbd, hbp, hbx⟩ := ok.mod
  obtain ⟨ps, hok, tq⟩ := I.tab p hT
  unfold makeTail
  rw [hcl, hge]
  refine wpAny_bind (wpAny_pure ?_)
  -- from the code's making on
  have tail : ∀ (ctv : Value) (h1 : Heap) (tk1 : Nat), (∀ b o, s.heap.get? b = some o → h1.get? b = some o) → s.heap.objs.size ≤ h1.objs.size →
      wpAny C.M A (functionCode env pos fl name qual params scope body) (fun cv s' => wpAny C.M A (builtinsFor mainGlobals env.builtins) (fun bv s2 => wpAny C.M A (nsGet mainGlobals "__name__") (fun nm s3 =>
        wpAny C.M A (match body with | .stmts b => (match docOf b with | some s => mkText s | none => pure .none) | .expr _ => pure .none) (fun doc s4 =>
          wpAny C.M A (newObj (.type "function") (.func { name, qualname := qual, params, body, scope, globals := mainGlobals, closure := clos, closureTuple := ctv, code := cv, builtins := bv, defaults := .none, kwdefaults := .none, annotations := none, pyModule := nm.getD .none, doc })) Q E s4) E s3) E s2) E s') E { s with heap := h1, toks := tk1 } := by
    intro ctv h1 tk1 k1 sz1
    have I1 : Inv C ρ mh h1 := I.junk k1
    have x1 : Ext C ρ [] s.heap ρ h1 := Ext.all k1
    have fin : ∀ cv ρ' h' tk, Inv C ρ' mh h' → ρ'.ids = ρ.ids → ρ'.st = ρ.st → Ext C ρ [] s.heap ρ' h' → Heap.ExtBut p.2 s.heap h' → s.heap.objs.size ≤ h'.objs.size → (C.gv p.2 = some (pos, qual) → CodeFz ρ'.fz cv qual) →
        wpAny C.M A (builtinsFor mainGlobals env.builtins) (fun bv s2 => wpAny C.M A (nsGet mainGlobals "__name__") (fun nm s3 =>
        wpAny C.M A (match body with | .stmts b => (match docOf b with | some s => mkText s | none => pure .none) | .expr _ => pure .none) (fun doc s4 =>
          wpAny C.M A (newObj (.type "function") (.func { name, qualname := qual, params, body, scope, globals := mainGlobals, closure := clos, closureTuple := ctv, code := cv, builtins := bv, defaults := .none, kwdefaults := .none, annotations := none, pyModule := nm.getD .none, doc })) Q E s4) E s3) E s2) E { s with heap := h', toks := tk } := by
      intro cv ρ' h' tk I' hid hst x' hx' hsz hcf
      refine wpAny_builtinsFor (m := C.mg) (I'.g ok) hbm hbn (I'.keep _ _ hbo hbx) hbc hbd hbp ?_
      refine wpAny_nsGet (I'.g ok) ?_
      have last : ∀ (doc : Value) (tk' : Nat), wpAny C.M A (newObj (.type "function") (.func { name, qualname := qual, params, body, scope, globals := mainGlobals, closure := clos, closureTuple := ctv, code := cv, builtins := builtinsNs, defaults := .none, kwdefaults := .none, annotations := none, pyModule := (C.mg "__name__").getD .none, doc })) Q E { s with heap := h', toks := tk' } :=
        fun doc tk' => wpAny_newObj_type (h cv ctv doc ρ' h' tk' I' hid hst x' hx' hsz hcf) (by size_fits)
      cases body with
      | expr e => exact wpAny_pure (last _ _)
      | stmts b =>
        dsimp only
        cases docOf b with
        | none => exact wpAny_pure (last _ _)
        | some t => exact wpAny_mkText (last _ _)
    have hok1 := hok.keeps k1
    cases hf : codeAmong pos ps.toList with
    | some cv => exact wpAny_functionCode_hit hcode hok1.1 hf (fin cv ρ h1 tk1 I1 rfl rfl x1 (fun b o _ e => k1 b o e) sz1 fun e => tq _ _ e _ hf)
    | none =>
      refine wpAny_functionCodeX hcode hok1.1 hok1.2 hf fun c' h' tk hx hge' hlt hok' hrec htab' _ => ?_
      obtain ⟨c2, oc, vs, t, e2, hoc, hd, hv⟩ := hrec
      cases e2
      have hcn : h1.get? c' = none := by
        cases e : h1.get? c' with
        | none => rfl
        | some o => exact absurd (Heap.lt_size e) (Nat.not_lt.mpr hge')
      have htr : TriplesOk ps.toList := by
        obtain ⟨_, _, _, _, _, _, _, _, _, _, _, _, _, _, _, _, _, _, _, r, _⟩ := hok.1
        exact r
      have htq : TabQ C.gv ((c', oc) :: ρ.fz) p.2 (ps ++ #[rawInt pos.line, rawInt pos.col, .ref c']) := by
        intro pos' q' e cv hcv
        rw [Array.toList_append] at hcv
        rcases hgv _ _ e with ⟨rfl, rfl⟩ | hne
        · cases among_snoc_same _ htr hf hcv
          exact ⟨c', oc, vs, t, rfl, .head _, hd, hv⟩
        · exact (tq _ _ e cv (by rw [← hcv]; exact (among_snoc _ htr hne).symm)).mono fun q hq => .tail _ hq
      have I2 := I1.growF hT hx ⟨hok', htab'⟩ hcn hoc htq (ok.tu p hT)
      have hP : ∃ o, h'.get? p.2 = some o := ⟨_, htab'.2⟩
      have hcs : s.heap.get? c' = none := by
        cases e : s.heap.get? c' with
        | none => rfl
        | some o => rw [k1 _ _ e] at hcn; cases hcn
      refine fin _ (ρ.froze c' oc) h' tk I2 rfl rfl ((x1.trans (Ext.grow (mem_X hT) hx hP)).freeze oc hcs) (fun b o hb e => hx b o hb (k1 b o e)) (Nat.le_trans sz1 (Nat.le_trans hge' (Nat.le_of_lt hlt))) fun e => ⟨c', oc, vs, t, rfl, .head _, hd, hv⟩
  cases clos with
  | nil =>
    simp only [List.isEmpty_nil, if_true]
    refine wpAny_bind (wpAny_pure ?_)
    refine wpAny_bind (wpAny_mono (tail .none s.heap s.toks (fun _ _ e => e) (Nat.le_refl _)) (fun cv s' h' => ?_) fun _ _ x => x)
    refine wpAny_bind (wpAny_mono h' (fun bv s2 h2 => ?_) fun _ _ x => x)
    refine wpAny_bind (wpAny_mono h2 (fun nm s3 h3 => ?_) fun _ _ x => x)
    cases body <;> exact wpAny_bind h3
  | cons q r =>
    simp only [List.isEmpty_cons, Bool.false_eq_true, if_false]
    refine wpAny_bind (wpAny_newTextTuple ?_)
    refine wpAny_bind (wpAny_mono (tail (.ref s.heap.objs.size) _ _ (fun b o e => Heap.get?_push_of_some _ e) (by rw [Heap.size_push]; omega)) (fun cv s' h' => ?_) fun _ _ x => x)
    refine wpAny_bind (wpAny_mono h' (fun bv s2 h2 => ?_) fun _ _ x => x)
    refine wpAny_bind (wpAny_mono h2 (fun nm s3 h3 => ?_) fun _ _ x => x)
    cases body <;> exact wpAny_bind h3
theorem mkFun (ok : C.Ok) {p : Addr × Addr} {name qual : Str} {params : Arguments} {body : FuncBody} {scope : Scope} {clos : List (Str × Addr)} {pos : Pos} {fl : Nat} {ρ : Wd} {mh : MH} {A : Around} {s : Shared} {Q : Value → Shared → Prop} {E : Value → Shared → Prop}
    (hT : p ∈ C.T) (hcode : env.code = .ref p.1) (hge : env.globals = mainGlobals) (hcl : closureFor scope env = pure clos) (I : Inv C ρ mh s.heap)
    (hgv : ∀ pos' q', C.gv p.2 = some (pos', q') → (pos' = pos ∧ q' = qual) ∨ ((pos.line : Int) ≠ pos'.line ∨ (pos.col : Int) ≠ pos'.col))
    (h : ∀ cv ctv doc ρ' h' tk, Inv C ρ' mh h' → ρ'.ids = ρ.ids → ρ'.st = ρ.st → Ext C ρ [] s.heap ρ' h' → Heap.ExtBut p.2 s.heap h' → s.heap.objs.size ≤ h'.objs.size → (C.gv p.2 = some (pos, qual) → CodeFz ρ'.fz cv qual) →
      Q (.ref h'.objs.size) { s with heap := h'.push { cls := .type "function", data := .func (fdOf name qual params body scope clos doc ((C.mg "__name__").getD .none) cv ctv) }, toks := tk }) :
    wpAny C.M A (makeFunction name qual params body scope env [] [] [] pos fl) Q E s := by
  rw [makeFunction_eq]
  simp only [List.zip_nil_right, List.filterMap_nil, List.isEmpty_nil, if_true, pure_bind]
  exact mkTail ok hT hcode hge hcl I hgv h
end Mine

namespace Mine
variable {C : Cx} {d : Nat} {env : Env}
open Builtin Builtin.ObjectAttr Builtin.Getset_descriptor

/-! ## an attribute is stored in a def that has none yet -/
structure FnStore (K : Frag) (name : Str) : Prop where
  sa : findIn K (.type "function") "__setattr__" = some (some (.builtin "object.__setattr__"))
  no : findIn K (.type "function") name = some none

theorem setAttrF {K : Frag} {x : Addr} {prog : Program} {w : World} {A : Around} {E : Value → Shared → Prop} {s : Shared} {fd : FuncData} {name : Str} {v : Value} {Q : Unit → Shared → Prop} (X : K.In s.heap)
    (hx0 : s.heap.get? x = some { cls := .type "function", data := .func fd }) (S : FnStore K name)
    (h : ∀ h' hsh tk n', h'.get? s.heap.objs.size = some (dictOf [⟨hsh, .str name tk, v⟩] n') → h'.get? x = some { cls := .type "function", dict := some s.heap.objs.size, data := .func fd } → Heap.ExtBut x s.heap h' → ∀ t', Q () { s with heap := h', toks := t' }) :
    wpAny (model prog w) A (setAttr (.ref x) name v) Q E s := by
  have SF := PySem.F.store_object
  have ty : Looks (model prog w) s.heap (typeOf (.ref x)) (.type "function") := (Looks.ld (part := none) hx0).andThen .now
  have sub : Looks (model prog w) s.heap (isInstance (.ref x) (.type "object")) true := ty.andThen (fun A Q E s k q => by
    have : isSubtype (.type "function") (.type "object") = pure true := by kernel_rfl
    rw [this]; exact wpAny_pure q)
  refine wpAny_bind (wpAny_mkText (wpAny_bind (wpAny_bind (wpAny_bind (ty _ _ _ _ (fun _ _ e => e) (looks_findIn X S.sa _ _ _ _ (fun _ _ e => e) (wpAny_holding ?_)))))))
  rw [SF.slot.bind]
  refine wpAny_bind (wpAny_pure (wpAny_bind (wpAny_call (codeAny_mono (R := fun r s' => match r with | .ok (.ret _) => Q () s' | .ok _ => False | .error e => E e s') ?_ fun r s' z => ?_))))
  · refine codeAny_call_builtin SF.slot.plain SF.entry (@check_slot (model prog w) _ _ { s with toks := s.toks + 1 } "object.__setattr__" "object" "__setattr__" (.ref x) [.str name s.toks, v] [] _ SF.kind SF.split sub (SF.args (.ref x) (.str name s.toks) v) ?_)
    have hm : mroOf (.type "function") = pure [.type "function", .type "object"] := by kernel_rfl
    have rl : ∀ self, refuseLoop self "__setattr__" [.type "function", .type "object"] = pure () := fun self => by kernel_rfl
    show wpAny _ _ (Builtin.«object.__setattr__» ⟨[.ref x, .str name s.toks, v], []⟩) _ _ _
    rw [osa_eq, refuse_eq]
    obtain ⟨hh, gg, dr, tt, os⟩ := s
    dsimp only at ty X h hx0
    refine wpAny_bind (wpAny_bind (ty.at ?_))
    rw [hm]
    refine wpAny_bind (wpAny_pure ?_)
    rw [rl]
    refine wpAny_pure (wpAny_bind (ty.at (wpAny_bind ((looks_findIn X S.no).at (wpAny_bind (wpAny_pure ?_))))))
    dsimp only
    have hnd : ownStreamTells (.ref x) (.type "function") = pure () := by kernel_rfl
    unfold storeInOwnDict
    rw [hnd]
    refine wpAny_bind (wpAny_pure ?_)
    have e1 : ((Value.type "function" == .type "module") = true) = False := by
      apply propext; constructor
      · intro z; exact absurd z (by decide)
      · exact False.elim
    simp only [e1, if_false]
    refine wpAny_bind ?_
    unfold ownDictForStores instanceDict
    refine wpAny_bind (wpAny_loadPart hx0 ?_)
    dsimp only
    have thd : typeHasDict (.type "function") = true := by kernel_rfl
    have fic : finalisedInACycleAlone "function" = false := by kernel_rfl
    simp only [thd, Bool.not_true, Bool.or_self, Bool.false_eq_true, if_false]
    refine wpAny_bind (wpAny_alloc ?_)
    dsimp only
    have hx1 : ∀ o, (hh.push o).get? x = some { cls := .type "function", data := .func fd } := fun o => Heap.get?_push_of_some _ hx0
    refine wpAny_bind (wpAny_update (hx1 _) ?_)
    unfold dictMade
    simp only [fic, Bool.false_eq_true, if_false]
    refine wpAny_pure ?_
    dsimp only
    have hne : x ≠ hh.objs.size := fun z => by rw [z] at hx0; exact absurd (Heap.lt_size hx0) (Nat.lt_irrefl _)
    have D0 : (hh.push { cls := Value.type "dict", data := Data.dict #[] }).get? hh.objs.size = some (dictOf [] 0) := Heap.get?_push_size _ rfl
    have hs2 : Heap.SameBut x (hh.push { cls := Value.type "dict", data := Data.dict #[] }) ((hh.push { cls := Value.type "dict", data := Data.dict #[] }).update x fun o => { o with dict := some hh.objs.size }) := Heap.SameBut.update ..
    have hx2 : ((hh.push { cls := Value.type "dict", data := Data.dict #[] }).update x fun o => { o with dict := some hh.objs.size }).get? x = some { cls := .type "function", dict := some hh.objs.size, data := .func fd } := Heap.get?_update_self _ (hx1 _) rfl
    generalize hH : ((hh.push { cls := Value.type "dict", data := Data.dict #[] }).update x fun o => { o with dict := some hh.objs.size }) = H2 at hs2 hx2 ⊢
    have D : H2.get? hh.objs.size = some (dictOf [] 0) := (hs2.2 _ (Ne.symm hne)).trans D0
    unfold storeInDict newKeyGuard
    refine wpAny_bind (wpAny_pure (wpAny_bind ?_))
    unfold nsSet
    refine wpAny_bind (wpAny_bind (wpAny_askSetting (wpAny_pure (wpAny_bind (wpAny_mkText (wpAny_bind (wpAny_loadPart D ?_)))))))
    show wpAny _ _ (if aRefKeyMayBeTheName _ _ = true then _ else _) _ _ _
    rw [aRefKeyMayBeTheName_at, show ∀ b : Bool, (b && ([] : List DictEntry).toArray.any (·.refKey)) = false from fun b => by rw [← Array.any_toList]; cases b <;> rfl]
    refine wpAny_updatePart D ?_
    have U : ∀ (hsh : Int) (tk : Tok), (H2.update hh.objs.size (Obj.putName name hsh (.str name tk) v)).get? hh.objs.size = some (dictOf [⟨hsh, .str name tk, v⟩] 1) := fun hsh tk => by
      rw [Heap.get?_update_self _ D (by rw [putName_dict]; rfl), putName_dict]
      rfl
    refine wpAny_bind (wpAny_lookBehind (U _ _) (pastItsLine_dict (by rw [List.size_toArray, sizeLine_eq]; show 1 ≤ _; omega)) ?_)
    have hs3 : ∀ hsh tk, Heap.SameBut hh.objs.size H2 (H2.update hh.objs.size (Obj.putName name hsh (.str name tk) v)) := fun _ _ => Heap.SameBut.update ..
    refine wpAny_pure (h _ _ _ _ (U _ _) (((hs3 _ _).2 _ hne).trans hx2) (fun b o hb e => ?_) _)
    have hbs : b ≠ hh.objs.size := fun z => by rw [z] at e; exact absurd (Heap.lt_size e) (Nat.lt_irrefl _)
    exact ((hs3 _ _).2 b hbs).trans ((hs2.2 b hb).trans (Heap.get?_push_of_some _ e))
  · rcases r with e | (v | _ | _ | _) <;> first | exact z | exact wpAny_pure (wpAny_pure z) | exact z.elim
end Mine

namespace Mine
variable {C : Cx} {d : Nat} {env : Env}

/-! ## an object of a plain class is made, by its own __init__ -/
noncomputable def fMakeP (c : Addr) (init : DF) : DF := fun mvs mh => match init (.ref (mh.length + 1) :: mvs) (mh ++ [.attrs [], .inst c mh.length none]) with
  | some (.none, mh') => some (.ref (mh.length + 1), mh')
  | _ => none

theorem RF_makeP (ok : C.Ok) {c fI : Addr} {init : DF} (hm : makesIn C.K c = true) (hi : findIn C.K (.ref c) "__init__" = some (some (.ref fI))) (hf : typeIn C.K (.ref fI) = some (.type "function")) (hr : RF C d fI init) : RF C (d + 1) c (fMakeP c init) := by
  intro mvs mh mv mh' hfm ρ A s vs R ao I so hv hR
  unfold fMakeP at hfm
  split at hfm
  · rename_i mh1 hin
    cases hfm
    obtain ⟨hh, g, dr, t, os⟩ := s
    refine make_core (makes_of (I.k ok) hm) (looks_findIn (I.k ok) hi) (fun self => bind_fn (I.k ok) self hf) (.inl rfl) ?_
    have I1 : Inv C (ρ.push hh.objs.size) (mh ++ [.attrs []]) (hh.push emptyDict) := I.push ⟨[], 0, rfl, .nil⟩
    have hid : (ρ.push hh.objs.size).ids[mh.length]? = some hh.objs.size := by rw [← I.len]; simp
    have I2 : Inv C ((ρ.push hh.objs.size).push (hh.push emptyDict).objs.size) ((mh ++ [.attrs []]) ++ [.inst c mh.length none]) ((hh.push emptyDict).push (instObj c hh.objs.size)) := I1.push ⟨hh.objs.size, hid, rfl⟩
    have x2 : Ext C ρ [] hh ((ρ.push hh.objs.size).push (hh.push emptyDict).objs.size) ((hh.push emptyDict).push (instObj c hh.objs.size)) := (Ext.push _ _ _).trans (Ext.push _ _ _)
    have hix : ((ρ.push hh.objs.size).push (hh.push emptyDict).objs.size).ids[mh.length + 1]? = some (hh.objs.size + 1) := by
      rw [← I.len, Heap.size_push]
      show ((ρ.ids ++ [hh.objs.size]) ++ [hh.objs.size + 1])[ρ.ids.length + 1]? = _
      rw [List.getElem?_append_right (by simp)]
      simp
    refine hr (by rw [List.append_assoc]; exact hin) (under_call_ok ao) I2 (so.heap _ _) (.cons (.ref' hix) (hv.mono x2.pre)) fun v ρ3 s3 x3 I3 so3 v3 => ?_
    exact ⟨v3.none_, hR _ ρ3 s3 (x2.trans x3) I3 so3 (.ref' (pre_get x3.pre hix))⟩
  · cases hfm

/-! ## _law_lexer -/
noncomputable def fLexer (mk : DF) : DF := fun mvs mh => match mvs with
  | [.str x, .ref t] => mk [.strm x t] mh
  | _ => none

noncomputable abbrev lexBody (lp gp : Arguments) (lsc gsc : Scope) (gbody : List Stmt) (gpos lpos lpos2 p1 p4 p5 p6 p7 p8 p9 p10 p11 p12 : Pos) (k0 : Nat) : List Stmt :=
  [.Assign [.Name "stream" p1] (.Lambda lp (.Constant .none k0 lpos2) lsc lpos) p4,
    .FunctionDef "_law_give" gp gbody [] none [] gsc none "_law_give" gpos,
    .Assign [.Attribute (.Name "stream" p5) "read" p6] (.Name "_law_give" p7) p8,
    .Return (some (.Call (.Name "_netrclex" p9) [.Name "stream" p10] [] p11)) p12]

theorem Inv.freezeI {ρ : Wd} {mh : MH} {h : Heap} (I : Inv C ρ mh h) {a : Addr} {o : Obj} (hn : a ∉ ρ.ids) (hb : C.base.get? a = none) (ho : h.get? a = some o) : Inv C (ρ.froze a o) mh h := by
  have hp : ρ.le (ρ.froze a o) := ρ.le_froze _ _
  refine ⟨I.len, I.nd, fun i mo hi => ?_, fun p hm => ?_, fun p hm => ?_, fun p hm => (I.st p hm).mono hp.fz, I.new, fun p hm => ?_, I.keep, fun p hm => let ⟨ps, h1, h2⟩ := I.tab p hm; ⟨ps, h1, h2.mono hp.fz⟩, I.xb, I.pw⟩
  · obtain ⟨b, o', h1, h2, h3⟩ := I.obj i mo hi
    exact ⟨b, o', h1, h2, h3.mono hp⟩
  · rcases List.mem_cons.mp hm with rfl | hm
    · exact ho
    · exact I.fz p hm
  · rcases List.mem_cons.mp hm with rfl | hm
    · exact hn
    · exact I.sep p hm
  · rcases List.mem_cons.mp hm with rfl | hm
    · exact I.not_x hb
    · exact I.newf p hm

/-- the stream is known from here on -/
theorem Inv.stream {ρ : Wd} {mh : MH} {h : Heap} (I : Inv C ρ mh h) {x : Str} {at_ a : Addr} (hs : StrmOk C.give ρ.fz x at_ a) : Inv C ⟨ρ.ids, ρ.fz, (x, at_, a) :: ρ.st, ρ.pw⟩ mh h := by
  have hp : ρ.le ⟨ρ.ids, ρ.fz, (x, at_, a) :: ρ.st, ρ.pw⟩ := ⟨⟨[], by simp⟩, fun _ h => h, fun _ h => .tail _ h, rfl⟩
  refine ⟨I.len, I.nd, fun i mo hi => ?_, I.fz, I.sep, fun p hm => ?_, I.new, I.newf, I.keep, I.tab, I.xb, I.pw⟩
  · obtain ⟨b, o, h1, h2, h3⟩ := I.obj i mo hi
    exact ⟨b, o, h1, h2, h3.mono hp⟩
  · rcases List.mem_cons.mp hm with rfl | hm
    · exact hs
    · exact I.st p hm
theorem Ext.stream {ρ ρ' : Wd} {F : List Addr} {h h' : Heap} (x : Ext C ρ F h ρ' h') (p : Str × Addr × Addr) : Ext C ρ F h ⟨ρ'.ids, ρ'.fz, p :: ρ'.st, ρ'.pw⟩ h' :=
  ⟨x.pre.trans ⟨⟨[], by simp⟩, fun _ h => h, fun _ h => .tail _ h, rfl⟩, x.keep, x.freshI, x.fresh, x.live⟩

theorem lex_walk (ok : C.Ok) {p : Addr × Addr} {cN : Addr} {qualG : Str} {lp gp : Arguments} {lsc gsc : Scope} {gbody : List Stmt} {gpos lpos lpos2 p1 p4 p5 p6 p7 p8 p9 p10 p11 p12 : Pos} {k0 : Nat} {mk : DF} {c1 c2 : Addr}
    (hT : p ∈ C.T) (hgv : C.gv p.2 = some (gpos, qualG)) (hlg : (lpos.line : Int) ≠ gpos.line ∨ (lpos.col : Int) ≠ gpos.col) (hgive : ∀ c1 c2 doc pm cv ctv, c1 ≠ c2 → C.base.get? c1 = none → C.base.get? c2 = none → C.give (fdOf "_law_give" qualG gp (.stmts gbody) gsc [(("text" : Str), c1), (("at" : Str), c2)] doc pm cv ctv))
    (hcN : C.mg "_netrclex" = some (.ref cN)) (hkN : keepIn C.K (.ref cN) = true) (hmk : RF C d cN mk) (FS : FnStore C.K "read")
    (hk : env.scope.kind = .function) (hge : env.globals = mainGlobals) (hcode : env.code = .ref p.1)
    (n3 : env.kindOf "stream" = some .local) (n4 : env.kindOf "_law_give" = some .local) (n5 : env.kindOf "_netrclex" = some .globalImplicit)
    (hlp : defaultsOf lp env = ([], [])) (hgp : gp.defaults = [] ∧ gp.kw_defaults = []) (hga : annTrees gp none env = [])
    (hlc : closureFor lsc env = pure []) (hgc : closureFor gsc env = pure [(("text" : Str), c1), (("at" : Str), c2)]) (hcc : c1 ≠ c2)
    (hq : qualnameIn env "_law_give" "_law_give" = qualG)
    {x : Str} {t : Nat} {mh : MH} {mv : MV} {mh' : MH} {ρ : Wd} {A : Around} {s0 : Heap} {s : Shared} {m : Str → Option Value} {tx : Tok} {at_ : Addr} {Q : Flow → Shared → Prop} {E : Value → Shared → Prop}
    (hmk1 : mk [.strm x t] mh = some (mv, mh')) (ao : Aok d A) (I0 : Inv C ρ mh s0) (so : SOk C s)
    (k1 : ∀ b o, s0.get? b = some o → s.heap.get? b = some o) (hns : s.heap.Ns env.locals m) (hL : s0.get? env.locals = none)
    (hc1 : s.heap.IsCell c1 (some (.str x tx))) (hc2 : s.heap.IsCell c2 (some (.ref at_))) (f1 : s0.get? c1 = none) (f2 : s0.get? c2 = none) (ne1 : c1 ≠ env.locals) (ne2 : c2 ≠ env.locals) (hat : ρ.ids[t]? = some at_)
    (hQ : ∀ v ρ' s', Ext C ρ [] s0 ρ' s'.heap → Inv C ρ' mh' s'.heap → SOk C s' → VR ρ' mv v → Q (.ret v) s') :
    wpAny C.M A (execs (lexBody lp gp lsc gsc gbody gpos lpos lpos2 p1 p4 p5 p6 p7 p8 p9 p10 p11 p12 k0) env) Q E s := by
  have I1 : Inv C ρ mh s.heap := I0.junk k1
  have frP : ∀ {a : Addr}, s0.get? a = none → a ≠ p.2 := fun e z => by obtain ⟨o, eo⟩ := I0.x_live (mem_X hT); rw [z, eo] at e; cases e
  have frN : ∀ {a : Addr} {ρ' : Wd} {h' : Heap}, s0.get? a = none → (∃ o, s.heap.get? a = some o) → Ext C ρ [] s.heap ρ' h' → ¬ ρ'.has a := fun e ⟨o, eo⟩ x' hm => by
    rcases x'.fresh _ hm with q | q
    · obtain ⟨o', eo'⟩ := I0.live q; rw [eo'] at e; cases e
    · rw [eo] at q; cases q
  have none_ge : ∀ {a : Addr}, s.heap.objs.size ≤ a → s0.get? a = none := fun hge' => by
    cases e : s0.get? _ with
    | none => rfl
    | some o => exact absurd (Heap.lt_size (k1 _ _ e)) (Nat.not_lt.mpr hge')
  have none_ge1 : ∀ {a : Addr}, s.heap.objs.size ≤ a → s.heap.get? a = none := fun hge' => by
    cases e : s.heap.get? _ with
    | none => rfl
    | some o => exact absurd (Heap.lt_size e) (Nat.not_lt.mpr hge')
  have hLp := frP hL
  have hblk : (env.scope.kind == .class || (env.scope.kind == .module && env.locals != env.globals)) = false := by rw [hk]; rfl
  -- stream = lambda: None
  refine wpAny_execs_cons (wpAny_Assign_Name (kla_eval hlp ?_) rfl)
  refine mkFun ok hT hcode hge hlc I1 (fun pos' q' e => .inr (by rw [hgv] at e; cases e; exact hlg)) fun cvL ctL docL ρ2 h2 tk2 I2 id2 st2 x2 e2 z2 _ => ?_
  generalize hF1 : (Obj.mk (.type "function") none (Data.func (fdOf _ _ lp _ lsc [] docL _ cvL ctL)) #[]) = F1
  have hF1d : ∃ fd, F1 = { cls := .type "function", data := .func fd } := ⟨_, hF1.symm⟩
  have hf1 : (h2.push F1).get? h2.objs.size = some F1 := Heap.get?_push_size _ (by rw [← hF1]; rfl)
  have hLs : ∃ o, s.heap.get? env.locals = some o := Ns.live hns
  have hLn2 := frN hL hLs x2
  have hLb : C.base.get? env.locals = none := (I0.fresh hL).2
  refine wpAny_storeName_local n3 ((hns.extBut e2 hLp).push _) (fun h3 hns3 hs3 => ?_) hblk
  have kf1 : s.heap.objs.size ≤ h2.objs.size := z2
  have hne1 : h2.objs.size ≠ env.locals := fun z => by obtain ⟨o, e⟩ := hLs; rw [none_ge1 (z ▸ kf1)] at e; cases e
  have hf3 : h3.get? h2.objs.size = some F1 := (hs3.2 _ hne1).trans hf1
  have I3 : Inv C ρ2 mh h3 := (I2.junk fun b o e => Heap.get?_push_of_some _ e).ext hLn2 hLb hs3.extBut
  have x3 : Ext C ρ [] s0 ρ2 h3 := (((Ext.all k1).trans x2).trans (Ext.all fun b o e => Heap.get?_push_of_some _ e)).step hL hs3.extBut
  have kc3 : ∀ {c v}, c ≠ env.locals → s0.get? c = none → s.heap.IsCell c v → h3.IsCell c v := fun hn e hc => IsCell.keep1 hc fun o eo => (hs3.2 _ hn).trans (Heap.get?_push_of_some _ (e2 _ o (frP e) eo))
  have hc31 := kc3 ne1 f1 hc1
  have hc32 := kc3 ne2 f2 hc2
  have z3 : h2.objs.size < h3.objs.size := Heap.lt_size hf3
  dsimp only
  -- def _law_give
  refine wpAny_execs_cons (nestDef_K hgp.1 hgp.2 hga ?_)
  rw [hq]
  refine mkFun ok hT hcode hge hgc I3 (fun pos' q' e => .inl (by rw [hgv] at e; cases e; exact ⟨rfl, rfl⟩)) fun cvG ctG docG ρ4 h4 tk4 I4 id4 st4 x4 e4 z4 cf4 => ?_
  generalize hF2 : (fdOf "_law_give" qualG gp (.stmts gbody) gsc [(("text" : Str), c1), (("at" : Str), c2)] docG ((C.mg "__name__").getD .none) cvG ctG) = F2
  have hf4 : (h4.push { cls := .type "function", data := .func F2 }).get? h4.objs.size = some { cls := .type "function", data := .func F2 } := Heap.get?_push_size _ rfl
  have x4' : Ext C ρ [] s0 ρ4 h4 := x3.trans x4
  have hLn4 : ¬ ρ4.has env.locals := fun hm => by
    rcases x4.fresh _ hm with q | q
    · exact hLn2 q
    · obtain ⟨o, eo⟩ := Ns.live hns3; rw [eo] at q; cases q
  refine wpAny_storeName_local n4 ((hns3.extBut e4 hLp).push _) (fun h5 hns5 hs5 => ?_) hblk
  have I5 : Inv C ρ4 mh h5 := (I4.junk fun b o e => Heap.get?_push_of_some _ e).ext hLn4 hLb hs5.extBut
  have x5 : Ext C ρ [] s0 ρ4 h5 := (x4'.trans (Ext.all fun b o e => Heap.get?_push_of_some _ e)).step hL hs5.extBut
  have kc5 : ∀ {a o}, a ≠ env.locals → s0.get? a = none → h3.get? a = some o → h5.get? a = some o := fun hn e eo => (hs5.2 _ hn).trans (Heap.get?_push_of_some _ (e4 _ _ (frP e) eo))
  have hf51 : h5.get? h2.objs.size = some F1 := kc5 hne1 (none_ge kf1) hf3
  have hLlt : env.locals < h3.objs.size := let ⟨o, eo⟩ := Ns.live hns3; Heap.lt_size eo
  have hne4 : h4.objs.size ≠ env.locals := Nat.ne_of_gt (Nat.lt_of_lt_of_le hLlt z4)
  have hf52 : h5.get? h4.objs.size = some { cls := .type "function", data := .func F2 } := (hs5.2 _ hne4).trans hf4
  have hc51 : h5.IsCell c1 (some (.str x tx)) := IsCell.keep1 hc31 fun o e => kc5 ne1 f1 e
  have hc52 : h5.IsCell c2 (some (.ref at_)) := IsCell.keep1 hc32 fun o e => kc5 ne2 f2 e
  dsimp only
  -- stream.read = _law_give
  refine wpAny_execs_cons (plainObj_wpAny_Assign_Attribute ?_ rfl)
  refine wpAny_Name (wpAny_loadName_local hk n4 hns5 (v := .ref h4.objs.size) (by simp) ?_) (by decide)
  refine wpAny_Name (wpAny_loadName_local hk n3 hns5 (v := .ref h2.objs.size) (by rw [if_neg (by decide)]; simp) ?_) (by decide)
  obtain ⟨fdL, rfl⟩ := hF1d
  refine setAttrF (I5.k ok) hf51 FS fun h6 hsh tk n' hD hF6 e6 t6 => ?_
  have gone : ∀ {a : Addr}, s0.get? a = none → C.base.get? a = none := fun e => (I0.fresh e).2
  have nf1 : ¬ ρ4.has h2.objs.size := fun hm => by
    rcases x4.fresh _ hm with q | q
    · obtain ⟨o, eo⟩ := I2.live q; rw [get_size] at eo; cases eo
    · rw [hf3] at q; cases q
  have I6 : Inv C ρ4 mh h6 := I5.ext nf1 (gone (none_ge kf1)) e6
  have x6 : Ext C ρ [] s0 ρ4 h6 := x5.step (none_ge kf1) e6
  have z4' : h3.objs.size ≤ h4.objs.size := z4
  have live1 : ∀ {a : Addr} {o : Obj}, s.heap.get? a = some o → a ≠ h2.objs.size := fun e => Nat.ne_of_lt (Nat.lt_of_lt_of_le (Heap.lt_size e) kf1)
  have hc61 : h6.IsCell c1 (some (.str x tx)) := let ⟨o, ho, _⟩ := hc1; IsCell.keep1 hc51 fun o' e => e6 _ _ (live1 ho) e
  have hc62 : h6.IsCell c2 (some (.ref at_)) := let ⟨o, ho, _⟩ := hc2; IsCell.keep1 hc52 fun o' e => e6 _ _ (live1 ho) e
  have z5 : h4.objs.size < h5.objs.size := Heap.lt_size hf52
  have hf62 : h6.get? h4.objs.size = some { cls := .type "function", data := .func F2 } := e6 _ _ (Nat.ne_of_gt (Nat.lt_of_lt_of_le z3 z4')) hf52
  have hns6 := Ns.keep1 hns5 fun o e => e6 _ _ (Ne.symm hne1) e
  obtain ⟨o1, ho1, hd1⟩ := hc61
  obtain ⟨o2, ho2, hd2⟩ := hc62
  have nid : ∀ {a : Addr}, s0.get? a = none → a ∉ ρ.ids := fun e hm => by obtain ⟨o, eo⟩ := I0.liveId hm; rw [eo] at e; cases e
  have fz : ∀ {ρ' : Wd} {a : Addr} {o : Obj}, Inv C ρ' mh h6 → ρ'.ids = ρ.ids → s0.get? a = none → h6.get? a = some o → Inv C (ρ'.froze a o) mh h6 := fun I' hi e eo => I'.freezeI (by rw [hi]; exact nid e) (gone e) eo
  have id6 : ρ4.ids = ρ.ids := id4.trans id2
  have g1 : s0.get? h2.objs.size = none := none_ge kf1
  have g2 : s0.get? h4.objs.size = none := none_ge (Nat.le_trans kf1 (Nat.le_trans (Nat.le_of_lt z3) z4'))
  have g3 : s0.get? h5.objs.size = none := none_ge (Nat.le_trans (Nat.le_trans kf1 (Nat.le_trans (Nat.le_of_lt z3) z4')) (Nat.le_of_lt z5))
  have J1 := fz I6 id6 f1 ho1
  have J2 := fz J1 id6 f2 ho2
  have J3 := fz J2 id6 g2 hf62
  have J4 := fz J3 id6 g3 hD
  have J5 := fz J4 id6 g1 hF6
  have X5 := ((((x6.freeze o1 f1).freeze o2 f2).freeze { cls := .type "function", data := .func F2 } g2).freeze (dictOf [⟨hsh, .str "read" tk, .ref h4.objs.size⟩] n') g3).freeze { cls := .type "function", dict := some h5.objs.size, data := .func fdL } g1
  have cf := cf4 hgv
  have ST : StrmOk C.give ((((((ρ4.froze c1 o1).froze c2 o2).froze h4.objs.size { cls := .type "function", data := .func F2 }).froze h5.objs.size (dictOf [⟨hsh, .str "read" tk, .ref h4.objs.size⟩] n')).froze h2.objs.size { cls := .type "function", dict := some h5.objs.size, data := .func fdL })).fz x at_ h2.objs.size := by
    refine ⟨_, _, _, h4.objs.size, _, F2, c1, tx, c2, List.mem_cons_self, rfl, ⟨_, rfl⟩, rfl, .tail _ (.head _), ?_, .tail _ (.tail _ (.head _)), rfl, rfl, ⟨?_, ?_⟩, ?_, ?_, ⟨o1, .tail _ (.tail _ (.tail _ (.tail _ (.head _)))), hd1⟩, ⟨o2, .tail _ (.tail _ (.tail _ (.head _))), hd2⟩⟩
    · rfl
    · rw [← hF2]; exact hgive _ _ _ _ _ _ hcc (gone f1) (gone f2)
    · rw [← hF2]; exact cf.mono fun q hq => .tail _ (.tail _ (.tail _ (.tail _ (.tail _ hq))))
    · rw [← hF2]; rfl
    · rw [← hF2]; rfl
  have J6 := J5.stream ST
  have X6 := X5.stream (x, at_, h2.objs.size)
  generalize hW : (Wd.mk _ _ _ _ : Wd) = W at J6 X6
  have VS : VR W (.strm x t) (.ref h2.objs.size) := by
    rw [← hW]
    unfold VR
    exact ⟨_, at_, rfl, by rw [show _ = ρ.ids from id6]; exact hat, .head _⟩
  -- return _netrclex(stream)
  refine wpAny_execs_cons (wpAny_Return_some ?_)
  refine wpAny_Call_NameR (Calls.Name_function_global hk n5 (Calls.loadGlobal_global (by rw [hge]; exact J6.g ok) hcN ?_) (by decide))
  refine callWith_K (J6.k ok) hkN (args_cons (wpAny_Name (wpAny_loadName_local hk n3 hns6 (v := .ref h2.objs.size) (by rw [if_neg (by decide)]; simp) ?_) (by decide)) rfl) rfl rfl
  refine args_nil ⟨J6.k ok, ?_⟩
  exact wpAny_call (hmk hmk1 ao J6 (so.heap _ _) (.cons VS .nil) fun v ρ' s' x' I' so' v' => hQ v ρ' s' (X6.trans x') I' so' v')
end Mine

namespace Mine
variable {C : Cx} {d : Nat} {env : Env}

theorem RF_lexer (ok : C.Ok) {p : Addr × Addr} {f cN : Addr} {oc : Value} {od : Option Addr} {osl : Array (Option Value)} {qual qualG : Str} {params : Arguments} {scope : Scope} {dV kV doc pm ct : Value} {an : Option Addr}
    {lp gp : Arguments} {lsc gsc : Scope} {gbody : List Stmt} {gpos lpos lpos2 p1 p4 p5 p6 p7 p8 p9 p10 p11 p12 : Pos} {k0 : Nat} {mk : DF}
    (hK : C.K.lookup f = some ⟨oc, od, .func (fnOf "_law_lexer" qual params (lexBody lp gp lsc gsc gbody gpos lpos lpos2 p1 p4 p5 p6 p7 p8 p9 p10 p11 p12 k0) scope dV kV doc pm an (.ref p.1) ct), osl⟩) (hcd : codeIn C.K (.ref p.1) qual = true)
    (hT : p ∈ C.T) (hgv : C.gv p.2 = some (gpos, qualG)) (hlg : (lpos.line : Int) ≠ gpos.line ∨ (lpos.col : Int) ≠ gpos.col) (hgive : ∀ c1 c2 doc pm cv ctv, c1 ≠ c2 → C.base.get? c1 = none → C.base.get? c2 = none → C.give (fdOf "_law_give" qualG gp (.stmts gbody) gsc [(("text" : Str), c1), (("at" : Str), c2)] doc pm cv ctv))
    (hcN : C.mg "_netrclex" = some (.ref cN)) (hkN : keepIn C.K (.ref cN) = true) (hmk : RF C d cN mk) (FS : FnStore C.K "read")
    (hbind : ∀ v w : Value, bindArgs (fnOf "_law_lexer" qual params (lexBody lp gp lsc gsc gbody gpos lpos lpos2 p1 p4 p5 p6 p7 p8 p9 p10 p11 p12 k0) scope dV kV doc pm an (.ref p.1) ct) ⟨[v, w], []⟩ = pure [(("text" : Str), v), (("at" : Str), w)])
    (hn1 : scope.names.lookup ("text" : Str) = some .cell) (hn2 : scope.names.lookup ("at" : Str) = some .cell) (hn3 : scope.names.lookup ("stream" : Str) = some .local) (hn4 : scope.names.lookup ("_law_give" : Str) = some .local) (hn5 : scope.names.lookup ("_netrclex" : Str) = some .globalImplicit)
    (hk : scope.kind = .function) (hco : scope.isCoroutine = false) (hgen : scope.isGenerator = false)
    (hlp : ∀ e, defaultsOf lp e = ([], [])) (hgp : gp.defaults = [] ∧ gp.kw_defaults = []) (hga : ∀ e, annTrees gp none e = []) (hlc : ∀ e, closureFor lsc e = pure [])
    (hgc : ∀ L, ∃ c1 c2, closureFor gsc (callEnvC (fnOf "_law_lexer" qual params (lexBody lp gp lsc gsc gbody gpos lpos lpos2 p1 p4 p5 p6 p7 p8 p9 p10 p11 p12 k0) scope dV kV doc pm an (.ref p.1) ct) L f) = pure [(("text" : Str), c1), (("at" : Str), c2)] ∧ c1 ≠ c2 ∧ (cellsFrom (L + 1) scope.names []).lookup ("text" : Str) = some c1 ∧ (cellsFrom (L + 1) scope.names []).lookup ("at" : Str) = some c2)
    (hq : ∀ L, qualnameIn (callEnvC (fnOf "_law_lexer" qual params (lexBody lp gp lsc gsc gbody gpos lpos lpos2 p1 p4 p5 p6 p7 p8 p9 p10 p11 p12 k0) scope dV kV doc pm an (.ref p.1) ct) L f) "_law_give" "_law_give" = qualG) :
    RF C (d + 1) f (fLexer mk) := by
  intro mvs mh mv mh' hfm ρ A s vs R ao I so hv hR
  unfold fLexer at hfm
  split at hfm
  · rename_i x t
    cases hv with
    | cons v1 v2 =>
      cases v2 with
      | cons v2 v3 =>
        cases v3
        obtain ⟨tx, rfl⟩ := v1.str_
        obtain ⟨at_, hat, rfl⟩ := v2.ref_
        have ho := (I.k ok) _ _ hK
        refine codeAny_call_cells ao.room ho rfl (I.nolimit ok) (codeRec_of (I.k ok) hcd) rfl (hbind _ _) rfl (fun y hy => ?_) (fun s₁ X => ?_) hco hgen hk
        · simp only [List.mem_cons, List.not_mem_nil, or_false] at hy
          rcases hy with rfl | rfl
          · exact .inr ⟨hn1, cellsFrom_has _ _ _ _ (.inl hn1)⟩
          · exact .inr ⟨hn2, cellsFrom_has _ _ _ _ (.inl hn2)⟩
        · obtain ⟨c1, c2, hclos, hcc, hc1, hc2⟩ := hgc s.heap.objs.size
          have hq' := hq s.heap.objs.size
          have hcell1 := X.cell _ _ hc1
          have hcell2 := X.cell _ _ hc2
          have hab1 : s.heap.objs.size < c1 := X.above _ _ (mem_of_lookup hc1)
          have hab2 : s.heap.objs.size < c2 := X.above _ _ (mem_of_lookup hc2)
          have hns := X.toInCall.ns
          have k1 := X.toInCall.keep
          have so1 : SOk C s₁ := by obtain ⟨h', tk, rfl⟩ := X.toInCall.same; exact so.heap _ _
          have hkl : ∀ n, (callEnvC (fnOf "_law_lexer" qual params (lexBody lp gp lsc gsc gbody gpos lpos lpos2 p1 p4 p5 p6 p7 p8 p9 p10 p11 p12 k0) scope dV kV doc pm an (.ref p.1) ct) s.heap.objs.size f).kindOf n = scope.names.lookup n := fun n => rfl
          have nge : ∀ {a : Addr}, s.heap.objs.size ≤ a → s.heap.get? a = none := fun hge' => by
            cases e : s.heap.get? _ with
            | none => rfl
            | some o => exact absurd (Heap.lt_size e) (Nat.not_lt.mpr hge')
          rw [show bindC (callEnvC (fnOf "_law_lexer" qual params (lexBody lp gp lsc gsc gbody gpos lpos lpos2 p1 p4 p5 p6 p7 p8 p9 p10 p11 p12 k0) scope dV kV doc pm an (.ref p.1) ct) s.heap.objs.size f).kindOf [(("text" : Str), .str x tx), (("at" : Str), .ref at_)] (fun _ => none) "text" = some (.str x tx) from
            bindC_in _ _ _ (by show ([("text" : Str), ("at" : Str)] : List Str).Nodup; decide) (.head _) hn1] at hcell1
          rw [show bindC (callEnvC (fnOf "_law_lexer" qual params (lexBody lp gp lsc gsc gbody gpos lpos lpos2 p1 p4 p5 p6 p7 p8 p9 p10 p11 p12 k0) scope dV kV doc pm an (.ref p.1) ct) s.heap.objs.size f).kindOf [(("text" : Str), .str x tx), (("at" : Str), .ref at_)] (fun _ => none) "at" = some (.ref at_) from
            bindC_in _ _ _ (by show ([("text" : Str), ("at" : Str)] : List Str).Nodup; decide) (.tail _ (.head _)) hn2] at hcell2
          exact lex_walk (env := callEnvC (fnOf "_law_lexer" qual params (lexBody lp gp lsc gsc gbody gpos lpos lpos2 p1 p4 p5 p6 p7 p8 p9 p10 p11 p12 k0) scope dV kV doc pm an (.ref p.1) ct) s.heap.objs.size f) ok hT hgv hlg hgive hcN hkN hmk FS hk rfl rfl hn3 hn4 hn5 (hlp _) hgp (hga _) (hlc _) hclos hcc hq' hfm ao.deeper I so1 k1 hns (get_size _) hcell1 hcell2 (nge (Nat.le_of_lt hab1)) (nge (Nat.le_of_lt hab2)) (Nat.ne_of_gt hab1) (Nat.ne_of_gt hab2) hat
            fun v ρ' s' x' I' so' v' => hR v ρ' s' x' I' so' v'
  · cases hfm
end Mine

namespace Mine
variable {C : Cx} {d : Nat} {env : Env}

/-! ## statements that keep all but the frame's own names -/
noncomputable def RSL (C : Cx) (d : Nat) (env : Env) (t : Sem Flow) (f : DS) : Prop :=
  ∀ {me mh fl me' mh'}, f me mh = some (fl, me', mh') → ∀ {ρ A s Q E}, Aok d A → Inv C ρ mh s.heap → SOk C s → FR C ρ env me s.heap →
    (∀ fl' ρ' s', Ext C ρ [env.locals] s.heap ρ' s'.heap → Inv C ρ' mh' s'.heap → SOk C s' → FR C ρ' env me' s'.heap → FlR ρ' fl fl' → Q fl' s') → wpAny C.M A t Q E s

theorem RSL_cons {st : Stmt} {rest : List Stmt} {f g : DS} (h1 : RSL C d env (exec st env) f) (h2 : RSL C d env (execs rest env) g) : RSL C d env (execs (st :: rest) env) (dSeq f g) := by
  intro me mh fl me' mh' hf ρ A s Q E ao I so F hQ
  refine wpAny_execs_cons ?_
  unfold dSeq at hf
  cases hf1 : f me mh with
  | none => rw [hf1] at hf; simp at hf
  | some r =>
    obtain ⟨fl1, me1, mh1⟩ := r
    rw [hf1] at hf
    refine h1 hf1 ao I so F fun fl' ρ1 s1 x1 I1 so1 F1 r1 => ?_
    cases fl1 with
    | next =>
      cases r1
      exact h2 hf ao I1 so1 F1 fun fl'' ρ2 s2 x2 I2 so2 F2 r2 => hQ _ _ _ (x1.trans x2) I2 so2 F2 r2
    | brk => cases hf; cases r1; exact hQ _ _ _ x1 I1 so1 F1 rfl
    | cont => cases hf; cases r1; exact hQ _ _ _ x1 I1 so1 F1 rfl
    | ret v => cases hf; obtain ⟨w, rfl, r⟩ := r1; exact hQ _ _ _ x1 I1 so1 F1 ⟨_, rfl, r⟩
theorem RSL_nil : RSL C d env (execs [] env) dNil := by
  intro me mh fl me' mh' hf ρ A s Q E ao I so F hQ
  cases hf
  exact wpAny_execs_nil (hQ _ _ _ (Ext.refl _ _ _) I so F rfl)
theorem RSL_assign (ok : C.Ok) {x : Nat} {n : Str} {p pos : Pos} {value : PySem.Expr} {f : D} (hx : C.tbl[x]? = some n) (hk : env.kindOf n = some .local)
    (h : RE C d env value f) (hs : swapsWith value (some (.Name n p)) pos.line env = pure false) : RSL C d env (exec (.Assign [.Name n p] value pos) env) (dAsg x f) := by
  intro me mh fl me' mh' hf ρ A s Q E ao I so F hQ
  unfold dAsg at hf
  split at hf
  · rename_i v mh1 hf1
    cases hf
    exact wpAny_Assign_Name (h hf1 ao I so F fun v ρ1 s1 x1 I1 so1 v1 => storeG (G := [env.locals]) ok hx (.inl ⟨hk, by simp⟩) I1 so1 (F.ext0 x1) v1 fun s2 x2 I2 so2 F2 => hQ _ _ _ (x1.wide.trans x2) I2 so2 F2 rfl) hs
  · cases hf
theorem RSL_ret {e : PySem.Expr} {pos : Pos} {f : D} (h : RE C d env e f) : RSL C d env (exec (.Return (some e) pos) env) (dRet f) := by
  intro me mh fl me' mh' hf ρ A s Q E ao I so F hQ
  unfold dRet at hf
  split at hf
  · rename_i v mh1 hf1
    cases hf
    exact wpAny_Return_some (h hf1 ao I so F fun v ρ1 s1 x1 I1 so1 v1 => hQ _ _ _ x1.wide I1 so1 (F.ext0 x1) ⟨_, rfl, v1⟩)
  · cases hf
theorem RSL_augItem {o i value : PySem.Expr} {tpos pos : Pos} {op : Operator} {fo fi fv : D} {oo : Op2} (h1 : RE C d env o fo) (h2 : RE C d env i fi) (h3 : RE C d env value fv) (ho : RO2 C d (inplaceOp op) oo)
    (hi : ∀ ov iv new, augStore i ov iv new = (do holding [new, ov, iv] (setItem ov iv new); release [new, ov, iv] []; pure .next) := by intros; rfl) :
    RSL C d env (exec (.AugAssign (.Subscript o i tpos) op value pos) env) (dAugI fo fi oo fv) := by
  intro me mh fl me' mh' hf ρ A s Q E ao I so F hQ
  unfold dAugI at hf
  split at hf
  · rename_i a mh1 e1
    split at hf
    · rename_i b mh2 e2
      split at hf
      · rename_i old mh3 e3
        split at hf
        · rename_i v mh4 e4
          split at hf
          · rename_i nw mh5 e5
            split at hf
            · rename_i mh6 e6
              cases hf
              refine wpAny_AugAssign_SubscriptAny (h1 e1 ao I so F fun va ρ1 s1 x1 I1 so1 v1 => h2 e2 ao I1 so1 (F.ext0 x1) fun vb ρ2 s2 x2 I2 so2 v2 => ?_) hi
              have x12 := x1.trans x2
              refine (item_ok (A := A) e3 I2 so2 (v1.mono x2.pre) v2 fun vo ρ3 s3 x3 I3 so3 v3 => ?_).1
              have x13 := x12.trans x3
              refine h3 e4 ao I3 so3 (F.ext0 x13) fun vv ρ4 s4 x4 I4 so4 v4 => ?_
              refine ho e5 ao I4 so4 (v3.mono x4.pre) v4 fun vn ρ5 s5 x5 I5 so5 v5 => ?_
              have x25 := x3.trans (x4.trans x5)
              refine setI_ok e6 I5 so5 ((v1.mono x2.pre).mono x25.pre) (v2.mono x25.pre) v5 fun s6 x6 I6 so6 => ?_
              have xx := x12.trans (x25.trans x6)
              exact hQ _ _ _ xx.wide I6 so6 (F.ext0 xx) rfl
            · cases hf
          · cases hf
        · cases hf
      · cases hf
    · cases hf
  · cases hf

/-! ## the call of a stream's read -/
/-- what a stream's read gives: the def's body on a mini heap of its own -/
noncomputable def oRead (xs xt xa : Nat) (F : DS) : MV → MV → MH → Option (MV × MH) := fun a v mh => match a, v with
  | .strm x t, .int k => (match mh[t]? with
    | some (.list [.int p]) => (match F [(xs, .int k), (xt, .str x), (xa, .ref 0)] [.list [.int p]] with
      | some (.ret (.str r), _, [.list [.int q]]) => some (.str r, mh.set t (.list [.int q]))
      | _ => none)
    | _ => none)
  | _, _ => none

noncomputable abbrev giveFd (qualG : Str) (gp : Arguments) (gbody : List Stmt) (gsc : Scope) (c1 c2 : Addr) (doc pm cv ctv : Value) : FuncData := fdOf "_law_give" qualG gp (.stmts gbody) gsc [(("text" : Str), c1), (("at" : Str), c2)] doc pm cv ctv

theorem give_call (ok : C.Ok) {qualG : Str} {gp : Arguments} {gbody : List Stmt} {gsc : Scope} {F : DS} {xs xt xa : Nat}
    (hG : ∀ fd, C.give fd → ∃ c1 c2 doc pm cv ctv, c1 ≠ c2 ∧ C.base.get? c1 = none ∧ C.base.get? c2 = none ∧ fd = giveFd qualG gp gbody gsc c1 c2 doc pm cv ctv)
    (hb : ∀ env : Env, env.scope = gsc → RSL C d env (execs gbody env) F)
    (hbind : ∀ c1 c2 doc pm cv ctv (v : Value), bindArgs (giveFd qualG gp gbody gsc c1 c2 doc pm cv ctv) ⟨[v], []⟩ = pure [(("size" : Str), v)])
    (hxs : C.tbl[xs]? = some ("size" : Str)) (hxt : C.tbl[xt]? = some ("text" : Str)) (hxa : C.tbl[xa]? = some ("at" : Str)) (hks : gsc.names.lookup ("size" : Str) = some .local) (hkt : gsc.names.lookup ("text" : Str) = some .free) (hka : gsc.names.lookup ("at" : Str) = some .free)
    (hcell : ∀ x ∈ gsc.names, x.2 ≠ .cell) (hfree : ∀ n, gsc.names.lookup n = some .free → n = "text" ∨ n = "at") (hk : gsc.kind = .function) (hco : gsc.isCoroutine = false) (hgen : gsc.isGenerator = false)
    {x : Str} {t : Nat} {k : Int} {mh mh' : MH} {r : MV} (h : oRead xs xt xa F (.strm x t) (.int k) mh = some (r, mh')) {ρ : Wd} {A : Around} {s : Shared} {R : Result → Shared → Prop} {at_ a : Addr} {tk : Tok}
    (ao : Aok (d + 1) A) (I : Inv C ρ mh s.heap) (so : SOk C s) (hat : ρ.ids[t]? = some at_) (hst : (x, at_, a) ∈ ρ.st)
    (hR : ∀ v ρ' s', Ext C ρ [] s.heap ρ' s'.heap → Inv C ρ' mh' s'.heap → SOk C s' → VR ρ' r v → R (.ok (.ret v)) s') :
    ∃ o od oD c oc fd, (a, o) ∈ ρ.fz ∧ o.cls = .type "function" ∧ (∃ f, o.data = .func f) ∧ o.dict = some od ∧ (od, oD) ∈ ρ.fz ∧ lookIn "read" oD = some (some (.ref c)) ∧ (c, oc) ∈ ρ.fz ∧ oc.cls = .type "function" ∧ oc.data = .func fd ∧
      codeAny C.M A (.call (.ref c) ⟨[.int k tk], []⟩) R s := by
  obtain ⟨o, od, oD, c, oc, fd, ct, tt, cat, a1, a2, a3, a4, a5, a6, a7, a8, a9, ⟨a10, a10'⟩, a11, a12, ⟨o1, m1, d1⟩, ⟨o2, m2, d2⟩⟩ := I.st _ hst
  refine ⟨o, od, oD, c, oc, fd, a1, a2, a3, a4, a5, a6, a7, a8, a9, ?_⟩
  obtain ⟨c1, c2, doc, pm, cv, ctv, hcc, hb1, hb2, rfl⟩ := hG _ a10
  have e1 : ct = c1 := by
    have : ([(("text" : Str), c1), (("at" : Str), c2)] : List (Str × Addr)).lookup ("text" : Str) = some ct := a12
    rw [show ([(("text" : Str), c1), (("at" : Str), c2)] : List (Str × Addr)).lookup ("text" : Str) = some c1 from rfl] at this
    cases this; rfl
  have e2 : cat = c2 := by
    have : ([(("text" : Str), c1), (("at" : Str), c2)] : List (Str × Addr)).lookup ("at" : Str) = some cat := a11
    rw [show ([(("text" : Str), c1), (("at" : Str), c2)] : List (Str × Addr)).lookup ("at" : Str) = some c2 from rfl] at this
    cases this; rfl
  subst e1 e2
  have hatm : at_ ∈ ρ.ids := List.mem_of_getElem? hat
  have n1 : ct ∉ ρ.ids := I.sep _ m1
  have n2 : cat ∉ ρ.ids := I.sep _ m2
  have g1 := I.fz _ m1
  have g2 := I.fz _ m2
  unfold oRead at h
  simp only at h
  split at h
  · rename_i p hp
    split at h
    · rename_i rr me' q hF
      cases h
      -- the world of the call
      let P : Addr × Obj → Bool := fun z => decide (z.1 ≠ ct) && decide (z.1 ≠ cat)
      have hP : ∀ {z : Addr × Obj}, z ∈ ρ.fz.filter P → z ∈ ρ.fz ∧ z.1 ≠ ct ∧ z.1 ≠ cat := fun {z} hz => by
        have := List.mem_filter.mp hz
        exact ⟨this.1, by simpa [P] using this.2⟩
      have hPi : ∀ {z : Addr × Obj}, z ∈ ρ.fz → z.1 ≠ ct → z.1 ≠ cat → z ∈ ρ.fz.filter P := fun hz h1 h2 => List.mem_filter.mpr ⟨hz, by simp [P, h1, h2]⟩
      have cfz : ∀ {v q}, CodeFz ρ.fz v q → CodeFz (ρ.fz.filter P) v q := by
        rintro v q ⟨b, ob, vs, tb, rfl, hm, hd, hv⟩
        refine ⟨b, ob, vs, tb, rfl, hPi hm ?_ ?_, hd, hv⟩
        · intro z
          have := I.fz _ hm
          rw [show (b, ob).1 = ct from z, g1] at this
          cases this; rw [d1] at hd; cases hd
        · intro z
          have := I.fz _ hm
          rw [show (b, ob).1 = cat from z, g2] at this
          cases this; rw [d2] at hd; cases hd
      obtain ⟨oa, hoa, was, na, rfl, ra⟩ := I.at hp hat
      have I0 : Inv C ⟨[at_], ρ.fz.filter P, [], ρ.pw⟩ [.list [.int p]] s.heap := by
        refine ⟨rfl, by simp, fun i mo hi => ?_, fun z hz => I.fz z (hP hz).1, fun z hz => ?_, fun z hz => by simp at hz, fun b hb => ?_, fun z hz => I.newf z (hP hz).1, I.keep, fun z hz => let ⟨ps, q1, q2⟩ := I.tab z hz; ⟨ps, q1, fun pos q e v hv => cfz (q2 pos q e v hv)⟩, I.xb, I.pw⟩
        · cases i with
          | zero =>
            simp at hi; subst hi
            refine ⟨at_, _, rfl, hoa, was, na, rfl, ?_⟩
            cases ra with
            | cons r1 r2 => cases r2; obtain ⟨ti, rfl⟩ := r1.int_; exact .one .int'
          | succ i => simp at hi
        · simp only [List.mem_singleton]
          exact fun z2 => I.sep z (hP hz).1 (z2 ▸ hatm)
        · simp only [List.mem_singleton] at hb; subst hb; exact I.new _ hatm
      have cdr : s.heap.CodeRec cv qualG := by
        obtain ⟨b, ob, vs, tb, rfl, hm, hd, hv⟩ := a10'
        exact ⟨b, ob, vs, tb, rfl, I.fz _ hm, hd, hv⟩
      refine ks_codeAny_call_defAt (fd := giveFd qualG gp gbody gsc ct cat doc pm cv ctv) (binds := [(("size" : Str), .int k tk)]) ao.room (I.fz _ a7) a9 (I.nolimit ok) cdr rfl (BindsTo.of_eq (hbind _ _ _ _ _ _ _)) hcell (fun y hy => by simp at hy; subst hy; exact hks) (fun h0 hns k0 => wpAt_of_wpAny ?_) hco hgen hk
      have I1 : Inv C ⟨[at_], ρ.fz.filter P, [], ρ.pw⟩ [.list [.int p]] h0 := I0.junk k0
      have L0 : s.heap.get? s.heap.objs.size = none := get_size _
      have hl1 : ct ≠ s.heap.objs.size := fun z => by rw [show ct = s.heap.objs.size from z, L0] at g1; cases g1
      have hl2 : cat ≠ s.heap.objs.size := fun z => by rw [show cat = s.heap.objs.size from z, L0] at g2; cases g2
      have F1 : FR C ⟨[at_], ρ.fz.filter P, [], ρ.pw⟩ (callEnv (giveFd qualG gp gbody gsc ct cat doc pm cv ctv) s.heap.objs.size c) [(xs, .int k), (xt, .str x), (xa, .ref 0)] h0 := by
        have nh : ∀ b ∈ fa (callEnv (giveFd qualG gp gbody gsc ct cat doc pm cv ctv) s.heap.objs.size c), ¬ Wd.has ⟨[at_], ρ.fz.filter P, [], ρ.pw⟩ b ∧ C.base.get? b = none := by
          intro b hb'
          have hb2 : b = s.heap.objs.size ∨ b = ct ∨ b = cat := by simpa [fa, callEnv, newEnv] using hb'
          rcases hb2 with rfl | rfl | rfl
          · refine ⟨fun hm => ?_, (I.fresh L0).2⟩
            rcases hm with q | ⟨oz, q⟩
            · simp only [List.mem_singleton] at q; rw [q] at L0; rw [L0] at hoa; cases hoa
            · have := I.fz _ (hP q).1; rw [L0] at this; cases this
          · refine ⟨fun hm => ?_, hb1⟩
            rcases hm with q | ⟨oz, q⟩
            · simp only [List.mem_singleton] at q; exact n1 (q ▸ hatm)
            · exact (hP q).2.1 rfl
          · refine ⟨fun hm => ?_, hb2⟩
            rcases hm with q | ⟨oz, q⟩
            · simp only [List.mem_singleton] at q; exact n2 (q ▸ hatm)
            · exact (hP q).2.2 rfl
        refine ⟨hk, rfl, rfl, ⟨_, hns⟩, fun n cc hm => ?_, nh, fun b hb' => I.not_x (nh b hb').2, ?_, fun n cc hm => ?_, fun n hn => ?_, fun n hn => ?_, fun y my n hy ht => ?_⟩
        · have hm2 : (n, cc) = (("text" : Str), ct) ∨ (n, cc) = (("at" : Str), cat) := by simpa [callEnv, newEnv] using hm
          rcases hm2 with e | e
          · cases e; exact ⟨_, o1, k0 _ _ g1, d1⟩
          · cases e; exact ⟨_, o2, k0 _ _ g2, d2⟩
        · show ([(("text" : Str), ct), (("at" : Str), cat)] : List (Str × Addr)).Pairwise _
          simp [hcc]
        · have hm2 : (n, cc) = (("text" : Str), ct) ∨ (n, cc) = (("at" : Str), cat) := by simpa [callEnv, newEnv] using hm
          rcases hm2 with e | e
          · cases e; exact hl1
          · cases e; exact hl2
        · exact absurd rfl (hcell (n, .cell) (mem_of_lookup hn))
        · rcases hfree n hn with rfl | rfl
          · exact ⟨ct, rfl⟩
          · exact ⟨cat, rfl⟩
        · have hkn : ∀ n, (callEnv (giveFd qualG gp gbody gsc ct cat doc pm cv ctv) s.heap.objs.size c).kindOf n = gsc.names.lookup n := fun n => rfl
          have hcl : ∀ n, (callEnv (giveFd qualG gp gbody gsc ct cat doc pm cv ctv) s.heap.objs.size c).cells.lookup n = ([(("text" : Str), ct), (("at" : Str), cat)] : List (Str × Addr)).lookup n := fun n => rfl
          rw [List.lookup_cons] at hy
          by_cases e : y = xs
          · subst e
            simp at hy; subst hy
            rw [hxs] at ht; cases ht
            refine ⟨.int k tk, .int', ?_⟩
            unfold VarAt
            rw [hkn, hks]
            exact ⟨_, hns, rfl⟩
          · rw [show (y == xs) = false by simpa using e] at hy
            simp only at hy
            rw [List.lookup_cons] at hy
            by_cases e : y = xt
            · subst e
              simp at hy; subst hy
              rw [hxt] at ht; cases ht
              refine ⟨.str x tt, .str', ?_⟩
              unfold VarAt
              rw [hkn, hkt]
              exact ⟨ct, rfl, o1, k0 _ _ g1, d1⟩
            · rw [show (y == xt) = false by simpa using e] at hy
              simp only at hy
              rw [List.lookup_cons] at hy
              by_cases e : y = xa
              · subst e
                simp at hy; subst hy
                rw [hxa] at ht; cases ht
                refine ⟨.ref at_, .ref' rfl, ?_⟩
                unfold VarAt
                rw [hkn, hka]
                exact ⟨cat, rfl, o2, k0 _ _ g2, d2⟩
              · rw [show (y == xa) = false by simpa using e] at hy
                simp at hy
      refine hb (callEnv (giveFd qualG gp gbody gsc ct cat doc pm cv ctv) s.heap.objs.size c) rfl hF ao.deeper I1 (so.heap _ _) F1 fun fl' ρ1 s' x1 I2 so2 F2 r2 => ?_
      obtain ⟨rv, rfl, hrv⟩ := r2
      obtain ⟨tr, rfl⟩ := hrv.str_
      have hle : ρ.le ⟨ρ.ids, ρ.fz ++ ρ1.fz, ρ.st, ρ.pw⟩ := ⟨⟨[], by simp⟩, fun z hz => List.mem_append_left _ hz, fun z hz => hz, rfl⟩
      have stand : ∀ b o, s.heap.get? b = some o → b ≠ at_ → b ∉ C.X → s'.heap.get? b = some o := fun b o e h1 h2 => x1.keep b o (k0 _ _ e) (by simpa using h1) h2 (by
        show b ∉ [s.heap.objs.size]
        simp only [List.mem_singleton]
        exact Nat.ne_of_lt (Heap.lt_size e))
      have old0 : ∀ b, h0.get? b = none → s.heap.get? b = none := fun b e => by
        cases e2 : s.heap.get? b with
        | none => rfl
        | some ob => rw [k0 _ _ e2] at e; cases e
      have frs : ∀ b, ρ1.has b → (b = at_ ∨ ∃ ob, (b, ob) ∈ ρ.fz) ∨ s.heap.get? b = none := fun b hb' => by
        rcases x1.fresh b hb' with q | q
        · rcases q with q | ⟨ob, q⟩
          · exact .inl (.inl (by simpa using q))
          · exact .inl (.inr ⟨ob, (hP q).1⟩)
        · exact .inr (old0 _ q)
      have xE : Ext C ρ [] s.heap ⟨ρ.ids, ρ.fz ++ ρ1.fz, ρ.st, ρ.pw⟩ s'.heap := by
        refine ⟨hle, fun b ob e h1 h2 _ => stand b ob e (fun z => h1 (z ▸ hatm)) h2, fun b hb' => .inl hb', fun b hb' => ?_, fun b ob e => x1.live b ob (k0 _ _ e)⟩
        rcases hb' with q | ⟨ob, q⟩
        · exact .inl (.inl q)
        · rcases List.mem_append.mp q with q | q
          · exact .inl (.inr ⟨ob, q⟩)
          · rcases frs b (.inr ⟨ob, q⟩) with (q | q) | q
            · exact .inl (.inl (q ▸ hatm))
            · exact .inl (.inr q)
            · exact .inr q
      have hat1 : ρ1.ids[0]? = some at_ := pre_get0 x1.pre.ids rfl
      have hat1m : at_ ∈ ρ1.ids := List.mem_of_getElem? hat1
      refine hR (.str rr tr) ⟨ρ.ids, ρ.fz ++ ρ1.fz, ρ.st, ρ.pw⟩ s' xE ⟨by simp [I.len], I.nd, fun i mo hi => ?_, fun z hz => ?_, fun z hz => ?_, fun z hz => (I.st z hz).mono fun q hq => List.mem_append_left _ hq, I.new, fun z hz => ?_, I2.keep, fun z hz => let ⟨ps, q1, q2⟩ := I2.tab z hz; ⟨ps, q1, q2.mono fun q hq => List.mem_append_right _ hq⟩, I2.xb, I.pw⟩ so2 .str'
      · by_cases e : t = i
        · subst e
          rw [List.getElem?_set_self (mh_lt hp)] at hi
          cases hi
          obtain ⟨b, ob, q1, q2, q3⟩ := I2.obj 0 _ rfl
          rw [hat1] at q1; cases q1
          obtain ⟨ws, nn, rfl, rw_⟩ := q3
          refine ⟨at_, _, hat, q2, ws, nn, rfl, ?_⟩
          cases rw_ with
          | cons r1 r2 => cases r2; obtain ⟨ti, rfl⟩ := r1.int_; exact .one .int'
        · rw [List.getElem?_set_ne e] at hi
          obtain ⟨b, ob, q1, q2, q3⟩ := I.obj i mo hi
          have hbm := List.mem_of_getElem? q1
          refine ⟨b, ob, q1, stand b ob q2 (fun z => e ?_) (I.id_x hbm), q3.mono hle⟩
          subst z
          obtain ⟨li, ei⟩ := List.getElem?_eq_some_iff.mp hat
          obtain ⟨lj, ej⟩ := List.getElem?_eq_some_iff.mp q1
          exact (List.getElem_inj I.nd).mp (ei.trans ej.symm)
      · rcases List.mem_append.mp hz with q | q
        · exact stand _ _ (I.fz z q) (fun e => I.sep z q (e ▸ hatm)) (I.newf z q)
        · exact I2.fz z q
      · rcases List.mem_append.mp hz with q | q
        · exact I.sep z q
        · intro hm
          rcases frs z.1 (.inr ⟨z.2, q⟩) with (q2 | ⟨ob, q2⟩) | q2
          · exact I2.sep z q (q2 ▸ hat1m)
          · exact I.sep _ q2 hm
          · obtain ⟨ob, e⟩ := I.liveId hm; rw [q2] at e; cases e
      · rcases List.mem_append.mp hz with q | q
        · exact I.newf z q
        · exact I2.newf z q
    · cases h
  · cases h
end Mine

namespace Mine
open Builtin Builtin.ObjectAttr Builtin.Getset_descriptor
variable {C : Cx} {d : Nat} {env : Env}

/-! ## an attribute of a def is read -/
theorem fn_ga : typeLookup (.type "function") "__getattribute__" = pure (some (.builtin "object.__getattribute__")) := by rw [typeLookup_type, builtinLookup_eq_fast]; kernel_rfl
theorem fn_gh : typeLookup (.type "function") "__getattr__" = pure none := by rw [typeLookup_type, builtinLookup_eq_fast]; kernel_rfl
theorem fn_read : typeLookup (.type "function") "read" = pure none := by rw [typeLookup_type, builtinLookup_eq_fast]; kernel_rfl
theorem slot_fn_ga : Slot "function" "__getattribute__" "object.__getattribute__" := .of (owner := "object") (n := "__getattribute__") fn_ga (by decide +kernel) (by decide +kernel) (by decide +kernel)
  (by first | exact .inl (by decide +kernel) | exact .inr (by decide +kernel)) (by rw [isSubtype_type]; kernel_rfl)
theorem entry_obj_ga : entryFor table "object.__getattribute__" = some Builtin.«object.__getattribute__» := entryFor_of_tree (by kernel_rfl)
theorem args_obj_ga (o a : Value) : argsOk "object.__getattribute__" ⟨[o, a], []⟩ := by unfold argsOk; kernel_rfl

theorem fn_ga_read {prog : Program} {w : World} {A : Around} {E : Value → Shared → Prop} {h : Heap} {g : Array GenState} {dr : Drawn} {t : Nat} {os : OsState} {a c dx : Addr} {fd : FuncData} {o oD : Obj} {u : Tok} {Q : PySem.Fin → Shared → Prop}
    (ho : h.get? a = some o) (hc : o.cls = .type "function") (hf : o.data = .func fd) (hd : o.dict = some dx) (hD : h.get? dx = some oD) (hl : lookIn "read" oD = some (some (.ref c)))
    (q : Q (.done (.ret (.ref c))) ⟨h, g, dr, t, os⟩) : wpAny (model prog w) A (Builtin.«object.__getattribute__» ⟨[.ref a, .str "read" u], []⟩) Q E ⟨h, g, dr, t, os⟩ := by
  obtain ⟨oc, od, oda, osl⟩ := o
  dsimp only at hc hf hd
  subst hc hf hd
  have hT : (⟨h, g, dr, t, os⟩ : Shared).TypeIs (.ref a) "function" := ⟨_, ho, rfl⟩
  have own : Looks (model prog w) h (inOwnDict "read" (.ref a)) (some (.ref c)) := by
    intro A Q E s k q
    refine wpAny_bind (wpAny_bind (wpAny_loadPart (k _ _ ho) ?_))
    show wpAny _ _ (instanceDict a false) _ _ _
    unfold instanceDict
    refine wpAny_bind (wpAny_loadPart (k _ _ ho) ?_)
    refine wpAny_pure (a := some dx) ?_
    refine wpAny_bind (wpAny_loadPart (k _ _ hD) ?_)
    rw [nsLook_of hl]; exact wpAny_pure q
  unfold Builtin.«object.__getattribute__»
  have hs : slotArgs "__getattribute__" 1 ⟨[.ref a, .str "read" u], []⟩ = pure (.ref a, [.str "read" u]) := rfl
  rw [hs]
  refine wpAny_bind (wpAny_pure ?_)
  dsimp only
  refine wpAny_bind (wpAny_pure (wpAny_bind (wpAny_typeOf hT ?_)))
  refine wpAny_bind ?_
  unfold find
  rw [fn_read]
  refine wpAny_bind (wpAny_pure (wpAny_bind (wpAny_pure (wpAny_bind (wpAny_pure ?_)))))
  unfold ownThenClass
  refine wpAny_bind (own.at ?_)
  exact wpAny_bind (wpAny_rule (wpAny_pure (wpAny_pure q)))

theorem getMethod_fn {prog : Program} {w : World} {A : Around} {E : Value → Shared → Prop} {h : Heap} {g : Array GenState} {dr : Drawn} {t : Nat} {os : OsState} {a c dx : Addr} {fd : FuncData} {o oD : Obj} {pl : Sem Bool} {Q : Value × List Value → Shared → Prop}
    (ho : h.get? a = some o) (hc : o.cls = .type "function") (hf : o.data = .func fd) (hd : o.dict = some dx) (hD : h.get? dx = some oD) (hl : lookIn "read" oD = some (some (.ref c)))
    (hq : Q (.ref c, []) ⟨h, g, dr, t + 1, os⟩) : wpAny (model prog w) A (getMethod (.ref a) "read" pl) Q E ⟨h, g, dr, t, os⟩ := by
  have hT : ∀ t', (⟨h, g, dr, t', os⟩ : Shared).TypeIs (.ref a) "function" := fun _ => ⟨_, ho, hc⟩
  unfold getMethod
  refine wpAny_bind (wpAny_specialOf (hT _) fn_ga ?_)
  show wpAny _ _ (if (Manifest.canonical "object.__getattribute__" != "object.__getattribute__") = true then _ else _) _ _ _
  rw [if_neg (show ¬ (Manifest.canonical "object.__getattribute__" != "object.__getattribute__") = true by decide +kernel)]
  refine wpAny_bind (wpAny_specialOf (hT _) fn_gh ?_)
  refine wpAny_bind (wpAny_specialOf (hT _) fn_read ?_)
  unfold getAttr getAttrBy
  refine wpAny_bind (wpAny_bind (wpAny_mkText (wpAny_holding (wpAny_bind (wpAny_typeOf (hT _) (wpAny_bind (wpAny_of_eq fn_ga ?_)))))))
  show wpAny _ _ (getAttrByItsOwn (.ref a) (.str "read" t) (.type "function") (.builtin "object.__getattribute__") true false) _ _ _
  unfold getAttrByItsOwn hookBefore callGetattribute boundAndCalled
  refine wpAny_bind (wpAny_of_eq (show (if onTheHeap (.type "function") then typeLookup (.type "function") "__getattr__" else pure none) = pure none from rfl) ?_)
  refine wpAny_bind (wpAny_attempt (wpAny_holding ?_))
  show wpAny _ _ (bindSpecial (.builtin "object.__getattribute__") (.ref a) >>= _) _ _ _
  refine wpAny_bind (wpAny_of_eq (slot_fn_ga.bind _) ?_)
  refine wpAny_mono (Q := fun v s' => v = .ref c ∧ s' = ⟨h, g, dr, t + 1, os⟩) (E := fun _ _ => False)
    (wpAny_call_entry slot_fn_ga (hT _) entry_obj_ga (fn_ga_read ho hc hf hd hD hl ⟨_, rfl, rfl, rfl⟩) (args_obj_ga _ _)) (fun v s' hv => ?_) fun _ _ z => z.elim
  obtain ⟨rfl, rfl⟩ := hv
  exact wpAny_pure (wpAny_pure hq)

noncomputable def dRead (rd : MV → MV → MH → Option (MV × MH)) (f g : D) : D := fun me mh => match f me mh with
  | some (a, mh1) => (match g me mh1 with
    | some (v, mh2) => rd a v mh2
    | none => none)
  | none => none

theorem RE_read (ok : C.Ok) {qualG : Str} {gp : Arguments} {gbody : List Stmt} {gsc : Scope} {F : DS} {xs xt xa : Nat}
    (hG : ∀ fd, C.give fd → ∃ c1 c2 doc pm cv ctv, c1 ≠ c2 ∧ C.base.get? c1 = none ∧ C.base.get? c2 = none ∧ fd = giveFd qualG gp gbody gsc c1 c2 doc pm cv ctv)
    (hb : ∀ env : Env, env.scope = gsc → RSL C d env (execs gbody env) F)
    (hbind : ∀ c1 c2 doc pm cv ctv (v : Value), bindArgs (giveFd qualG gp gbody gsc c1 c2 doc pm cv ctv) ⟨[v], []⟩ = pure [(("size" : Str), v)])
    (hxs : C.tbl[xs]? = some ("size" : Str)) (hxt : C.tbl[xt]? = some ("text" : Str)) (hxa : C.tbl[xa]? = some ("at" : Str)) (hks : gsc.names.lookup ("size" : Str) = some .local) (hkt : gsc.names.lookup ("text" : Str) = some .free) (hka : gsc.names.lookup ("at" : Str) = some .free)
    (hcell : ∀ x ∈ gsc.names, x.2 ≠ .cell) (hfree : ∀ n, gsc.names.lookup n = some .free → n = "text" ∨ n = "at") (hk : gsc.kind = .function) (hco : gsc.isCoroutine = false) (hgen : gsc.isGenerator = false)
    {o e : PySem.Expr} {apos pos : Pos} {pl : Sem Bool} {f g : D}
    (ho : RE C (d + 1) env o f) (ha : RE C (d + 1) env e g) (hbase : attributeBase o "read" env (eval o env) = eval o env)
    (he : eval (.Call (.Attribute o "read" apos) [e] [] pos) env = (do
      let ov ← attributeBase o "read" env (eval o env)
      standAt apos.atName
      let (f, first) ← holding [ov] (getMethod ov "read" pl)
      callWith pos f first (backTo pos (starEach [e] env)) []) := by rfl)
    (hs : starEach [e] env = (false, eval e env) :: starEach [] env := by rfl) : RE C (d + 1) env (.Call (.Attribute o "read" apos) [e] [] pos) (dRead (oRead xs xt xa F) f g) := by
  intro me mh mv mh' h ρ A s Q E ao I so FF hQ
  unfold dRead at h
  split at h
  · rename_i a mh1 h1
    split at h
    · rename_i v mh2 h2
      have hsh : ∃ x t k, a = .strm x t ∧ v = .int k := by
        unfold oRead at h
        split at h
        · exact ⟨_, _, _, rfl, rfl⟩
        · cases h
      obtain ⟨x, t, k, rfl, rfl⟩ := hsh
      rw [he, hbase]
      refine wpAny_bind (ho h1 ao I so FF fun rv ρ1 s1 x1 I1 so1 v1 => ?_)
      obtain ⟨ad, at_, rfl, hat, hst⟩ := v1.strm_
      obtain ⟨o1, od, oD, c, oc, fd, ct, tt, cat, a1, a2, ⟨fdo, a3⟩, a4, a5, a6, a7, a8, a9, _⟩ := I1.st _ hst
      obtain ⟨hh1, g1, dr1, t1, os1⟩ := s1
      refine wpAny_bind (wpAny_standAt (wpAny_bind (wpAny_holding (getMethod_fn (I1.fz _ a1) a2 a3 a4 (I1.fz _ a5) a6 ?_))))
      have hRL : RArgs C (d + 1) env [e] (dL1 g dL0) := RL_cons ha RL_nil hs
      have hg := hRL pos (mvs := [.int k]) (mh' := mh2) (me := me) (mh := mh1) (by unfold dL1; rw [h2]; rfl) (A := A) (E := E) (Q := fun ws s2 => (s2.heap.get? c = some oc ∧ oc.data = .func fd) ∧ wpAny C.M A (call (.ref c) ([] ++ ws)) Q E s2) ao (s := ⟨hh1, g1, dr1, t1 + 1, os1⟩) I1 (so1.heap _ _) (FF.ext0 x1)
        fun ws ρ2 s2 x2 I2 so2 v2 => ⟨⟨I2.fz _ (x2.pre.fz _ a7), a9⟩, by
          cases v2 with
          | cons w1 w2 =>
            cases w2
            obtain ⟨tk, rfl⟩ := w1.int_
            obtain ⟨o1', od', oD', c', oc', fd', b1, b2, b3, b4, b5, b6, b7, b8, b9, hcall⟩ := give_call ok hG hb hbind hxs hxt hxa hks hkt hka hcell hfree hk hco hgen h (A := A) (tk := tk) (R := fun r s' => match r with | .ok (.ret v) => Q v s' | .ok _ => False | .error e => E e s') ao I2 so2 (pre_get x2.pre hat) (x2.pre.st _ hst)
              (fun v ρ' s' x' I' so' v' => hQ v ρ' s' (x1.trans (x2.trans x')) I' so' v')
            have q1 := I2.fz _ (x2.pre.fz _ a1)
            have q2 := I2.fz _ b1
            rw [show (ad, o1).1 = ad from rfl, show (ad, o1).2 = o1 from rfl] at q1
            rw [show (ad, o1').1 = ad from rfl, show (ad, o1').2 = o1' from rfl, q1] at q2
            cases q2
            rw [a4] at b4; cases b4
            have q3 := I2.fz _ (x2.pre.fz _ a5)
            have q4 := I2.fz _ b5
            rw [show (od, oD).1 = od from rfl, show (od, oD).2 = oD from rfl] at q3
            rw [show (od, oD').1 = od from rfl, show (od, oD').2 = oD' from rfl, q3] at q4
            cases q4
            rw [a6] at b6; cases b6
            exact wpAny_call hcall⟩
      dsimp only
      rw [hs] at hg ⊢
      exact Calls.callWith_function (o := oc) (fd := fd) (Calls.evalArgs_plain hg)
    · cases h
  · cases h
end Mine

namespace Mine
theorem slot_cit_next : Slot "callable_iterator" "__next__" "callable_iterator.__next__" := .of (owner := "callable_iterator") (n := "__next__") (by rw [typeLookup_type, builtinLookup_eq_fast]; kernel_rfl) (by decide +kernel) (by decide +kernel) (by decide +kernel)
  (by first | exact .inl (by decide +kernel) | exact .inr (by decide +kernel)) (by rw [isSubtype_type]; kernel_rfl)
theorem entry_cit_next : entryFor table "callable_iterator.__next__" = some Builtin.«callable_iterator.__next__» := entryFor_of_tree (by kernel_rfl)
theorem args_cit_next (o : Value) : argsOk "callable_iterator.__next__" ⟨[o], []⟩ := by unfold argsOk; kernel_rfl
open Builtin Builtin.SmallTypes
variable {M : Model} {A : Around} {E : Value → Shared → Prop} {s : Shared}
theorem wpAny_callBorrowed {f : Value} {pos : List Value} {Q : Value → Shared → Prop}
    (hc : codeAny M A (.call f ⟨pos, []⟩) (fun r s' => match r with | .ok (.ret v) => Q v s' | .ok _ => False | .error e => E e s') s) : wpAny M A (callBorrowed f pos) Q E s := fun Γ p hΓ => by
  unfold callBorrowed
  rw [Sem.wp_call]
  refine wpCode_mono (fun r s' h => ?_) (hc _ p rfl (hΓ.enter _ none p (by intro x; cases x)))
  rcases r with e | (v | _ | _ | _) <;> first | exact h | exact h.elim

theorem isFun_borrow {h : Heap} {ma f : Addr} {x : Value} {of : Obj} {fd : FuncData} (hm : h.get? ma = some (methodObj (.ref f) x)) (hf : h.get? f = some of) (hfd : of.data = .func fd) : Looks M h (borrowsExactly (.ref ma)) true := by
  intro A Q E s k q
  unfold borrowsExactly
  refine wpAny_bind (wpAny_load (k _ _ hm) ?_)
  show wpAny _ _ (if (Value.type "method" == Value.type "method") = true then _ else _) _ _ _
  rw [if_pos (by decide)]
  show wpAny _ _ (load f >>= _) _ _ _
  refine wpAny_bind (wpAny_load (k _ _ hf) ?_)
  rw [hfd]
  exact wpAny_pure q

noncomputable abbrev citObj (ma : Addr) (te : Tok) : Obj := { cls := .type "callable_iterator", data := .fields #[.ref ma, .str "" te, .bool false] }
noncomputable abbrev citEnd : Obj := { cls := .type "callable_iterator", data := .fields #[.none, .none, .bool true] }

/-- the end of a walk: StopIteration comes and is told -/
theorem stop_told {α : Type} {P : α → Shared → Prop} {prog : Program} {w : World} {s : Shared} {Q : Option Value → Shared → Prop} {E : Value → Shared → Prop} (hh : A.handled = none)
    (hQ : ∀ h' tk, (∀ b ob, s.heap.get? b = some ob → h'.get? b = some ob) → Q none { s with heap := h', toks := tk }) :
    wpAny (model prog w) A.in1 (Builtin.SmallTypes.stopIteration (α := α)) P
      (fun e s' => wpAny (model prog w) A (isInstance e (.type "StopIteration")) (fun b s'' => b = true ∧ Q none s'') E s') s := by
  show wpAny _ _ (newExc (.type "StopIteration") [] >>= _) _ _ _
  refine wpAny_bind ?_
  simp only [newExc, newTuple]
  refine wpAny_bind (wpAny_newObj_type ?_ (by size_fits))
  refine wpAny_bind (m := firstArgMember _ _) (wpAny_of_eq (a := Value.none) (by first | rfl | (simp only [firstArgMember]; rfl)) ?_)
  refine wpAny_newObj_type ?_ (by size_fits)
  simp only [raiseNew]
  refine wpAny_bind (wpAny_handled ?_)
  rw [show A.in1.handled = none from hh]
  refine wpAny_bind (wpAny_pure (wpAny_throw ?_))
  refine wpAny_isInstance (T := "StopIteration") (b := true) ⟨_, Heap.get?_push_size _ rfl, rfl⟩ isSubtype_stop ?_
  exact ⟨rfl, hQ _ _ fun b ob e => Heap.get?_push_of_some _ (Heap.get?_push_of_some _ e)⟩

theorem cnext_live {prog : Program} {w : World} {s : Shared} {it ma f : Addr} {x : Value} {te : Tok} {of : Obj} {fd : FuncData} {Q : Option Value → Shared → Prop} {E : Value → Shared → Prop} (hh : A.handled = none)
    (ho : s.heap.get? it = some (citObj ma te)) (hm : s.heap.get? ma = some (methodObj (.ref f) x)) (hf : s.heap.get? f = some of) (hfd : of.data = .func fd)
    (hc : codeAny (model prog w) A.in1 (.call (.ref f) ⟨[x], []⟩) (fun r s1 => ∃ y t ma' te' x', r = .ok (.ret (.str y t)) ∧ s1.heap.get? it = some (citObj ma' te') ∧ s1.heap.get? ma' = some (methodObj (.ref f) x') ∧ s1.heap.get? f = some of ∧
      ((y ≠ "" ∧ Q (some (.str y t)) s1) ∨ (y = "" ∧ ∀ h' tk, h'.get? it = some citEnd → Heap.ExtBut it s1.heap h' → Q none { s1 with heap := h', toks := tk }))) s) :
    wpAny (model prog w) A (pyNext (.ref it)) Q E s := by
  have hT : s.TypeIs (.ref it) "callable_iterator" := ⟨_, ho, rfl⟩
  unfold pyNext
  refine wpAny_bind (wpAny_attempt (wpAny_callSpecial?_slot (name := Str.ofString "__next__") hT slot_cit_next (wpAny_mono (Q := fun v s' => Q (some v) s') (E := fun e s' => wpAny (model prog w) A (isInstance e (.type "StopIteration")) (fun b s'' => b = true ∧ Q none s'') E s')
    (wpAny_call_entry slot_cit_next hT entry_cit_next ?_ (args_cit_next _)) (fun v s' q => wpAny_pure q) fun e s' q => wpAny_bind (wpAny_mono q (fun b s'' ⟨hb, z⟩ => by subst hb; exact wpAny_pure z) fun _ _ z => z))))
  unfold Builtin.«callable_iterator.__next__»
  have hs : slotArgs "__next__" 0 ⟨[.ref it], []⟩ = pure (.ref it, []) := rfl
  rw [hs]
  refine wpAny_bind (wpAny_pure ?_)
  dsimp only
  refine wpAny_bind (wpAny_field ho rfl (x := .bool false) rfl ?_)
  rw [if_neg (by decide)]
  refine wpAny_bind (wpAny_field ho rfl (x := .ref ma) rfl ?_)
  refine wpAny_bind (wpAny_attempt ?_)
  unfold callOutOfASlot
  refine wpAny_bind ((isFun_borrow hm hf hfd).at ?_)
  rw [if_pos rfl]
  refine wpAny_callBorrowed (method_call hm (codeAny_mono hc fun r s1 z => ?_))
  obtain ⟨y, t, ma', te', x', rfl, ho1, hm1, hf1, hd⟩ := z
  dsimp only
  refine wpAny_bind (wpAny_field ho1 rfl (x := .bool false) rfl ?_)
  rw [if_neg (by decide)]
  refine wpAny_bind (wpAny_field ho1 rfl (x := .str "" te') rfl ?_)
  refine wpAny_bind (wpAny_holding (wpAny_eqBool_str ?_))
  rcases hd with ⟨hy, q⟩ | ⟨rfl, q⟩
  · rw [if_pos (by simpa using fun z => hy (z.symm))]
    exact wpAny_pure ⟨_, rfl, q⟩
  · rw [if_neg (by simp)]
    refine wpAny_bind (wpAny_rule (wpAny_bind ?_))
    show wpAny _ _ (field (.ref it) 0 >>= _) _ _ _
    refine wpAny_bind (wpAny_field ho1 rfl (x := .ref ma') rfl ?_)
    show wpAny _ _ (slotLetsGo _ (.ref ma') _ >>= _) _ _ _
    refine wpAny_bind ?_
    unfold slotLetsGo
    refine wpAny_bind ((isFun_borrow hm1 hf1 hfd).at ?_)
    rw [if_pos rfl]
    refine wpAny_pure ?_
    refine wpAny_bind (wpAny_setField_rec ho1 (by simp) fun h1 e1 b1 => ?_)
    refine wpAny_bind (wpAny_setField_rec e1 (by simp) fun h2 e2 b2 => ?_)
    refine wpAny_setField_rec e2 (by simp) fun h3 e3 b3 => ?_
    refine stop_told (A := A) hh fun h4 tk k4 => q h4 tk (k4 _ _ e3) fun b ob hb e => k4 _ _ ?_
    exact ((b3.2 b hb).trans ((b2.2 b hb).trans (b1.2 b hb))).trans e

theorem cnext_dead {prog : Program} {w : World} {s : Shared} {it : Addr} {Q : Option Value → Shared → Prop} {E : Value → Shared → Prop} (hh : A.handled = none)
    (ho : s.heap.get? it = some citEnd) (hQ : ∀ h' tk, (∀ b ob, s.heap.get? b = some ob → h'.get? b = some ob) → Q none { s with heap := h', toks := tk }) :
    wpAny (model prog w) A (pyNext (.ref it)) Q E s := by
  have hT : s.TypeIs (.ref it) "callable_iterator" := ⟨_, ho, rfl⟩
  unfold pyNext
  refine wpAny_bind (wpAny_attempt (wpAny_callSpecial?_slot (name := Str.ofString "__next__") hT slot_cit_next (wpAny_mono (Q := fun v s' => Q (some v) s') (E := fun e s' => wpAny (model prog w) A (isInstance e (.type "StopIteration")) (fun b s'' => b = true ∧ Q none s'') E s')
    (wpAny_call_entry slot_cit_next hT entry_cit_next ?_ (args_cit_next _)) (fun v s' q => wpAny_pure q) fun e s' q => wpAny_bind (wpAny_mono q (fun b s'' ⟨hb, z⟩ => by subst hb; exact wpAny_pure z) fun _ _ z => z))))
  unfold Builtin.«callable_iterator.__next__»
  have hs : slotArgs "__next__" 0 ⟨[.ref it], []⟩ = pure (.ref it, []) := rfl
  rw [hs]
  refine wpAny_bind (wpAny_pure ?_)
  dsimp only
  refine wpAny_bind (wpAny_field ho rfl (x := .bool true) rfl ?_)
  rw [if_pos (by decide)]
  exact wpAny_bind (wpAny_rule (wpAny_bind (stop_told (A := A) hh hQ)))
theorem args_iter2 (a b : Value) : argsOk "iter" ⟨[a, b], []⟩ := by unfold argsOk; kernel_rfl
theorem meth_call_slot : typeLookup (.type "method") "__call__" = pure (some (.builtin "method.__call__")) := by rw [typeLookup_type, builtinLookup_eq_fast]; kernel_rfl
theorem call_iter2 {prog : Program} {w : World} {s : Shared} {ma : Addr} {f x : Value} {te : Tok} {Q : Value → Shared → Prop} {E : Value → Shared → Prop} (hm : s.heap.get? ma = some (methodObj f x))
    (h : Q (.ref s.heap.objs.size) { s with heap := s.heap.push (citObj ma te) }) : wpAny (model prog w) A (call (.builtin "iter") [.ref ma, .str "" te]) Q E s := by
  have hT : s.TypeIs (.ref ma) "method" := ⟨_, hm, rfl⟩
  refine PySem.Calls.call_function_entry (by decide +kernel) (by decide +kernel) kdk_entry_iter (args_iter2 _ _) ?_
  unfold Builtin.«iter»
  refine wpAny_bind (m := someArgs "iter" 1 2 _) (wpAny_of_eq (a := [Value.ref ma, .str "" te]) (by first | rfl | kernel_rfl!) ?_)
  dsimp only
  refine wpAny_bind (wpAny_specialOf hT meth_call_slot ?_)
  refine wpAny_bind (wpAny_rule (wpAny_bind (wpAny_newObj_type ?_ (by size_fits))))
  exact wpAny_pure ⟨_, rfl, h⟩

theorem cit_iter_slot : typeLookup (.type "callable_iterator") "__iter__" = pure (some (.builtin "callable_iterator.__iter__")) := by rw [typeLookup_type, builtinLookup_eq_fast]; kernel_rfl
theorem slot_cit_iter' : Slot "callable_iterator" "__iter__" "callable_iterator.__iter__" := .of (owner := "callable_iterator") (n := "__iter__") cit_iter_slot (by decide +kernel) (by decide +kernel) (by decide +kernel)
  (by first | exact .inl (by decide +kernel) | exact .inr (by decide +kernel)) (by rw [isSubtype_type]; kernel_rfl)
end Mine
namespace Mine
open Builtin
theorem cit_entry_iter : entryFor table "callable_iterator.__iter__" = some Builtin.«dict_keyiterator.__iter__» := entryFor_alias (id' := "dict_keyiterator.__iter__") (by kernel_rfl) (by decide +kernel) (by decide +kernel) (by kernel_rfl)
theorem cit_args_iter (a : Value) : argsOk "callable_iterator.__iter__" ⟨[a], []⟩ := by unfold argsOk; kernel_rfl
theorem cit_pyIter {prog : Program} {w : World} {A : Around} {s : Shared} {it : Addr} {Q : Value → Shared → Prop} {E : Value → Shared → Prop} (hT : s.TypeIs (.ref it) "callable_iterator") (h : Q (.ref it) s) : wpAny (model prog w) A (pyIter (.ref it)) Q E s := by
  refine wpAny_pyIter_slot hT slot_cit_iter' (wpAny_call_entry slot_cit_iter' hT cit_entry_iter ?_ (cit_args_iter _))
  show wpAny _ _ (ret (.ref it)) _ _ s
  exact wpAny_pure ⟨_, rfl, "callable_iterator", _, hT, slot_cit_next.lookup, h⟩

/-- a method is read as a value -/
theorem get_meth {prog : Program} {w : World} {A : Around} {s : Shared} {K : Frag} {x c fA : Addr} {ox : Obj} {o : Obj} {name : Str} {ex : Bool} {Q : Value → Shared → Prop} {E : Value → Shared → Prop} (X : K.In s.heap) (I : InstAt s.heap x ox c (some o))
    (hga : findIn K (.ref c) "__getattribute__" = some (some (.builtin "object.__getattribute__"))) (hk : findIn K (.ref c) "__getattr__" = some none) (hf : findIn K (.ref c) name = some (some (.ref fA))) (ht : typeIn K (.ref fA) = some (.type "function"))
    (hsp : specialIn K (.ref fA) "__get__" = some (some (.builtin "function.__get__"))) (htk : takesIn K (.ref fA) = some false) (hcd : ∃ cd, clsIn K c = some cd ∧ cd.hasDict = true) (hno : lookIn name o = some none) (hcp : copiedNames.contains name = false)
    (h : Q (.ref s.heap.objs.size) { s with heap := s.heap.push (methodObj (.ref fA) (.ref x)), toks := s.toks + 1 }) : wpAny (model prog w) A (getAttr (.ref x) name ex) Q E s := by
  obtain ⟨cd, hcd, hdd⟩ := hcd
  have hfo : findObj K c (some o) name = some (.bind (.builtin "function.__get__") (.ref fA)) := by
    unfold findObj
    simp only [hcd, hf, Option.bind_some, hsp, htk]
    have : W.ownOf cd (some o) name = some none := by unfold W.ownOf; simp [hdd, hno]
    rw [this]
    simp only [Option.bind_some, hcp, Bool.false_and, Bool.false_eq_true, if_false]
  refine get_bind X I hga hfo hk (wpAny_call (fn_get X ht ?_))
  exact wpAny_pure h
end Mine

namespace Mine
variable {C : Cx} {d : Nat} {env : Env}

/-! ## iter(o.name, '') for a method that is a def of the class -/
noncomputable def dIter (c f : Addr) (name : Str) (g : D) : D := fun me mh => match g me mh with
  | some (.ref i, mh1) => (match mh1[i]? with
    | some (.inst c' dd _) => if c' = c then (match mh1[dd]? with
      | some (.attrs l) => (match l.lookup name with
        | none => some (.ref mh1.length, mh1 ++ [.citer f (some i)])
        | some _ => none)
      | _ => none) else none
    | _ => none)
  | _ => none

/-- a method can be read as a value -/
structure MethVal (K : Frag) (c fA : Addr) (name : Str) : Prop where
  ga : findIn K (.ref c) "__getattribute__" = some (some (.builtin "object.__getattribute__"))
  gt : findIn K (.ref c) "__getattr__" = some none
  f : findIn K (.ref c) name = some (some (.ref fA))
  t : typeIn K (.ref fA) = some (.type "function")
  g : specialIn K (.ref fA) "__get__" = some (some (.builtin "function.__get__"))
  k : takesIn K (.ref fA) = some false
  d : ∃ cd, clsIn K c = some cd ∧ cd.hasDict = true
  cp : copiedNames.contains name = false

theorem RE_iter (ok : C.Ok) {o : PySem.Expr} {name : Str} {p apos p2 pos : Pos} {k0 : Nat} {c fA : Addr} {g : D} (hg : C.mg "iter" = none) (hb : C.mb "iter" = some (.builtin "iter")) (hx : env.kindOf "iter" = some .globalImplicit)
    (MV' : MethVal C.K c fA name) (ho : RE C d env o g)
    (he : eval (.Attribute o name apos) env = (do
      let o' ← eval o env
      standAt apos.atName
      let r ← holding [o'] (getAttr o' name true)
      letTemporaryGo o o' r
      pure r) := by with_unfolding_all rfl)
    (hs1 : starEach [.Attribute o name apos, .Constant (.str "") k0 p2] env = (false, eval (.Attribute o name apos) env) :: starEach [.Constant (.str "") k0 p2] env := by rfl)
    (hs2 : starEach [.Constant (.str "") k0 p2] env = (false, eval (.Constant (.str "") k0 p2) env) :: starEach [] env := by rfl)
    (hplain : (backTo pos (starEach [.Constant (.str "") k0 p2] env)).any (·.1) = false := by rfl) :
    RE C d env (.Call (.Name "iter" p) [.Attribute o name apos, .Constant (.str "") k0 p2] [] pos) (dIter c fA name g) := by
  intro me mh mv mh' h ρ A s Q E ao I so F hQ
  unfold dIter at h
  split at h
  · rename_i i mh1 h1
    split at h
    · rename_i c' dd it hi
      split at h
      · rename_i hc
        subst hc
        split at h
        · rename_i l hl
          split at h
          · rename_i hno
            cases h
            refine wpAny_Call_NameR (eval_bui ok hg hb hx (by decide) I F ?_)
            refine PyProof.Rows.callWith_builtin1 ?_ hs1 hplain
            refine args_cons ?_ hs1
            refine Attribute_any_ (ho h1 ao I so F fun rv ρ1 s1 x1 I1 so1 v1 => ?_) he
            obtain ⟨x, hx', rfl⟩ := v1.ref_
            obtain ⟨ox, od, IA, ns⟩ := inst_at I1 hi hl hx'
            have q := ns.look name
            rw [hno] at q
            simp only at q
            refine get_meth (I1.k ok) IA MV'.ga MV'.gt MV'.f MV'.t MV'.g MV'.k MV'.d q MV'.cp ?_
            refine args_cons (Calls.Constant_str (args_nil ?_)) hs2
            refine call_iter2 (f := .ref fA) (x := .ref x) (Heap.get?_push_size _ rfl) ?_
            have J1 := I1.pushF (o := methodObj (.ref fA) (.ref x)) rfl
            have X1 := x1.trans (Ext.pushF ρ1 s1.heap (methodObj (.ref fA) (.ref x)))
            have J2 := J1.push (mo := .citer fA (some i)) (o := citObj s1.heap.objs.size (s1.toks + 1)) ⟨x, s1.heap.objs.size, s1.toks + 1, hx', .head _, rfl⟩
            refine hQ _ _ _ (X1.trans (Ext.push _ _ _)) J2 (so1.heap _ _) (.ref' ?_)
            rw [← J1.len]
            simp
          · cases h
        · cases h
      · cases h
    · cases h
  · cases h

/-! ## for over such an iterator -/
noncomputable def dCNext (f : Addr) (den : DF) (ci : Nat) (mh : MH) : Option (Option MV × MH) := match mh[ci]? with
  | some (.citer f' (some i)) => if f' = f then (match den [.ref i] mh with
    | some (.str y, mh1) => (match mh1[ci]? with
      | some (.citer f'' (some i')) => if f'' = f ∧ i' = i then (if y = "" then some (none, mh1.set ci (.citer f none)) else some (some (.str y), mh1)) else none
      | _ => none)
    | _ => none) else none
  | some (.citer _ none) => some (none, mh)
  | _ => none
noncomputable def dForCLoop (nx : MH → Option (Option MV × MH)) (tg : Tg) (f : DS) : Nat → DS
  | 0 => fun _ _ => none
  | n + 1 => fun me mh => match nx mh with
    | none => none
    | some (none, mh1) => some (.next, me, mh1)
    | some (some v, mh1) => (match tg me mh1 v with
      | none => none
      | some me1 => (match f me1 mh1 with
        | some (.next, me2, mh2) => dForCLoop nx tg f n me2 mh2
        | some (.cont, me2, mh2) => dForCLoop nx tg f n me2 mh2
        | some (.brk, me2, mh2) => some (.next, me2, mh2)
        | r => r))
noncomputable def dForC (f : Addr) (den : DF) (N : Nat) (it : D) (tg : Tg) (body : DS) : DS := fun me mh => match it me mh with
  | some (.ref ci, mh1) => (match mh1[ci]? with
    | some (.citer _ _) => dForCLoop (dCNext f den ci) tg body N me mh1
    | _ => none)
  | _ => none

theorem Ext.but {ρ : Wd} {h h' : Heap} {a : Addr} (ha : a ∈ ρ.ids) (hs : Heap.ExtBut a h h') (hl : ∃ o, h'.get? a = some o) : Ext C ρ [] h ρ h' :=
  ⟨.refl ρ, fun b o e hb _ _ => hs b o (fun z => hb (z ▸ ha)) e, fun _ q => .inl q, fun _ q => .inl q, fun b o e => by
    by_cases z : b = a
    · subst z; exact hl
    · exact ⟨o, hs b o z e⟩⟩

theorem cnext_ok (ok : C.Ok) {f : Addr} {den : DF} {ci : Nat} {mh mh1 : MH} {r : Option MV} (hf : IsDef C f) (hr : RF C d f den) (h : dCNext f den ci mh = some (r, mh1)) {ρ : Wd} {A : Around} {s : Shared} {it : Addr} {Q : Option Value → Shared → Prop} {E : Value → Shared → Prop}
    (ao : Aok (d + 1) A) (I : Inv C ρ mh s.heap) (so : SOk C s) (hi : ρ.ids[ci]? = some it)
    (hsome : ∀ mv, r = some mv → ∀ v ρ' s', Ext C ρ [] s.heap ρ' s'.heap → Inv C ρ' mh1 s'.heap → SOk C s' → VR ρ' mv v → Q (some v) s')
    (hnone : r = none → ∀ ρ' s', Ext C ρ [] s.heap ρ' s'.heap → Inv C ρ' mh1 s'.heap → SOk C s' → Q none s') : wpAny C.M A (pyNext (.ref it)) Q E s := by
  unfold dCNext at h
  split at h
  · rename_i f' i hci
    split at h
    · rename_i hff
      subst hff
      split at h
      · rename_i y mh2 hden
        obtain ⟨o, ho, x, ma, te, hx, hma, rfl⟩ := I.at hci hi
        obtain ⟨of, fd, hk, hfd⟩ := hf
        have hm := I.fz _ hma
        refine cnext_live ao.handled ho hm ((I.k ok) _ _ hk) hfd (hr hden ao.in1 I so (.cons (.ref' hx) .nil) fun v ρ1 s1 x1 I1 so1 v1 => ?_)
        obtain ⟨t, rfl⟩ := v1.str_
        split at h
        · rename_i f'' i' hci1
          split at h
          · rename_i hfi
            obtain ⟨rfl, rfl⟩ := hfi
            have hi1 := pre_get x1.pre hi
            obtain ⟨o1, ho1, x', ma', te', hx', hma', rfl⟩ := I1.at hci1 hi1
            refine ⟨y, t, ma', te', .ref x', rfl, ho1, I1.fz _ hma', (I1.k ok) _ _ hk, ?_⟩
            split at h
            · rename_i hy
              cases h
              refine .inr ⟨hy, fun h' tk e1 b1 => hnone rfl ρ1 _ ?_ (I1.set (mh_lt hci1) hi1 b1 e1 rfl) (so1.heap _ _)⟩
              exact x1.trans (Ext.but (List.mem_of_getElem? hi1) b1 ⟨_, e1⟩)
            · rename_i hy
              cases h
              exact .inl ⟨hy, hsome _ rfl _ ρ1 s1 x1 I1 so1 .str'⟩
          · cases h
        · cases h
      · cases h
    · cases h
  · rename_i hci
    cases h
    obtain ⟨o, ho, rfl⟩ := I.at hci hi
    exact cnext_dead ao.handled ho fun h' tk k => hnone rfl ρ _ (Ext.all k) (I.junk k) (so.heap _ _)
  · cases h
theorem RS_forC (ok : C.Ok) {fA : Addr} {den : DF} {x : Nat} {n : Str} {p : Pos} {iter : PySem.Expr} {body : List Stmt} {pos : Pos} {it : D} {f : DS} (N : Nat) (hfA : IsDef C fA) (hr : RF C d fA den)
    (hi : RE C (d + 1) env iter it) (hx : C.tbl[x]? = some n) (hk : env.kindOf n = some .local) (hb : RS C (d + 1) env (execs body env) f)
    (hs : ∀ x, foldedSetIterable iter env x = pure x) : RS C (d + 1) env (exec (.For (.Name n p) iter body [] pos) env) (dForC fA den N it (tgV x) f) := by
  intro me mh fl me' mh' hf ρ A s Q E ao I so F hQ
  unfold dForC at hf
  split at hf
  · rename_i ci mh1 hf1
    split at hf
    · rename_i fx ix hci
      refine wpAny_For (hi hf1 ao I so F fun rv ρ1 s1 x1 I1 so1 v1 => ?_) hs
      obtain ⟨c, hc, rfl⟩ := v1.ref_
      have hT : s1.TypeIs (.ref c) "callable_iterator" := by
        obtain ⟨o, ho, r⟩ := I1.at hci hc
        cases ix with
        | none => cases r; exact ⟨_, ho, rfl⟩
        | some i => obtain ⟨_, _, _, _, _, rfl⟩ := r; exact ⟨_, ho, rfl⟩
      refine cit_pyIter hT ?_
      have F1 := F.ext0 x1
      refine forLoopT (I := fun n s2 => ∃ me2 mh2 ρ2, dForCLoop (dCNext fA den ci) (tgV x) f n me2 mh2 = some (fl, me', mh') ∧ ρ2.ids[ci]? = some c ∧ Ext C ρ1 (fa env) s1.heap ρ2 s2.heap ∧ Inv C ρ2 mh2 s2.heap ∧ SOk C s2 ∧ FR C ρ2 env me2 s2.heap) ?_ N
        ⟨me, mh1, ρ1, hf, hc, Ext.refl _ _ _, I1, so1, F1⟩
      rintro n s2 ⟨me2, mh2, ρ2, hw, hc2, x2, I2, so2, F2⟩
      cases n with
      | zero => simp [dForCLoop] at hw
      | succ n =>
        unfold dForCLoop at hw
        cases hn : dCNext fA den ci mh2 with
        | none => rw [hn] at hw; simp at hw
        | some r =>
          obtain ⟨r, mh3⟩ := r
          rw [hn] at hw
          refine cnext_ok ok hfA hr hn ao I2 so2 hc2 (fun mv hr' v ρ3 s3 x3 I3 so3 hv => ?_) fun hr' ρ3 s3 x3 I3 so3 => ?_
          · subst hr'
            simp only at hw
            have F3 := F2.ext0 x3
            have x23 : Ext C ρ1 (fa env) s1.heap ρ3 s3.heap := x2.trans x3.wide
            refine wpAny_pure ?_
            cases htg : tgV x me2 mh3 mv with
            | none => rw [htg] at hw; simp at hw
            | some me3 =>
              rw [htg] at hw
              simp only at hw
              refine RTg_name ok (G := fa env) hx (.inl ⟨hk, by simp [fa]⟩) htg ao I3 so3 F3 hv fun s4 x4 I4 so4 F4 => ?_
              cases hff : f me3 mh3 with
              | none => rw [hff] at hw; simp at hw
              | some r =>
                obtain ⟨fl1, me5, mh5⟩ := r
                rw [hff] at hw
                refine hb hff ao I4 so4 F4 fun fl' ρ5 s5 x5 I5 so5 F5 r5 => ?_
                have x25 : Ext C ρ1 (fa env) s1.heap ρ5 s5.heap := x23.trans (x4.trans x5)
                have hc5 := pre_get x5.pre (pre_get x3.pre hc2)
                cases fl1 with
                | next => cases r5; exact ⟨n, Nat.lt_succ_self n, me5, mh5, ρ5, hw, hc5, x25, I5, so5, F5⟩
                | cont => cases r5; exact ⟨n, Nat.lt_succ_self n, me5, mh5, ρ5, hw, hc5, x25, I5, so5, F5⟩
                | brk => cases r5; cases hw; exact hQ _ _ _ (x1.wide.trans x25) I5 so5 F5 rfl
                | ret v => obtain ⟨w, rfl, r⟩ := r5; cases hw; exact hQ _ _ _ (x1.wide.trans x25) I5 so5 F5 ⟨_, rfl, r⟩
          · subst hr'
            simp only at hw
            cases hw
            exact wpAny_execs_nil (hQ _ _ _ (x1.wide.trans (x2.trans x3.wide)) I3 so3 (F2.ext0 x3) rfl)
    · cases hf
  · cases hf
end Mine

namespace Mine
variable {C : Cx} {d : Nat} {env : Env}

/-! ## list.pop(k) -/
noncomputable def fLpop : DF := fun mvs mh => match mvs with
  | [.ref i, .int k] => (match mh[i]? with
    | some (.list vs) => if vs.length ≤ 100000 ∧ Builtin.List.listFitsIndex k = true then (match seqIndex? k vs.length with
      | some j => (match vs[j]? with
        | some v => some (v, mh.set i (.list (vs.eraseIdx j)))
        | none => none)
      | none => none) else none
    | _ => none)
  | _ => none
theorem vLpop : RV C d (.builtin "list.pop") fLpop := by
  intro mvs mh mv mh' h ρ A s vs Q E ao I so hv hQ
  unfold fLpop at h
  split at h
  · rename_i i k
    split at h
    · rename_i ms hi
      split at h
      · rename_i hl
        split at h
        · rename_i j hj
          split at h
          · rename_i v hvj
            cases h
            cases hv with
            | cons h1 h2 =>
              cases h2 with
              | cons h2 h3 =>
                cases h3
                obtain ⟨a, ea, rfl⟩ := h1.ref_
                obtain ⟨u, rfl⟩ := h2.int_
                obtain ⟨o, ho, ws, n, rfl, r⟩ := I.at hi ea
                obtain ⟨y, hy, hr⟩ := r.get hvj
                have hjl : j < ws.length := (List.getElem?_eq_some_iff.mp hy).1
                refine call_meets PySem.F.slot_list_pop ⟨_, ho, rfl⟩ PySem.F.entry_list_pop (PySem.F.args_list_pop_2 _ _)
                  (PySem.MeetsSeq.list_pop_at a ws.toArray n k u j y hl.2 (by rw [List.size_toArray, r.length]; exact hj) (by simpa using hy) (by simp [r.length]; exact Nat.le_trans hl.1 (by decide))) ⟨ho, ?_⟩
                have hm := List.mem_of_getElem? ea
                have hg : (s.heap.update a (Obj.mapSeq fun xs => xs.eraseIdxIfInBounds j)).get? a = some (Obj.mapSeq (fun xs => xs.eraseIdxIfInBounds j) (listO ws n)) := Heap.get?_update_self _ ho rfl
                obtain ⟨n', he⟩ := mapSeq_listO (fun xs => xs.eraseIdxIfInBounds j) ws n
                rw [he] at hg
                have hg' : (s.heap.update a (Obj.mapSeq fun xs => xs.eraseIdxIfInBounds j)).get? a = some (listO (ws.eraseIdx j) n') := by
                  rw [hg]
                  have : (ws.toArray.eraseIdxIfInBounds j).toList = ws.eraseIdx j := by
                    unfold Array.eraseIdxIfInBounds
                    rw [dif_pos (by simpa using hjl)]
                    simp
                  rw [this]
                exact hQ _ ρ { s with heap := s.heap.update a (Obj.mapSeq fun xs => xs.eraseIdxIfInBounds j) } (Ext.set hm (Heap.SameBut.update ..) ⟨_, hg'⟩) (I.set (mh_lt hi) ea (Heap.SameBut.update ..).extBut hg' ⟨ws.eraseIdx j, n', rfl, r.eraseIdx⟩) (so.heap _ _) hr
          · cases h
        · cases h
      · cases h
    · cases h
  · cases h
end Mine

namespace Mine
variable {C : Cx} {d : Nat} {env : Env}

/-- a contract serves deeper rooms too -/
theorem RF.up {d d' : Nat} {f : Addr} {den : DF} (h : RF C d f den) (hd : d ≤ d') : RF C d' f den := by
  intro mvs mh mv mh' hf ρ A s vs R ao I so hv hR
  exact h hf (ao.less hd) I so hv hR
end Mine

namespace Mine
variable {C : Cx} {d : Nat} {env : Env}

/-! ## minus -/
noncomputable def oNeg : Op1 := fun a mh => match a with
  | .int x => some (.int (-x), mh)
  | _ => none
theorem rNeg : RO1 C d (unaryOp .USub) oNeg := by
  intro a mh mv mh' h ρ A s Q E va ao I so hv hQ
  unfold oNeg at h
  split at h
  · cases h
    obtain ⟨t, rfl⟩ := hv.int_
    exact neg_int (hQ.same I so _ .int' _)
  · cases h
theorem RE_neg {x : PySem.Expr} {pos : Pos} {f : D} (h : RE C d env x f) : RE C d env (.UnaryOp .USub x pos) (dOp1 oNeg f) := by
  intro me mh mv mh' hf ρ A s Q E ao I so F hQ
  obtain ⟨a, mh1, h1, h2⟩ := dOp1_some hf
  show wpAny _ _ (do let v ← eval x env; standAt pos; holding [v] (unaryOp .USub v)) _ _ _
  refine wpAny_bind (h h1 ao I so F fun v ρ1 s1 x1 I1 so1 v1 => wpAny_bind (wpAny_standAt (wpAny_holding (rNeg h2 ao I1 so1 v1 fun v ρ2 s2 x2 I2 so2 v2 => hQ v ρ2 s2 (x1.trans x2) I2 so2 v2))))

/-! ## xs[-k] += v -/
noncomputable def setIN (a b v : MV) (mh : MH) : Option MH := match a, b with
  | .ref i, .int k => (match mh[i]? with
    | some (.list vs) => if k < 0 ∧ -(vs.length : Int) ≤ k ∧ vs.length < 1000000000 then some (mh.set i (.list (vs.set (k + vs.length).toNat v))) else none
    | _ => none)
  | _, _ => none
theorem setIN_ok {a b v : MV} {mh mh' : MH} (h : setIN a b v mh = some mh') {ρ : Wd} {A : Around} {s : Shared} {Q : Unit → Shared → Prop} {E : Value → Shared → Prop} {va vb vv : Value}
    (I : Inv C ρ mh s.heap) (so : SOk C s) (ha : VR ρ a va) (hb : VR ρ b vb) (hv : VR ρ v vv) (hQ : ∀ s', Ext C ρ [] s.heap ρ s'.heap → Inv C ρ mh' s'.heap → SOk C s' → Q () s') :
    wpAny C.M A (setItem va vb vv) Q E s := by
  unfold setIN at h
  split at h
  · split at h
    · rename_i i kk hab vs hi
      split at h
      · rename_i hk
        cases h
        obtain ⟨x, ex, rfl⟩ := ha.ref_
        obtain ⟨t, rfl⟩ := hb.int_
        obtain ⟨o, ho, ws, n, rfl, r⟩ := I.at hi ex
        have hlen := r.length
        have hz : ((ws.toArray.size : Nat) : Int) = vs.length := by simp [hlen]
        refine ki_setBack (n := n) (items := ws.toArray) ho hk.1 (by rw [hz]; exact hk.2.1) (by omega) ?_
        rw [hz]
        have hm := List.mem_of_getElem? ex
        have hg : (s.heap.update x (Obj.mapSeq (·.setIfInBounds (kk + vs.length).toNat vv))).get? x = some (Obj.mapSeq (·.setIfInBounds (kk + vs.length).toNat vv) (listO ws n)) := Heap.get?_update_self _ ho rfl
        obtain ⟨n', he⟩ := mapSeq_listO (·.setIfInBounds (kk + vs.length).toNat vv) ws n
        rw [he] at hg
        have hg' : (s.heap.update x (Obj.mapSeq (·.setIfInBounds (kk + vs.length).toNat vv))).get? x = some (listO (ws.set (kk + vs.length).toNat vv) n') := by
          rw [hg]; simp
        exact hQ _ (Ext.set hm (Heap.SameBut.update ..) ⟨_, hg'⟩) (I.set (mh_lt hi) ex (Heap.SameBut.update ..).extBut hg' ⟨_, n', rfl, r.set hv⟩) (so.heap _ _)
      · cases h
    · cases h
  · cases h
noncomputable def dAugIN (fo fi : D) (o : Op2) (fv : D) : DS := fun me mh => match fo me mh with
  | some (a, mh1) => (match fi me mh1 with
    | some (b, mh2) => (match oItem a b mh2 with
      | some (old, mh3) => (match fv me mh3 with
        | some (v, mh4) => (match o old v mh4 with
          | some (nw, mh5) => (match setIN a b nw mh5 with
            | some mh6 => some (.next, me, mh6)
            | none => none)
          | none => none)
        | none => none)
      | none => none)
    | none => none)
  | none => none
theorem RS_augItemN {o i value : PySem.Expr} {tpos pos : Pos} {op : Operator} {fo fi fv : D} {oo : Op2} (h1 : RE C d env o fo) (h2 : RE C d env i fi) (h3 : RE C d env value fv) (ho : RO2 C d (inplaceOp op) oo)
    (hi : ∀ ov iv new, augStore i ov iv new = (do holding [new, ov, iv] (setItem ov iv new); release [new, ov, iv] []; pure .next) := by intros; rfl) :
    RS C d env (exec (.AugAssign (.Subscript o i tpos) op value pos) env) (dAugIN fo fi oo fv) := by
  intro me mh fl me' mh' hf ρ A s Q E ao I so F hQ
  unfold dAugIN at hf
  split at hf
  · rename_i a mh1 e1
    split at hf
    · rename_i b mh2 e2
      split at hf
      · rename_i old mh3 e3
        split at hf
        · rename_i v mh4 e4
          split at hf
          · rename_i nw mh5 e5
            split at hf
            · rename_i mh6 e6
              cases hf
              refine wpAny_AugAssign_SubscriptAny (h1 e1 ao I so F fun va ρ1 s1 x1 I1 so1 v1 => h2 e2 ao I1 so1 (F.ext0 x1) fun vb ρ2 s2 x2 I2 so2 v2 => ?_) hi
              have x12 := x1.trans x2
              refine (item_ok (A := A) e3 I2 so2 (v1.mono x2.pre) v2 fun vo ρ3 s3 x3 I3 so3 v3 => ?_).1
              have x13 := x12.trans x3
              refine h3 e4 ao I3 so3 (F.ext0 x13) fun vv ρ4 s4 x4 I4 so4 v4 => ?_
              refine ho e5 ao I4 so4 (v3.mono x4.pre) v4 fun vn ρ5 s5 x5 I5 so5 v5 => ?_
              have x25 := x3.trans (x4.trans x5)
              refine setIN_ok e6 I5 so5 ((v1.mono x2.pre).mono x25.pre) (v2.mono x25.pre) v5 fun s6 x6 I6 so6 => ?_
              have xx := x12.trans (x25.trans x6)
              exact hQ _ _ _ xx.wide I6 so6 (F.ext0 xx) rfl
            · cases hf
          · cases hf
        · cases hf
      · cases hf
    · cases hf
  · cases hf

/-! ## == where a list may change -/
noncomputable def toDR (v : MV) (mh : MH) : Option PyData := match v with
  | .ref i => (match mh[i]? with
    | some (.list vs) => (toDs vs).map .list
    | _ => none)
  | v => toD v
theorem toDR_reads {ρ : Wd} {mh : MH} {h : Heap} (I : Inv C ρ mh h) {m : MV} {v : Value} {dd : PyData} (hv : VR ρ m v) (hd : toDR m mh = some dd) : ∃ as, Reads h v dd as := by
  unfold toDR at hd
  split at hd
  · rename_i i
    split at hd
    · rename_i vs hi
      obtain ⟨ds, hds, rfl⟩ := Option.map_eq_some_iff.mp hd
      obtain ⟨a, ea, rfl⟩ := hv.ref_
      obtain ⟨o, ho, ws, n, rfl, r⟩ := I.at hi ea
      obtain ⟨as, ha⟩ := toDs_reads I vs ws ds r hds
      exact ⟨_, .list ho rfl rfl (by simpa using ha)⟩
    · cases hd
  · exact toD_reads I _ _ _ hv hd
noncomputable def oNeR : Op2 := fun a b mh => match toDR a mh, toDR b mh with
  | some x, some y => if SeqAt.shaped x && SeqAt.shaped y then some (.bool (!PyData.eqv x y), mh) else none
  | _, _ => none

theorem rNeR : RO2 C d (compareOp .NotEq) oNeR := by
  intro a b mh mv mh' h ρ A s Q E va vb ao I so ha hb hQ
  unfold oNeR at h
  split at h
  · rename_i x y hx hy
    split at h
    · rename_i hs
      cases h
      obtain ⟨as, ra⟩ := toDR_reads I ha hx
      obtain ⟨bs, rb⟩ := toDR_reads I hb hy
      have q := Bool.and_eq_true_iff.mp hs
      exact SeqAt.compareNe_shaped ra rb q.1 q.2 ao.eqRoom (hQ.here I so _ .bool')
    · cases h
  · cases h

/-! ## dicts under texts -/
theorem objs_gt (ok : C.Ok) {ρ : Wd} {mh : MH} {h : Heap} (I : Inv C ρ mh h) : (h.objs.size == sysModules) = false := by
  obtain ⟨o, ho⟩ := Ns.live (I.g ok)
  have := Heap.lt_size ho
  simp only [beq_eq_false_iff_ne, ne_eq]
  intro e
  rw [e] at this
  exact absurd this (by decide)
theorem DictR.nil {p : Program} {w : World} {ρ : Wd} : DictR p w ρ [] { cls := .type "dict", data := .dict #[] } :=
  ⟨[], ⟨#[], 0, ⟨rfl, rfl, rfl⟩, rfl, fun _ he => by simp at he, .nil, List.nodup_nil⟩, rfl, .nil⟩
noncomputable def dDict0 : D := fun _ mh => some (.ref mh.length, mh ++ [.dict []])
theorem RE_dict0 (ok : C.Ok) {pos : Pos} : RE C d env (.Dict [] [] pos) dDict0 := by
  intro me mh mv mh' hf ρ A s Q E ao I so F hQ
  cases hf
  refine wpAny_Dict_empty ?_
  exact Post.new (Q := Q) hQ I so ⟨objs_gt ok I, .nil⟩ s.toks
theorem lookup_zip {ρ : Wd} : ∀ {l : List (Str × MV)} {kvs : List (Str × Value)}, kvs.map (·.1) = l.map (·.1) → VRs ρ (l.map (·.2)) (kvs.map (·.2)) → ∀ k, match l.lookup k with
    | some mv => ∃ v, valueAt kvs k = some v ∧ VR ρ mv v
    | none => valueAt kvs k = none
  | [], [], _, _, k => rfl
  | (a, m) :: l, (b, v) :: kvs, h1, h2, k => by
    simp only [List.map_cons, List.cons.injEq] at h1
    obtain ⟨rfl, h1⟩ := h1
    simp only [List.map_cons] at h2
    cases h2 with
    | cons h3 h4 =>
      have ih := lookup_zip h1 h4 k
      rw [List.lookup_cons]
      by_cases e : k = b
      · subst e
        simp only [beq_self_eq_true]
        exact ⟨v, by simp [valueAt], h3⟩
      · have hb : (k == b) = false := by simpa using e
        have hb' : decide (b = k) = false := by simpa [eq_comm] using e
        rw [hb]
        have hv : valueAt ((b, v) :: kvs) k = valueAt kvs k := by simp [valueAt, List.find?_cons, hb']
        rw [hv]; exact ih
  | [], _ :: _, h1, _, k => by simp at h1
  | _ :: _, [], h1, _, k => by simp at h1
/-- an entry is stored, in the order of coming -/
noncomputable def putD (l : List (Str × MV)) (k : Str) (v : MV) : List (Str × MV) := if l.any (fun kv => kv.1 = k) then l.map (fun kv => if kv.1 = k then (kv.1, v) else kv) else l ++ [(k, v)]
theorem stored_zip {ρ : Wd} {l : List (Str × MV)} {kvs : List (Str × Value)} (h1 : kvs.map (·.1) = l.map (·.1)) (h2 : VRs ρ (l.map (·.2)) (kvs.map (·.2))) {k : Str} {m : MV} {v : Value} (hv : VR ρ m v) :
    (stored kvs k v).map (·.1) = (putD l k m).map (·.1) ∧ VRs ρ ((putD l k m).map (·.2)) ((stored kvs k v).map (·.2)) := by
  have hany : kvs.any (fun kv => kv.1 = k) = l.any (fun kv => kv.1 = k) := by
    have e1 : kvs.any (fun kv => kv.1 = k) = (kvs.map (·.1)).any fun x => x = k := by rw [List.any_map]; rfl
    have e2 : l.any (fun kv => kv.1 = k) = (l.map (·.1)).any fun x => x = k := by rw [List.any_map]; rfl
    rw [e1, e2, h1]
  unfold stored putD
  rw [hany]
  split
  · rename_i hq
    clear hany hq
    induction l generalizing kvs with
    | nil => cases kvs with
      | nil => exact ⟨rfl, .nil⟩
      | cons a b => simp at h1
    | cons a l ih =>
      cases kvs with
      | nil => simp at h1
      | cons b kvs =>
        simp only [List.map_cons, List.cons.injEq] at h1
        simp only [List.map_cons] at h2
        cases h2 with
        | cons h3 h4 =>
          obtain ⟨i1, i2⟩ := ih h1.2 h4
          simp only [List.map_cons]
          rw [h1.1]
          by_cases e : a.1 = k
          · simp only [e, if_true]
            exact ⟨by rw [i1], .cons hv i2⟩
          · simp only [e, if_false]
            exact ⟨by rw [i1, h1.1], .cons h3 i2⟩
  · exact ⟨by simp [h1], by simpa using h2.append (.one hv)⟩
noncomputable def fDictGet : DF := fun mvs mh => match mvs with
  | [.ref i, .str k, v] => (match mh[i]? with
    | some (.dict l) => some ((l.lookup k).getD v, mh)
    | _ => none)
  | _ => none
theorem isStr_str {k : Str} {t : Tok} {prog : Program} {w : World} : (strKind prog w).is k (.str k t) = true := strKind_is prog w k t
theorem vDictGet : RV C d (.builtin "dict.get") fDictGet := by
  intro mvs mh mv mh' h ρ A s vs Q E ao I so hv hQ
  unfold fDictGet at h
  split at h
  · rename_i i k v
    split at h
    · rename_i l hi
      · cases h
        cases hv with
        | cons h1 h2 =>
          cases h2 with
          | cons h2 h3 =>
            cases h3 with
            | cons h3 h4 =>
              cases h4
              obtain ⟨a, ea, rfl⟩ := h1.ref_
              obtain ⟨t, rfl⟩ := h2.str_
              obtain ⟨o, ho, hsm, hdr⟩ := I.at hi ea
              rw [I.pw] at hdr
              obtain ⟨kvs, hd, hk, hr⟩ := hdr
              have hD : s.heap.DictOf (strKind C.prog C.w) a kvs := Heap.dictOf_iff.mpr ⟨o, ho, hd⟩
              have hz := lookup_zip hk hr k
              refine call_meetsIn PySem.F.slot_dict_get hD.mapOf.typeIs PySem.F.entry_dict_get (PySem.F.args_dict_get_3 _ _ _) (meets_dict_get_default (strKind C.prog C.w) a isStr_str hsm _) ⟨_, hD.mapOf, ?_⟩
              cases hl : l.lookup k with
              | some m =>
                rw [hl] at hz hQ
                obtain ⟨v', e1, e2⟩ := hz
                rw [e1]
                exact hQ.same I so _ e2 _
              | none =>
                rw [hl] at hz hQ
                simp only at hz
                rw [hz]
                exact hQ.same I so _ h3 _
    · cases h
  · cases h
noncomputable def selDict : MV → MH → Bool := fun a mh => match a with | .ref i => (match mh[i]? with | some (.dict _) => true | _ => false) | _ => false
theorem gDict {name : Str} {id : String} (slot : Slot "dict" name id) (hty : typeOf (.builtin id) = pure (.type "method_descriptor")) : RGet C name id selDict := by
  intro a mh hs ρ s rv A Q E pl I hv h
  unfold selDict at hs
  split at hs
  · split at hs
    · rename_i i l hi
      obtain ⟨x, hx, rfl⟩ := hv.ref_
      obtain ⟨o, ho, hsm, kvs, ⟨es, ep, hc, hd, _⟩, _⟩ := I.at hi hx
      exact getMethod_builtin ⟨_, ho, hc.1⟩ PySem.F.plainAttrs_dict slot hty (fun a e => by cases e; exact ⟨_, ho, hc.2.1⟩) h
    · cases hs
  · cases hs
noncomputable def oItemD : Op2 := fun a b mh => match a, b with
  | .ref i, .str k => (match mh[i]? with
    | some (.dict l) => (match l.lookup k with | some v => some (v, mh) | none => none)
    | _ => none)
  | _, _ => none
theorem RE_itemD {value slice : PySem.Expr} {pos : Pos} {f g : D} (hl : RE C d env value f) (hr : RE C d env slice g)
    (hs : ∀ o i, subscripted slice false o i = operate [o, i] (getItem o i)) : RE C d env (.Subscript value slice pos) (dOp2 oItemD f g) := by
  intro me mh mv mh' hf ρ A s Q E ao I so F hQ
  obtain ⟨a, mh1, b, mh2, h1, h2, h3⟩ := dOp2_some hf
  refine Subscript_ (hl h1 ao I so F fun va ρ1 s1 x1 I1 so1 v1 => hr h2 ao I1 so1 (F.ext0 x1) fun vb ρ2 s2 x2 I2 so2 v2 => ?_)
  unfold oItemD at h3
  split at h3
  · rename_i i k
    split at h3
    · rename_i l hi
      · split at h3
        · rename_i v hlk
          cases h3
          obtain ⟨x, ex, rfl⟩ := (v1.mono x2.pre).ref_
          obtain ⟨t, rfl⟩ := v2.str_
          obtain ⟨o, ho, hsm, hdr⟩ := I2.at hi ex
          rw [I2.pw] at hdr
          obtain ⟨kvs, hd, hk, hrr⟩ := hdr
          have hD : s2.heap.DictOf (strKind C.prog C.w) x kvs := Heap.dictOf_iff.mpr ⟨o, ho, hd⟩
          have hz := lookup_zip hk hrr k
          rw [hlk] at hz
          obtain ⟨v', e1, e2⟩ := hz
          exact subTail rfl hD.mapOf.typeIs slot_dict_getitem.lookup (wpAny_getItem_of isStr_str hD.mapOf e1 (Post.same (Q := Q) (fun v ρ' s' x => hQ v ρ' s' ((x1.trans x2).trans x)) I2 so2 _ e2 _)) (hs _ _)
        · cases h3
    · cases h3
  · cases h3
noncomputable def putItemD (a b v : MV) (mh : MH) : Option MH := match a, b with
  | .ref i, .str k => (match mh[i]? with
    | some (.dict l) => if l.length ≤ 1000 then some (mh.set i (.dict (putD l k v))) else none
    | _ => none)
  | _, _ => none
noncomputable def dAsgItemD (fv fo fi : D) : DS := fun me mh => match fv me mh with
  | some (v, mh1) => (match fo me mh1 with
    | some (a, mh2) => (match fi me mh2 with
      | some (b, mh3) => (match putItemD a b v mh3 with
        | some mh4 => some (.next, me, mh4)
        | none => none)
      | none => none)
    | none => none)
  | none => none
theorem RS_asgItemD {o i value : PySem.Expr} {p pos : Pos} {fv fo fi : D} (hv : RE C d env value fv) (ho : RE C d env o fo) (hi : RE C d env i fi)
    (hs : swapsWith value (some (.Subscript o i p)) pos.line env = pure false := by rfl) : RS C d env (exec (.Assign [.Subscript o i p] value pos) env) (dAsgItemD fv fo fi) := by
  intro me mh fl me' mh' hf ρ A s Q E ao I so F hQ
  unfold dAsgItemD at hf
  split at hf
  · rename_i v mh1 e1
    split at hf
    · rename_i a mh2 e2
      split at hf
      · rename_i b mh3 e3
        split at hf
        · rename_i mh4 e4
          cases hf
          refine wpAny_Assign_Subscript (hs := hs) (hv e1 ao I so F fun vv ρ1 s1 x1 I1 so1 v1 => ho e2 ao I1 so1 (F.ext0 x1) fun va ρ2 s2 x2 I2 so2 v2 => hi e3 ao I2 so2 (F.ext0 (x1.trans x2)) fun vb ρ3 s3 x3 I3 so3 v3 => ?_)
          have x13 := x1.trans (x2.trans x3)
          unfold putItemD at e4
          split at e4
          · rename_i ix k
            split at e4
            · rename_i l hix
              split at e4
              · rename_i hlen
                cases e4
                obtain ⟨x, ex, rfl⟩ := (v2.mono x3.pre).ref_
                obtain ⟨t, rfl⟩ := v3.str_
                obtain ⟨ob, hob, hsm, hdr⟩ := I3.at hix ex
                rw [I3.pw] at hdr
                obtain ⟨kvs, hd, hk, hrr⟩ := hdr
                have hD : s3.heap.DictOf (strKind C.prog C.w) x kvs := Heap.dictOf_iff.mpr ⟨ob, hob, hd⟩
                have hkl : kvs.length = l.length := by have := congrArg List.length hk; simpa using this
                refine wpAny_setItem_pairs isStr_str hD (fun h' hD' hs' => ?_) (by rw [hkl]; exact Nat.le_trans hlen (by decide))
                obtain ⟨o', ho', hd'⟩ := Heap.dictOf_iff.mp hD'
                obtain ⟨z1, z2⟩ := stored_zip hk hrr (k := k) (v1.mono (x2.trans x3).pre)
                have hm := List.mem_of_getElem? ex
                have xs : Ext C ρ3 [] s3.heap ρ3 h' := Ext.set hm hs' ⟨_, ho'⟩
                have xx := x13.trans xs
                exact hQ _ ρ3 { s3 with heap := h', toks := s3.toks + 1 } xx.wide (I3.set (mh_lt hix) ex hs'.extBut ho' ⟨hsm, by rw [I3.pw]; exact ⟨_, hd', z1, z2⟩⟩) (so3.heap _ _) (F.ext0 xx) rfl
              · cases e4
            · cases e4
          · cases e4
        · cases hf
      · cases hf
    · cases hf
  · cases hf

/-! ## x[::-1] of a text -/
noncomputable def revS (x : Str) : Str := ⟨x.cps.toList.reverse.toArray⟩
theorem sliceBy_rev (x : Str) (u : Tok) : Txt.sliceBy x none none (-1, u) = revS x := by
  have h := step_rev_list x u
  have e : (List.range x.length).map (fun k => x.cps.getD (x.length - 1 - k) 0) = x.cps.toList.reverse := by
    apply List.ext_getElem
    · simp [Str.length]
    · intro i h1 h2
      simp only [List.length_map, List.length_range] at h1
      have hs : x.length = x.cps.size := rfl
      simp only [List.getElem_map, List.getElem_range, List.getElem_reverse, Array.length_toList, Array.getElem_toList]
      rw [Array.getD_eq_getD_getElem?, Array.getElem?_eq_getElem (by omega)]
      rfl
  rw [e] at h
  show Txt.sliceBy x none none (-1, u) = ⟨x.cps.toList.reverse.toArray⟩
  rw [← h]
noncomputable def dRev (fo : D) : D := fun me mh => match fo me mh with
  | some (.str x, mh1) => if x.length ≤ sizeLine then some (.str (revS x), mh1) else none
  | _ => none
end Mine

namespace Mine
variable {C : Cx} {d : Nat} {env : Env}

theorem RE_rev {value st : PySem.Expr} {p pos : Pos} {fo : D} (ho : RE C d env value fo) (hst : RE C d env st (dOp1 oNeg (dC (.int 1))))
    (hs : ∀ o i, subscripted (.Slice none none (some st) p) false o i = operate [i, o] (getItem o i) ∨ subscripted (.Slice none none (some st) p) false o i = operate [o, i] (getItem o i) := by intros; first | exact .inl rfl | exact .inr rfl) :
    RE C d env (.Subscript value (.Slice none none (some st) p) pos) (dRev fo) := by
  intro me mh mv mh' h ρ A s Q E ao I so F hQ
  unfold dRev at h
  split at h
  · rename_i x mh1 h1
    split at h
    · rename_i hlen
      have hneg : dOp1 oNeg (dC (.int 1)) me mh1 = some (.int (-1), mh1) := rfl
      cases h
      refine Subscript_ (ho h1 ao I so F fun vo ρ1 s1 x1 I1 so1 v1 => wpAny_Slice ?_)
      rw [evalPart_none]
      refine wpAny_pure ?_
      refine wpAny_pure ?_
      rw [evalPart_some]
      refine hst hneg ao I1 so1 (F.ext0 x1) fun vst ρ2 s2 x2 I2 so2 v2 => ?_
      obtain ⟨t, rfl⟩ := v1.str_
      obtain ⟨u, rfl⟩ := v2.int_
      have kp : ∀ b o', s2.heap.get? b = some o' → (s2.heap.push { cls := .type "slice", data := .fields #[.none, .none, .int (-1) u] }).get? b = some o' := fun b o' e => Heap.get?_push_of_some _ e
      have I4 := I2.junk kp
      have xx := (x1.trans x2).trans (Ext.all kp)
      have fin : ∀ t' k, Q (.str (revS x) t') { s2 with heap := s2.heap.push { cls := .type "slice", data := .fields #[.none, .none, .int (-1) u] }, toks := k } := fun t' k => hQ _ ρ2 _ xx I4 (so2.heap _ _) .str'
      have hg : wpAny C.M A (getItem (.str x t) (.ref s2.heap.objs.size)) Q E { s2 with heap := s2.heap.push { cls := .type "slice", data := .fields #[.none, .none, .int (-1) u] } } := by
        refine wpAny_getItem_str_slice (l := none) (u := none) (st := some (-1, u)) ⟨_, Heap.get?_push_size _ rfl, rfl, rfl⟩ rfl ?_
        have hz := sliceBy_rev x u
        unfold Txt.sliceBy at hz
        unfold sliceMade
        split
        · rename_i hc
          rw [if_pos hc] at hz
          rw [← hz] at fin
          exact fin t s2.toks
        · rename_i hc
          rw [if_neg hc] at hz
          rw [← hz] at fin
          refine ⟨?_, fin _ _⟩
          have : (revS x).length = x.length := by simp [revS, Str.length]
          rw [hz, this]; exact hlen
      rcases hs (.str x t) (.ref s2.heap.objs.size) with e | e
      · exact subTail rfl (typeIs_str _ _ _) PySem.F.slot_str_getitem.lookup hg e
      · exact subTail rfl (typeIs_str _ _ _) PySem.F.slot_str_getitem.lookup hg e
    · cases h
  · cases h

/-- a slice of a text that no name holds -/
theorem RE_sliceC {value : PySem.Expr} {lower upper : Option PySem.Expr} {p pos : Pos} {fo : D} {lo hi : Option D} (ho : RE C d env value fo) (hl : RP C d env lower lo) (hu : RP C d env upper hi)
    (hs : ∀ o i, subscripted (.Slice lower upper none p) false o i = operate [i, o] (getItem o i) ∨ subscripted (.Slice lower upper none p) false o i = operate [o, i] (getItem o i) := by intros; first | exact .inl rfl | exact .inr rfl) :
    RE C d env (.Subscript value (.Slice lower upper none p) pos) (dSliceS fo lo hi) := by
  intro me mh mv mh' h ρ A s Q E ao I so F hQ
  unfold dSliceS at h
  split at h
  · rename_i x mh1 h1
    split at h
    · rename_i l mh2 h2
      split at h
      · rename_i u mh3 h3
        split at h
        · rename_i hlen
          cases h
          refine Subscript_ (ho h1 ao I so F fun vo ρ1 s1 x1 I1 so1 v1 => wpAny_Slice (part_ok hl h2 ao I1 so1 (F.ext0 x1) fun vl ρ2 s2 ll x2 I2 so2 el el' _ => part_ok hu h3 ao I2 so2 (F.ext0 (x1.trans x2)) fun vu ρ3 s3 lu x3 I3 so3 eu eu' _ => ?_))
          rw [evalPart_none]
          refine wpAny_pure ?_
          obtain ⟨t, rfl⟩ := v1.str_
          have kp : ∀ b o', s3.heap.get? b = some o' → (s3.heap.push { cls := .type "slice", data := .fields #[vl, vu, .none] }).get? b = some o' := fun b o' e => Heap.get?_push_of_some _ e
          have I4 := I3.junk kp
          subst el eu
          have xx := (x1.trans (x2.trans x3)).trans (Ext.all kp)
          have fin : ∀ t' k, Q (.str (Txt.slice x l u) t') { s3 with heap := s3.heap.push { cls := .type "slice", data := .fields #[partValue ll, partValue lu, .none] }, toks := k } := fun t' k => hQ _ ρ3 _ xx I4 (so3.heap _ _) .str'
          have hg : wpAny C.M A (getItem (.str x t) (.ref s3.heap.objs.size)) Q E { s3 with heap := s3.heap.push { cls := .type "slice", data := .fields #[partValue ll, partValue lu, .none] } } := by
            refine wpAny_getItem_str_slice (l := ll) (u := lu) (st := none) ⟨_, Heap.get?_push_size _ rfl, rfl, rfl⟩ rfl ?_
            subst el' eu'
            unfold sliceMade slicePicked
            unfold Txt.slice at fin
            simp only [Option.map_none, Option.getD_none] at fin ⊢
            split
            · rename_i hc
              rw [if_pos hc] at fin
              exact fin t s3.toks
            · rename_i hc
              rw [if_neg hc] at fin
              refine ⟨?_, fin _ _⟩
              show ((Builtin.Str.strSliceIndices _ _ 1 x.length).filterMap (x.cps[·]?)).toArray.size ≤ sizeLine
              rw [List.size_toArray]
              exact Nat.le_trans (List.length_filterMap_le _ _) (Nat.le_trans (sliceIndices_le _ _ _) hlen)
          rcases hs (.str x t) (.ref s3.heap.objs.size) with e | e
          · exact subTail rfl (typeIs_str _ _ _) PySem.F.slot_str_getitem.lookup hg e
          · exact subTail rfl (typeIs_str _ _ _) PySem.F.slot_str_getitem.lookup hg e
        · cases h
      · cases h
    · cases h
  · cases h

/-! ## sorted(ints) -/
noncomputable def intsOf : List MV → Option (List Int)
  | [] => some []
  | .int x :: r => (intsOf r).map (x :: ·)
  | _ :: _ => none
noncomputable def insI (x : Int) : List Int → List Int
  | [] => [x]
  | y :: r => if x ≤ y then x :: y :: r else y :: insI x r
noncomputable def sortI : List Int → List Int
  | [] => []
  | x :: r => insI x (sortI r)
theorem insI_perm (x : Int) : ∀ l, (insI x l).Perm (x :: l)
  | [] => .refl _
  | y :: r => by
    unfold insI
    split
    · exact .refl _
    · exact ((insI_perm x r).cons y).trans (.swap ..)
theorem sortI_perm : ∀ l, (sortI l).Perm l
  | [] => .refl _
  | x :: r => (insI_perm x (sortI r)).trans ((sortI_perm r).cons x)
theorem insI_sorted (x : Int) : ∀ l : List Int, l.Pairwise (· ≤ ·) → (insI x l).Pairwise (· ≤ ·)
  | [], _ => by simp [insI]
  | y :: r, h => by
    obtain ⟨h1, h2⟩ := List.pairwise_cons.mp h
    unfold insI
    split
    · rename_i hxy
      exact List.pairwise_cons.mpr ⟨fun z hz => by
        rcases List.mem_cons.mp hz with rfl | hz
        · exact hxy
        · exact Int.le_trans hxy (h1 z hz), h⟩
    · rename_i hxy
      refine List.pairwise_cons.mpr ⟨fun z hz => ?_, insI_sorted x r h2⟩
      rcases List.mem_cons.mp ((insI_perm x r).subset hz) with rfl | hz
      · exact Int.le_of_lt (Int.not_le.mp hxy)
      · exact h1 z hz
theorem sortI_sorted : ∀ l : List Int, (sortI l).Pairwise (· ≤ ·)
  | [] => .nil
  | x :: r => insI_sorted x _ (sortI_sorted r)
theorem sorted_uniq : ∀ {a b : List Int}, a.Perm b → a.Pairwise (· ≤ ·) → b.Pairwise (· ≤ ·) → a = b
  | [], b, h, _, _ => (List.nil_perm.mp h).symm
  | x :: r, [], h, _, _ => by have := h.length_eq; simp at this
  | x :: r, y :: t, h, h1, h2 => by
    obtain ⟨a1, a2⟩ := List.pairwise_cons.mp h1
    obtain ⟨b1, b2⟩ := List.pairwise_cons.mp h2
    have hxy : x = y := by
      have m1 : x ∈ y :: t := h.subset (by simp)
      have m2 : y ∈ x :: r := h.symm.subset (by simp)
      rcases List.mem_cons.mp m1 with e | e
      · exact e
      · rcases List.mem_cons.mp m2 with e' | e'
        · exact e'.symm
        · exact Int.le_antisymm (a1 y e') (b1 x e)
    subst hxy
    rw [sorted_uniq h.cons_inv a2 b2]
theorem intsAre {ρ : Wd} : ∀ {ms : List MV} {vs : List Value} {ns : List Int}, VRs ρ ms vs → intsOf ms = some ns → IntsAre vs ns
  | [], _, _, .nil, h => by cases h; exact .nil
  | .int x :: r, _, _, .cons h1 h2, h => by
    simp only [intsOf] at h
    obtain ⟨ns, hn, rfl⟩ := Option.map_eq_some_iff.mp h
    obtain ⟨t, rfl⟩ := h1.int_
    exact .cons _ _ (intsAre h2 hn)
theorem VRs.ofAre {ρ : Wd} : ∀ {vs : List Value} {ns : List Int}, IntsAre vs ns → VRs ρ (ns.map .int) vs
  | _, _, .nil => .nil
  | _, _, .cons _ _ h => .cons .int' (VRs.ofAre h)
noncomputable def fSorted : DF := fun mvs mh => match mvs with
  | [.ref i] => (match mh[i]? with
    | some (.list vs) => if vs.length < 64 then (match intsOf vs with | some ns => some (.lst ((sortI ns).map .int), mh) | none => none) else none
    | _ => none)
  | [.lst vs] => if vs.length < 64 then (match intsOf vs with | some ns => some (.lst ((sortI ns).map .int), mh) | none => none) else none
  | _ => none
theorem vSorted : RV C d (.builtin "sorted") fSorted := by
  intro mvs mh mv mh' h ρ A s vs Q E ao I so hv hQ
  have key : ∀ (a : Addr) (ws : List Value) (n : Nat) (ms : List MV) (ns : List Int), s.heap.get? a = some (listO ws n) → VRs ρ ms ws → intsOf ms = some ns → ms.length < 64 → Post C ρ s.heap mh (.lst ((sortI ns).map .int)) Q → wpAny C.M A (call (.builtin "sorted") [.ref a]) Q E s := by
    intro a ws n ms ns ho r hn hl hQ
    refine sorted_ints (isList_of ho) (intsAre r hn) (by rw [r.length]; exact hl) fun out ns' h1 h2 h3 => ?_
    have e : ns' = sortI ns := sorted_uniq (h2.trans (sortI_perm ns).symm) h3 (sortI_sorted ns)
    subst e
    have kp : ∀ b o, s.heap.get? b = some o → (sortedAll s.heap ws out).get? b = some o := fun b o e => sortedAll_old e
    obtain ⟨n', hat⟩ := sortedAll_at s.heap ws out
    have I1 := I.junk kp
    have e0 : s.heap.get? (s.heap.objs.size + 1) = none := by
      cases e : s.heap.get? (s.heap.objs.size + 1) with
      | none => rfl
      | some o => exact absurd (Heap.lt_size e) (fun hh => Nat.not_succ_lt_self hh)
    have fr := I.fresh e0
    have I2 : Inv C (ρ.froze (s.heap.objs.size + 1) (listO out.toList n')) mh (sortedAll s.heap ws out) := I1.freeze fr.1 fr.2 (by rw [hat])
    exact hQ _ _ { s with heap := sortedAll s.heap ws out } ((Ext.all kp).freeze _ e0) I2 (so.heap _ _) (.lst' mem_froze (VRs.ofAre h1))
  unfold fSorted at h
  split at h
  · rename_i i
    split at h
    · rename_i ms hi
      split at h
      · rename_i hl
        split at h
        · rename_i ns hn
          cases h
          cases hv with
          | cons h1 h2 =>
            cases h2
            obtain ⟨a, ea, rfl⟩ := h1.ref_
            obtain ⟨o, ho, ws, n, rfl, r⟩ := I.at hi ea
            exact key a ws n ms ns ho r hn hl hQ
        · cases h
      · cases h
    · cases h
  · rename_i ms
    split at h
    · rename_i hl
      split at h
      · rename_i ns hn
        cases h
        cases hv with
        | cons h1 h2 =>
          cases h2
          obtain ⟨a, ws, n, ea, rfl, r⟩ := h1.lst_
          exact key a ws n ms ns (I.fz _ ea) r hn hl hQ
      · cases h
    · cases h
  · cases h

/-! ## {k: v} -/
noncomputable def dDict1 (fk fv : D) : D := fun me mh => match fk me (mh ++ [.dict []]) with
  | some (.str k, mh1) => (match fv me mh1 with
    | some (v, mh2) => (match mh2[mh.length]? with
      | some (.dict []) => some (.ref mh.length, mh2.set mh.length (.dict [(k, v)]))
      | _ => none)
    | none => none)
  | _ => none
theorem RE_dict1 (ok : C.Ok) {pos : Pos} {kx vx : PySem.Expr} {fk fv : D} (hk : RE C d env kx fk) (hv : RE C d env vx fv) : RE C d env (.Dict [some kx] [vx] pos) (dDict1 fk fv) := by
  intro me mh mv mh' hf ρ A s Q E ao I so F hQ
  unfold dDict1 at hf
  split at hf
  · rename_i k mh1 e1
    split at hf
    · rename_i v mh2 e2
      split at hf
      · rename_i hi
        · cases hf
          obtain ⟨ρ0, x0, I0, so0, v0⟩ : ∃ ρ0, Ext C ρ [] s.heap ρ0 (s.heap.push { cls := .type "dict", data := .dict #[] }) ∧ Inv C ρ0 (mh ++ [.dict []]) (s.heap.push { cls := .type "dict", data := .dict #[] }) ∧
              SOk C { s with heap := s.heap.push { cls := .type "dict", data := .dict #[] } } ∧ VR ρ0 (.ref mh.length) (.ref s.heap.objs.size) :=
            Post.new (C := C) (ρ := ρ) (mh := mh) (mo := .dict []) (s := s) (o := { cls := .type "dict", data := .dict #[] }) (Q := fun v s' => ∃ ρ0, Ext C ρ [] s.heap ρ0 s'.heap ∧ Inv C ρ0 (mh ++ [.dict []]) s'.heap ∧ SOk C s' ∧ VR ρ0 (.ref mh.length) v)
              (fun v ρ' s' x I so v => ⟨ρ', x, I, so, v⟩) I so ⟨objs_gt ok I, .nil⟩ s.toks
          refine wpAny_Dict_pairs (knd := strKind C.prog C.w) (pairs := [(eval kx env, do let x ← eval vx env; standAt pos; pure x)]) rfl (by simp) (by simp) ?_
          refine evalPairs_cons (hk e1 ao I0 so0 (F.ext0 x0) fun vk ρ1 s1 x1 I1 so1 v1 => ?_)
          refine wpAny_bind (hv e2 ao I1 so1 (F.ext0 (x0.trans x1)) fun vv ρ2 s2 x2 I2 so2 v2 => ?_)
          refine wpAny_bind (wpAny_standAt (wpAny_pure (wpAny_pure ?_)))
          obtain ⟨t, rfl⟩ := v1.str_
          obtain ⟨x, ex, hx⟩ := (v0.mono (x1.trans x2).pre).ref_
          cases hx
          obtain ⟨ob, hob, hsm, hdr⟩ := I2.at hi ex
          rw [I2.pw] at hdr
          obtain ⟨kvs, hd, hk', hr⟩ := hdr
          have hkv : kvs = [] := by cases kvs with
            | nil => rfl
            | cons a b => simp at hk'
          subst hkv
          refine ⟨[(k, vv)], ⟨isStr_str, rfl, trivial⟩, Heap.dictOf_iff.mpr ⟨ob, hob, hd⟩, fun h' hD' hs' => ?_⟩
          obtain ⟨o', ho', hd'⟩ := Heap.dictOf_iff.mp hD'
          have hm := List.mem_of_getElem? ex
          have xs : Ext C ρ2 [] s2.heap ρ2 h' := Ext.set hm hs' ⟨_, ho'⟩
          have xx := x0.trans (x1.trans (x2.trans xs))
          exact hQ _ ρ2 { s2 with heap := h', toks := s2.toks + 1 } xx (I2.set (mh_lt hi) ex hs'.extBut ho' ⟨hsm, by rw [I2.pw]; exact ⟨_, hd', rfl, .cons v2 .nil⟩⟩) (so2.heap _ _) (v0.mono (x1.trans x2).pre)
      · cases hf
    · cases hf
  · cases hf
end Mine

namespace Mine

/-! ## the denotations of the two classes' methods, the addresses left open: A, N the classes, rc the method _read_char -/
noncomputable def F_alen (A : Addr) : DS := (dSeq (dRet (dLenAcc A 0)) dNil)
noncomputable def F_astr (A : Addr) : DS := (dSeq (dRet (dStrAcc A 0)) dNil)
noncomputable def F_give : DS := (dSeq (dAsg 13 (dSliceS (dVar 11) (some (dOp2 oItem (dVar 12) (dC (.int 0)))) (some (dOp2 oAdd (dOp2 oItem (dVar 12) (dC (.int 0))) (dVar 10))))) (dSeq (dAugI (dVar 12) (dC (.int 0)) oIAdd (dCall fLen (dL1 (dVar 13) dL0))) (dSeq (dRet (dVar 13)) dNil)))
noncomputable def F_ninit (N : Addr) : DS := (dSeq (dAsgAttr (setAttrD N "lineno") (dC (.int 1)) (dVar 0)) (dSeq (dAsgAttr (setAttrD N "instream") (dVar 6) (dVar 0)) (dSeq (dAsgAttr (setAttrD N "whitespace") (dC (.str "\n\t\r ")) (dVar 0)) (dSeq (dAsgAttr (setAttrD N "pushback") (dLstM dL0) (dVar 0)) dNil))))
noncomputable def F_read_char (N : Addr) : DS := (dSeq (dAsg 7 (dRead (oRead 10 11 12 F_give) (dOp1 (oAttr N "instream") (dVar 0)) (dC (.int 1)))) (dSeq (dIf (dTru (dOp2 oEq (dVar 7) (dC (.str "\n")))) (dSeq (dAugAttr (oAttr N "lineno") (setAttrD N "lineno") oIAdd (dVar 0) (dC (.int 1))) dNil) dNil) (dSeq (dRet (dVar 7)) dNil)))
noncomputable def F_get_token (N rc : Addr) : DS := (dSeq (dIf (dTru (dOp1 (oAttr N "pushback") (dVar 0))) (dSeq (dRet (dBMeth selList fLpop (dOp1 (oAttr N "pushback") (dVar 0)) (dL1 (dC (.int 0)) dL0))) dNil) dNil) (dSeq (dAsg 8 (dC (.str ""))) (dSeq (dAsg 9 (dIter N rc "_read_char" (dVar 0))) (dSeq (dForC rc (dFn [0] (F_read_char N)) 1000 (dVar 9) (tgV 7) (dSeq (dIf (dTru (dOp2 oIn (dVar 7) (dOp1 (oAttr N "whitespace") (dVar 0)))) (dSeq dCont dNil) dNil) (dSeq (dIf (dTru (dOp2 oEq (dVar 7) (dC (.str "\"")))) (dSeq (dForC rc (dFn [0] (F_read_char N)) 1000 (dVar 9) (tgV 7) (dSeq (dIf (dTru (dOp2 oEq (dVar 7) (dC (.str "\"")))) (dSeq (dRet (dVar 8)) dNil) (dSeq (dIf (dTru (dOp2 oEq (dVar 7) (dC (.str "\\")))) (dSeq (dAsg 7 (dMeth N "_read_char" (dFn [0] (F_read_char N)) (dVar 0) dL0)) dNil) dNil) dNil)) (dSeq (dAugV 8 oIAdd (dVar 7)) dNil))) dNil) (dSeq (dIf (dTru (dOp2 oEq (dVar 7) (dC (.str "\\")))) (dSeq (dAsg 7 (dMeth N "_read_char" (dFn [0] (F_read_char N)) (dVar 0) dL0)) dNil) dNil) (dSeq (dAugV 8 oIAdd (dVar 7)) (dSeq (dForC rc (dFn [0] (F_read_char N)) 1000 (dVar 9) (tgV 7) (dSeq (dIf (dTru (dOp2 oIn (dVar 7) (dOp1 (oAttr N "whitespace") (dVar 0)))) (dSeq (dRet (dVar 8)) dNil) (dSeq (dIf (dTru (dOp2 oEq (dVar 7) (dC (.str "\\")))) (dSeq (dAsg 7 (dMeth N "_read_char" (dFn [0] (F_read_char N)) (dVar 0) dL0)) dNil) dNil) dNil)) (dSeq (dAugV 8 oIAdd (dVar 7)) dNil))) dNil)))) dNil))) (dSeq (dRet (dVar 8)) dNil)))))
noncomputable def F_push_token (N : Addr) : DS := (dSeq (dExprN (dBMeth selList fAppend (dOp1 (oAttr N "pushback") (dVar 0)) (dL1 (dVar 8) dL0))) dNil)
noncomputable def F_push (A : Addr) : DS := (dSeq (dExprN (dBMeth (selInst A "append") (fAppendI A) (dVar 0) (dL1 (dTup (dL1 (dVar 2) (dL1 (dVar 3) dL0))) dL0))) dNil)

/-- the parts of the def within _law_lexer -/
noncomputable def giveOf (p : Program) (k : Nat) : Option (Arguments × List Stmt × Scope) := match p.main.body.drop k with
  | .FunctionDef _ _ [_, .FunctionDef _ gp gb _ _ _ gs _ _ _, _, _] _ _ _ _ _ _ _ :: _ => some (gp, gb, gs)
  | _ => none
noncomputable def giveP (p : Program) (k : Nat) (base : Heap) (fd : FuncData) : Prop := ∃ gp gb gs, giveOf p k = some (gp, gb, gs) ∧
  ∃ c1 c2 doc pm cv ctv, c1 ≠ c2 ∧ base.get? c1 = none ∧ base.get? c2 = none ∧ fd = giveFd "_law_lexer.<locals>._law_give" gp gb gs c1 c2 doc pm cv ctv
theorem noFree {l : List (Str × NameKind)} (h : ∀ x ∈ l, x.2 ≠ .free) (n : Str) : l.lookup n ≠ some .free := fun e => h (n, .free) (mem_of_lookup e) rfl
theorem subNone {C : Cx} : SubIter C none := True.intro
theorem RP_some {C : Cx} {d : Nat} {env : Env} {e : PySem.Expr} {f : D} (h : RE C d env e f) : RP C d env (some e) (some f) := h
theorem RP_none {C : Cx} {d : Nat} {env : Env} : RP C d env none none := by unfold RP; first | trivial | exact rfl
theorem compOk {C : Cx} {env : Env} {scope : Scope} {own : List Nat} (h1 : scope.kind = .function) (h2 : scope.names.all (fun x => x.2 != .cell) = true) (h3 : (scope.names.map (·.1)).Nodup)
    (h4 : scope.names.all (fun x => x.2 != .free || env.kindOf x.1 == some .cell || env.kindOf x.1 == some .free) = true)
    (h5 : (List.range C.tbl.length).all (fun x => match C.tbl[x]? with | some n => scope.names.lookup n != some .local || own.contains x | none => true) = true) : CompOk C env scope own := by
  refine ⟨h1, fun x hx => ?_, h3, fun n hn => ?_, fun x n hx hn => ?_⟩
  · simpa using List.all_eq_true.mp h2 x hx
  · have := List.all_eq_true.mp h4 _ hn
    simpa using this
  · have hl : x < C.tbl.length := (List.getElem?_eq_some_iff.mp hx).1
    have := List.all_eq_true.mp h5 x (List.mem_range.mpr hl)
    rw [hx] at this
    simpa [hn] using this
end Mine

namespace Mine

/-! ## the plain law of the lexer -/
noncomputable def isWs (c : Nat) : Bool := c == 10 || c == 9 || c == 13 || c == 32
noncomputable abbrev ch1 (c : Nat) : Str := ⟨#[c]⟩
noncomputable abbrev txt (l : List Nat) : Str := ⟨l.toArray⟩
theorem s_nl : ("\n" : Str) = ch1 10 := by kernel_rfl
theorem s_q : ("\"" : Str) = ch1 34 := by kernel_rfl
theorem s_bs : ("\\" : Str) = ch1 92 := by kernel_rfl
theorem s_nil : ("" : Str) = txt [] := by kernel_rfl
theorem occ_ws : ∀ c : Fin 128, (Builtin.Str.occurrences ("\n\t\r " : Str) ⟨#[c.1]⟩ 0 ("\n\t\r " : Str).length 1).isEmpty = !isWs c.1 := by decide +kernel
theorem txt_len (l : List Nat) : (txt l).length = l.length := by simp [Str.length]
theorem shp {l : List Nat} (h : ∀ c ∈ l, c < 128) : SeqAt.shaped (.str (txt l)) = true := by
  simp only [SeqAt.shaped, PyData.canLay0, PyData.depth]
  simp [PyData.strOk]
  intro i hi
  have := h _ hi
  omega

noncomputable def rdc (l : List Nat) (p : Nat) : Str := match l[p]? with | some c => ch1 c | none => txt []
theorem mm_id {p n : Nat} (h : p ≤ n) : max (0 : Int) (min (p : Int) n) = p := by
  rw [Int.min_eq_left (Int.ofNat_le.mpr h), Int.max_eq_right (Int.natCast_nonneg p)]
theorem mm_top {p n : Nat} (h : n ≤ p) : max (0 : Int) (min (p : Int) n) = n := by
  rw [Int.min_eq_right (Int.ofNat_le.mpr h), Int.max_eq_right (Int.natCast_nonneg n)]
theorem sub_one {a b : Nat} (h : b + 1 ≤ a) : a - (b + 1) + 1 = a - b := Nat.succ_pred_eq_of_pos (Nat.sub_pos_of_lt h)
theorem sidx (p n : Nat) (hp : p ≤ n) : Builtin.Str.strSliceIndices (some (p : Int)) (some ((p : Int) + 1)) 1 n = if p < n then [p] else [] := by
  unfold Builtin.Str.strSliceIndices sliceRange
  have h0 : ¬ ((p : Int) < 0) := Int.not_lt.mpr (Int.natCast_nonneg p)
  have h1 : ¬ ((p : Int) + 1 < 0) := Int.not_lt.mpr (Int.natCast_nonneg (p + 1))
  simp only [h0, h1, if_false, show (1 : Int) > 0 by decide, if_true]
  by_cases h : p < n
  · rw [if_pos h]
    have e2 : max (0 : Int) (min ((p : Int) + 1) n) = p + 1 := mm_id (p := p + 1) h
    rw [mm_id hp, e2, if_pos (Int.lt_succ p)]
    have e3 : ((p : Int) + 1 - p + 1 - 1) / 1 = 1 := by rw [Int.ediv_one]; omega
    rw [e3]
    simp
  · rw [if_neg h]
    have e : p = n := Nat.le_antisymm hp (Nat.not_lt.mp h)
    subst e
    have e2 : max (0 : Int) (min ((p : Int) + 1) p) = p := mm_top (p := p + 1) (Nat.le_succ p)
    rw [mm_id hp, e2, if_neg (Int.lt_irrefl _)]
    simp
theorem slice1 (l : List Nat) (p : Nat) (hp : p ≤ l.length) : Txt.slice (txt l) (some (p : Int)) (some ((p : Int) + 1)) = rdc l p := by
  unfold Txt.slice rdc
  rw [txt_len, sidx p _ hp]
  by_cases h : p < l.length
  · have hs : l[p]? = some l[p] := List.getElem?_eq_getElem h
    rw [if_pos h, hs]
    split
    · rename_i h1
      match l, h1, h with
      | [x], _, h =>
        have : p = 0 := by simp at h; exact h
        subst this
        rfl
      | [], h1, h => simp at h
      | x :: y :: r, h1, h => simp at h1
    · simp [hs]
  · have hs : l[p]? = none := List.getElem?_eq_none (by omega)
    rw [if_neg h, hs]
    split
    · rename_i h1
      match l, h1 with
      | [], _ => rfl
      | x :: r, h1 => simp at h1
    · rfl
theorem rdc_len (l : List Nat) (p : Nat) (hp : p ≤ l.length) : p + (rdc l p).length ≤ l.length := by
  unfold rdc
  split
  · rename_i c h
    have := (List.getElem?_eq_some_iff.mp h).1
    rw [show (ch1 c).length = 1 from rfl]
    omega
  · rw [txt_len]; simpa using hp

theorem read_raw {l : List Nat} {p t : Nat} {mh : MH} (hp : p ≤ l.length) (hT : l.length ≤ 1000) (ht : mh[t]? = some (.list [.int (p : Int)])) :
    oRead 10 11 12 F_give (.strm (txt l) t) (.int 1) mh = some (.str (rdc l p), mh.set t (.list [.int ((p : Int) + ((rdc l p).length : Nat))])) := by
  have hs : sizeLine = 16777216 := rfl
  have h1 : l.length ≤ 16777216 := by omega
  have h2 : (rdc l p).length ≤ 16777216 := by have := rdc_len l p hp; omega
  simp [oRead, ht, F_give, dSeq, dAsg, dSliceS, dPart, dVar, dC, dOp2, dAugI, dCall, dL1, dL0, dRet, dNil, oItem, oAdd, oIAdd, itemAt, place, setI, fLen, upd, List.lookup, txt_len, hs, h1, h2, slice1 l p hp]

/-! ### the reader at hand -/
noncomputable def lexA (T : Str) (t pb : Nat) (L : Int) : List (Str × MV) := [("lineno", .int L), ("instream", .strm T t), ("whitespace", .str ("\n\t\r " : Str)), ("pushback", .ref pb)]
theorem lexA_lineno {T : Str} {t pb : Nat} {L : Int} : (lexA T t pb L).lookup ("lineno" : Str) = some (.int L) := by kernel_rfl
theorem lexA_instream {T : Str} {t pb : Nat} {L : Int} : (lexA T t pb L).lookup ("instream" : Str) = some (.strm T t) := by kernel_rfl
theorem lexA_ws {T : Str} {t pb : Nat} {L : Int} : (lexA T t pb L).lookup ("whitespace" : Str) = some (.str ("\n\t\r " : Str)) := by kernel_rfl
theorem lexA_pb {T : Str} {t pb : Nat} {L : Int} : (lexA T t pb L).lookup ("pushback" : Str) = some (.ref pb) := by kernel_rfl
theorem lexA_rc {T : Str} {t pb : Nat} {L : Int} : (lexA T t pb L).lookup ("_read_char" : Str) = none := by kernel_rfl
theorem lexA_gt {T : Str} {t pb : Nat} {L : Int} : (lexA T t pb L).lookup ("get_token" : Str) = none := by kernel_rfl
theorem lexA_upd {T : Str} {t pb : Nat} {L L' : Int} : updA (lexA T t pb L) "lineno" (.int L') = lexA T t pb L' := by kernel_rfl

structure LexAt (N : Addr) (mh : MH) (i dd t pb : Nat) (T : Str) (p : Nat) (L : Int) : Prop where
  inst : mh[i]? = some (.inst N dd none)
  attrs : mh[dd]? = some (.attrs (lexA T t pb L))
  at_ : mh[t]? = some (.list [.int (p : Int)])
  i1 : i ≠ dd
  i2 : i ≠ t
  i3 : dd ≠ t

noncomputable def lexSet (mh : MH) (dd t pb : Nat) (T : Str) (p : Nat) (L : Int) : MH := (mh.set t (.list [.int (p : Int)])).set dd (.attrs (lexA T t pb L))
theorem LexAt.lt {N : Addr} {mh : MH} {i dd t pb p : Nat} {T : Str} {L : Int} (h : LexAt N mh i dd t pb T p L) : i < mh.length ∧ dd < mh.length ∧ t < mh.length := ⟨mh_lt h.inst, mh_lt h.attrs, mh_lt h.at_⟩
theorem LexAt.set {N : Addr} {mh : MH} {i dd t pb p : Nat} {T : Str} {L : Int} (h : LexAt N mh i dd t pb T p L) (p' : Nat) (L' : Int) : LexAt N (lexSet mh dd t pb T p' L') i dd t pb T p' L' := by
  obtain ⟨h1, h2, h3⟩ := h.lt
  refine ⟨?_, ?_, ?_, h.i1, h.i2, h.i3⟩
  · unfold lexSet
    rw [List.getElem?_set_ne h.i1.symm, List.getElem?_set_ne h.i2.symm]
    exact h.inst
  · unfold lexSet
    rw [List.getElem?_set_self (by simpa using h2)]
  · unfold lexSet
    rw [List.getElem?_set_ne h.i3, List.getElem?_set_self h3]
theorem LexAt.app {N : Addr} {mh : MH} {i dd t pb p : Nat} {T : Str} {L : Int} (h : LexAt N mh i dd t pb T p L) (r : MH) : LexAt N (mh ++ r) i dd t pb T p L := by
  obtain ⟨h1, h2, h3⟩ := h.lt
  exact ⟨by rw [List.getElem?_append_left h1]; exact h.inst, by rw [List.getElem?_append_left h2]; exact h.attrs, by rw [List.getElem?_append_left h3]; exact h.at_, h.i1, h.i2, h.i3⟩
theorem lexSet_set {mh : MH} {dd t pb p p' : Nat} {T : Str} {L L' : Int} (h : dd ≠ t) : lexSet (lexSet mh dd t pb T p L) dd t pb T p' L' = lexSet mh dd t pb T p' L' := by
  unfold lexSet
  rw [List.set_comm _ _ h, List.set_set, List.set_set]
theorem lexSet_app {mh r : MH} {dd t pb p : Nat} {T : Str} {L : Int} (h1 : dd < mh.length) (h2 : t < mh.length) : lexSet (mh ++ r) dd t pb T p L = lexSet mh dd t pb T p L ++ r := by
  unfold lexSet
  rw [List.set_append_left _ _ h2, List.set_append_left _ _ (by simpa using h1)]
theorem LexAt.same {N : Addr} {mh : MH} {i dd t pb p : Nat} {T : Str} {L : Int} (h : LexAt N mh i dd t pb T p L) : lexSet mh dd t pb T p L = mh := by
  unfold lexSet
  rw [set_same h.at_, set_same h.attrs]
theorem lexSet_len {mh : MH} {dd t pb p : Nat} {T : Str} {L : Int} : (lexSet mh dd t pb T p L).length = mh.length := by simp [lexSet]

theorem me_dVar {me : ME} {mh : MH} {x : Nat} {v : MV} (h : me.lookup x = some v) : dVar x me mh = some (v, mh) := by simp [dVar, h]
theorem attr_ev {N : Addr} {mh : MH} {i dd t pb p : Nat} {T : Str} {L : Int} (h : LexAt N mh i dd t pb T p L) {name : Str} {v : MV} (hn : (lexA T t pb L).lookup name = some v) : oAttr N name (.ref i) mh = some (v, mh) := by
  simp [oAttr, h.inst, h.attrs, hn]

noncomputable def nl1 (s : Str) : Int := if s = ch1 10 then 1 else 0
theorem eq_ev {a b : Str} {mh : MH} (ha : SeqAt.shaped (.str a) = true) (hb : SeqAt.shaped (.str b) = true) : oEq (.str a) (.str b) mh = some (.bool (a == b), mh) := by
  simp [oEq, toD, ha, hb, PyData.eqv]
theorem shp1 {c : Nat} (h : c < 128) : SeqAt.shaped (.str (ch1 c)) = true := shp (l := [c]) (by simpa using h)
theorem rdc_shp {l : List Nat} {p : Nat} (h : ∀ c ∈ l, c < 128) : SeqAt.shaped (.str (rdc l p)) = true := by
  unfold rdc
  split
  · rename_i c hc
    exact shp1 (h c (List.mem_of_getElem? hc))
  · exact shp (by simp)
theorem read_ev {N : Addr} {mh : MH} {i dd t pb p : Nat} {l : List Nat} {L : Int} (h : LexAt N mh i dd t pb (txt l) p L) (hp : p ≤ l.length) (hT : l.length ≤ 1000) (hc : ∀ c ∈ l, c < 128) :
    dFn [0] (F_read_char N) [.ref i] mh = some (.str (rdc l p), lexSet mh dd t pb (txt l) (p + (rdc l p).length) (L + nl1 (rdc l p))) := by
  have e1 : oAttr N "instream" (.ref i) mh = some (.strm (txt l) t, mh) := attr_ev h lexA_instream
  have e2 := read_raw hp hT h.at_
  have e3 : ∀ mh, oEq (.str (rdc l p)) (.str ("\n" : Str)) mh = some (.bool (rdc l p == ch1 10), mh) := fun mh => by rw [s_nl]; exact eq_ev (rdc_shp hc) (shp1 (by decide))
  have hd : (mh.set t (.list [.int ((p : Int) + ((rdc l p).length : Nat))]))[dd]? = some (.attrs (lexA (txt l) t pb L)) := by rw [List.getElem?_set_ne h.i3.symm]; exact h.attrs
  have hi : (mh.set t (.list [.int ((p : Int) + ((rdc l p).length : Nat))]))[i]? = some (.inst N dd none) := by rw [List.getElem?_set_ne h.i2.symm]; exact h.inst
  have hcast : (((p + (rdc l p).length : Nat)) : Int) = (p : Int) + ((rdc l p).length : Nat) := by omega
  by_cases hn : rdc l p = ch1 10
  · have e5 : oAttr N "lineno" (.ref i) (mh.set t (.list [.int ((p : Int) + ((rdc l p).length : Nat))])) = some (.int L, mh.set t (.list [.int ((p : Int) + ((rdc l p).length : Nat))])) := by simp [oAttr, hi, hd, lexA_lineno]
    have e6 : setAttrD N "lineno" (.ref i) (.int (L + 1)) (mh.set t (.list [.int ((p : Int) + ((rdc l p).length : Nat))])) = some (lexSet mh dd t pb (txt l) (p + (rdc l p).length) (L + 1)) := by
      simp only [setAttrD, hi, hd, if_true, lexA_upd]
      rw [if_pos (by simp [lexA])]
      rw [lexSet, hcast]
    have e4 : (rdc l p == ch1 10) = true := by simp [hn]
    have e7 : nl1 (rdc l p) = 1 := by simp [nl1, hn]
    rw [e7]
    rw [e4] at e3
    simp [dFn, F_read_char, dSeq, dAsg, dRead, dOp1, dVar, dC, zipE, List.lookup, e1, e2, upd, dIf, dTru, dOp2, e3, tru, dAugAttr, e5, oIAdd, e6, dNil, dRet]
  · have e4 : (rdc l p == ch1 10) = false := by simp [hn]
    have e7 : nl1 (rdc l p) = 0 := by simp [nl1, hn]
    have e8 : lexSet mh dd t pb (txt l) (p + (rdc l p).length) (L + 0) = mh.set t (.list [.int ((p : Int) + ((rdc l p).length : Nat))]) := by
      rw [lexSet, hcast, Int.add_zero, set_same hd]
    rw [e7, e8]
    rw [e4] at e3
    simp [dFn, F_read_char, dSeq, dAsg, dRead, dOp1, dVar, dC, zipE, List.lookup, e1, e2, upd, dIf, dTru, dOp2, e3, tru, dNil, dRet]

/-! ### the loops -/
noncomputable def bQ (N : Addr) : DS := (dSeq (dIf (dTru (dOp2 oEq (dVar 7) (dC (.str "\"")))) (dSeq (dRet (dVar 8)) dNil) (dSeq (dIf (dTru (dOp2 oEq (dVar 7) (dC (.str "\\")))) (dSeq (dAsg 7 (dMeth N "_read_char" (dFn [0] (F_read_char N)) (dVar 0) dL0)) dNil) dNil) dNil)) (dSeq (dAugV 8 oIAdd (dVar 7)) dNil))
noncomputable def bW (N : Addr) : DS := (dSeq (dIf (dTru (dOp2 oIn (dVar 7) (dOp1 (oAttr N "whitespace") (dVar 0)))) (dSeq (dRet (dVar 8)) dNil) (dSeq (dIf (dTru (dOp2 oEq (dVar 7) (dC (.str "\\")))) (dSeq (dAsg 7 (dMeth N "_read_char" (dFn [0] (F_read_char N)) (dVar 0) dL0)) dNil) dNil) dNil)) (dSeq (dAugV 8 oIAdd (dVar 7)) dNil))
noncomputable def bT (N rc : Addr) : DS := (dSeq (dIf (dTru (dOp2 oIn (dVar 7) (dOp1 (oAttr N "whitespace") (dVar 0)))) (dSeq dCont dNil) dNil) (dSeq (dIf (dTru (dOp2 oEq (dVar 7) (dC (.str "\"")))) (dSeq (dForC rc (dFn [0] (F_read_char N)) 1000 (dVar 9) (tgV 7) (bQ N)) dNil) (dSeq (dIf (dTru (dOp2 oEq (dVar 7) (dC (.str "\\")))) (dSeq (dAsg 7 (dMeth N "_read_char" (dFn [0] (F_read_char N)) (dVar 0) dL0)) dNil) dNil) (dSeq (dAugV 8 oIAdd (dVar 7)) (dSeq (dForC rc (dFn [0] (F_read_char N)) 1000 (dVar 9) (tgV 7) (bW N)) dNil)))) dNil))
theorem get_token_eq (N rc : Addr) : F_get_token N rc = (dSeq (dIf (dTru (dOp1 (oAttr N "pushback") (dVar 0))) (dSeq (dRet (dBMeth selList fLpop (dOp1 (oAttr N "pushback") (dVar 0)) (dL1 (dC (.int 0)) dL0))) dNil) dNil) (dSeq (dAsg 8 (dC (.str ""))) (dSeq (dAsg 9 (dIter N rc "_read_char" (dVar 0))) (dSeq (dForC rc (dFn [0] (F_read_char N)) 1000 (dVar 9) (tgV 7) (bT N rc)) (dSeq (dRet (dVar 8)) dNil))))) := rfl

noncomputable def nls (l : List Nat) : Int := (l.count 10 : Nat)
noncomputable def nlc (c : Nat) : Int := if c = 10 then 1 else 0
theorem nls_cons (c : Nat) (r : List Nat) : nls (c :: r) = nlc c + nls r := by
  unfold nls nlc
  by_cases h : c = 10
  · subst h; simp; omega
  · simp [h, List.count_cons]
theorem nl1_ch (c : Nat) : nl1 (ch1 c) = nlc c := by
  unfold nl1 nlc
  by_cases h : c = 10
  · subst h; rfl
  · have : ch1 c ≠ ch1 10 := fun e => h (by injection e with e; simpa using e)
    simp [h, this]
theorem nl1_nil : nl1 (txt []) = 0 := rfl

noncomputable def hp (mh : MH) (dd t pb : Nat) (l0 : List Nat) (rc : Addr) (l : List Nat) (L : Int) (cs : Option Nat) : MH := lexSet mh dd t pb (txt l0) (l0.length - l.length) L ++ [.citer rc cs]

section
variable {N rc : Addr} {mh : MH} {i dd t pb p0 : Nat} {l0 : List Nat} {L0 : Int} (h : LexAt N mh i dd t pb (txt l0) p0 L0)
include h
theorem hp_at {l : List Nat} {L : Int} {cs : Option Nat} : LexAt N (hp mh dd t pb l0 rc l L cs) i dd t pb (txt l0) (l0.length - l.length) L := (h.set _ _).app _
omit h in
theorem hp_ci {l : List Nat} {L : Int} {cs : Option Nat} : (hp mh dd t pb l0 rc l L cs)[mh.length]? = some (.citer rc cs) := by
  unfold hp
  rw [List.getElem?_append_right (by rw [lexSet_len]; exact Nat.le_refl _), lexSet_len]
  simp
theorem hp_set {l l' : List Nat} {L L' : Int} {cs : Option Nat} : lexSet (hp mh dd t pb l0 rc l L cs) dd t pb (txt l0) (l0.length - l'.length) L' = hp mh dd t pb l0 rc l' L' cs := by
  obtain ⟨h1, h2, h3⟩ := h.lt
  unfold hp
  rw [lexSet_app (by rw [lexSet_len]; exact h2) (by rw [lexSet_len]; exact h3), lexSet_set h.i3]
omit h in
theorem hp_end {l : List Nat} {L : Int} {cs cs' : Option Nat} : (hp mh dd t pb l0 rc l L cs).set mh.length (.citer rc cs') = hp mh dd t pb l0 rc l L cs' := by
  unfold hp
  rw [List.set_append_right _ _ (by rw [lexSet_len]; exact Nat.le_refl _), lexSet_len]
  simp
omit h in
theorem rdc_suf {l : List Nat} (hs : l <:+ l0) : rdc l0 (l0.length - l.length) = match l with | c :: _ => ch1 c | [] => txt [] := by
  obtain ⟨pre, rfl⟩ := hs
  unfold rdc
  rw [List.length_append, Nat.add_sub_cancel]
  rw [List.getElem?_append_right (Nat.le_refl _), Nat.sub_self]
  cases l with
  | nil => rfl
  | cons c r => rfl
theorem rc_ev {c : Nat} {r : List Nat} {L : Int} {cs : Option Nat} (hs : c :: r <:+ l0) (hT : l0.length ≤ 900) (hc : ∀ c ∈ l0, c < 128) :
    dFn [0] (F_read_char N) [.ref i] (hp mh dd t pb l0 rc (c :: r) L cs) = some (.str (ch1 c), hp mh dd t pb l0 rc r (L + nlc c) cs) := by
  have hlen := hs.length_le
  have e := read_ev (hp_at (rc := rc) (l := c :: r) (L := L) (cs := cs) h) (by omega) (by omega) hc
  rw [rdc_suf hs] at e
  rw [e]
  have : l0.length - (c :: r).length + (ch1 c).length = l0.length - r.length := sub_one hlen
  rw [this, hp_set h, nl1_ch]
theorem rc_ev0 {L : Int} {cs : Option Nat} (hT : l0.length ≤ 900) (hc : ∀ c ∈ l0, c < 128) :
    dFn [0] (F_read_char N) [.ref i] (hp mh dd t pb l0 rc [] L cs) = some (.str (txt []), hp mh dd t pb l0 rc [] L cs) := by
  have e := read_ev (hp_at (rc := rc) (l := []) (L := L) (cs := cs) h) (by omega) (by omega) hc
  rw [rdc_suf (List.nil_suffix)] at e
  rw [e]
  have : l0.length - ([] : List Nat).length + (txt []).length = l0.length - ([] : List Nat).length := by simp [Str.length]
  rw [this, hp_set h, nl1_nil, Int.add_zero]
theorem nx_ev {c : Nat} {r : List Nat} {L : Int} (hs : c :: r <:+ l0) (hT : l0.length ≤ 900) (hc : ∀ c ∈ l0, c < 128) :
    dCNext rc (dFn [0] (F_read_char N)) mh.length (hp mh dd t pb l0 rc (c :: r) L (some i)) = some (some (.str (ch1 c)), hp mh dd t pb l0 rc r (L + nlc c) (some i)) := by
  have hne : ch1 c ≠ ("" : Str) := by rw [s_nil]; intro e; injection e with e; simp at e
  simp only [dCNext, hp_ci, if_true, rc_ev h hs hT hc, and_self, hne, if_false]
theorem nx_ev0 {L : Int} (hT : l0.length ≤ 900) (hc : ∀ c ∈ l0, c < 128) :
    dCNext rc (dFn [0] (F_read_char N)) mh.length (hp mh dd t pb l0 rc [] L (some i)) = some (none, hp mh dd t pb l0 rc [] L none) := by
  simp only [dCNext, hp_ci, if_true, rc_ev0 h hT hc, and_self, s_nil, hp_end]
omit h in
theorem nx_dead {l : List Nat} {L : Int} {den : DF} : dCNext rc den mh.length (hp mh dd t pb l0 rc l L none) = some (none, hp mh dd t pb l0 rc l L none) := by
  simp only [dCNext, hp_ci]

/-- the names at hand -/
noncomputable abbrev M1 (i ci : Nat) (tok : List Nat) (c : Str) : ME := [(0, .ref i), (8, .str (txt tok)), (9, .ref ci), (7, .str c)]
omit h in
theorem ch_eq {c k : Nat} {mh : MH} (hc : c < 128) (hk : k < 128) : oEq (.str (ch1 c)) (.str (ch1 k)) mh = some (.bool (c == k), mh) := by
  rw [eq_ev (shp1 hc) (shp1 hk)]
  have : (ch1 c == ch1 k) = (c == k) := by
    by_cases e : c = k
    · subst e; simp
    · have : ch1 c ≠ ch1 k := fun e' => e (by injection e' with e'; simpa using e')
      rw [beq_eq_false_iff_ne.mpr this, beq_eq_false_iff_ne.mpr e]
  rw [this]
omit h in
theorem tok_add {tok : List Nat} {c : Nat} {mh : MH} (hl : tok.length ≤ 5000) : oIAdd (.str (txt tok)) (.str (ch1 c)) mh = some (.str (txt (tok ++ [c])), mh) := by
  have hs : sizeLine = 16777216 := rfl
  simp only [oIAdd]
  rw [if_pos (by rw [txt_len, show (ch1 c).length = 1 from rfl, hs]; omega)]
  congr 2
  show MV.str (txt tok ++ ch1 c) = _
  congr 1
  show (⟨tok.toArray ++ #[c]⟩ : Str) = ⟨(tok ++ [c]).toArray⟩
  simp
omit h in
theorem bQ_close {ci : Nat} {tok : List Nat} {mh : MH} : bQ N (M1 i ci tok (ch1 34)) mh = some (.ret (.str (txt tok)), M1 i ci tok (ch1 34), mh) := by
  simp [bQ, dSeq, dIf, dTru, dOp2, dVar, dC, List.lookup, s_q, s_bs, ch_eq, tru, dRet]
omit h in
theorem bQ_plain {ci : Nat} {tok : List Nat} {mh : MH} {c : Nat} (hc : c < 128) (h1 : c ≠ 34) (h2 : c ≠ 92) (hl : tok.length ≤ 5000) : bQ N (M1 i ci tok (ch1 c)) mh = some (.next, M1 i ci (tok ++ [c]) (ch1 c), mh) := by
  have e1 : (c == 34) = false := by simpa using h1
  have e2 : (c == 92) = false := by simpa using h2
  simp [bQ, dSeq, dIf, dTru, dOp2, dVar, dC, List.lookup, s_q, s_bs, ch_eq hc, tru, dRet, e1, e2, dNil, dAugV, dAsg, tok_add hl, upd]
theorem meth_rc {d : Nat} {r tok : List Nat} {L : Int} {cs : Option Nat} {c : Str} {ci : Nat} (hs : d :: r <:+ l0) (hT : l0.length ≤ 900) (hc : ∀ c ∈ l0, c < 128) :
    dMeth N "_read_char" (dFn [0] (F_read_char N)) (dVar 0) dL0 (M1 i ci tok c) (hp mh dd t pb l0 rc (d :: r) L cs) = some (.str (ch1 d), hp mh dd t pb l0 rc r (L + nlc d) cs) := by
  have hh := hp_at (rc := rc) (l := d :: r) (L := L) (cs := cs) h
  simp [dMeth, dVar, List.lookup, hh.inst, hh.attrs, lexA_rc, dL0, rc_ev h hs hT hc]
theorem bQ_esc {d : Nat} {r tok : List Nat} {L : Int} {cs : Option Nat} {ci : Nat} (hs : d :: r <:+ l0) (hT : l0.length ≤ 900) (hc : ∀ c ∈ l0, c < 128) (hl : tok.length ≤ 5000) :
    bQ N (M1 i ci tok (ch1 92)) (hp mh dd t pb l0 rc (d :: r) L cs) = some (.next, M1 i ci (tok ++ [d]) (ch1 d), hp mh dd t pb l0 rc r (L + nlc d) cs) := by
  have hm := meth_rc (rc := rc) (c := ch1 92) (ci := ci) (tok := tok) (L := L) (cs := cs) h hs hT hc
  simp [bQ, dSeq, dIf, dTru, dOp2, dVar, dC, List.lookup, s_q, s_bs, ch_eq, tru, dRet, dNil, dAugV, dAsg, tok_add hl, upd, hm]
omit h in
theorem ws_ev {c : Nat} {mh : MH} (hc : c < 128) : oIn (.str (ch1 c)) (.str ("\n\t\r " : Str)) mh = some (.bool (isWs c), mh) := by
  have := occ_ws ⟨c, hc⟩
  simp only at this
  simp only [oIn]
  rw [this, Bool.not_not]
theorem bW_close {ci c : Nat} {tok l : List Nat} {L : Int} {cs : Option Nat} (hc : c < 128) (hw : isWs c = true) : bW N (M1 i ci tok (ch1 c)) (hp mh dd t pb l0 rc l L cs) = some (.ret (.str (txt tok)), M1 i ci tok (ch1 c), hp mh dd t pb l0 rc l L cs) := by
  have ha := attr_ev (hp_at (rc := rc) (l := l) (L := L) (cs := cs) h) lexA_ws
  simp [bW, dSeq, dIf, dTru, dOp2, dOp1, dVar, dC, List.lookup, ha, ws_ev hc, hw, tru, dRet]
theorem bW_plain {ci c : Nat} {tok l : List Nat} {L : Int} {cs : Option Nat} (hc : c < 128) (hw : isWs c = false) (h2 : c ≠ 92) (hl : tok.length ≤ 5000) :
    bW N (M1 i ci tok (ch1 c)) (hp mh dd t pb l0 rc l L cs) = some (.next, M1 i ci (tok ++ [c]) (ch1 c), hp mh dd t pb l0 rc l L cs) := by
  have ha := attr_ev (hp_at (rc := rc) (l := l) (L := L) (cs := cs) h) lexA_ws
  have e2 : (c == 92) = false := by simpa using h2
  simp [bW, dSeq, dIf, dTru, dOp2, dOp1, dVar, dC, List.lookup, ha, ws_ev hc, hw, s_bs, ch_eq hc, e2, tru, dRet, dNil, dAugV, dAsg, tok_add hl, upd]
theorem bW_esc {d : Nat} {r tok : List Nat} {L : Int} {cs : Option Nat} {ci : Nat} (hs : d :: r <:+ l0) (hT : l0.length ≤ 900) (hc : ∀ c ∈ l0, c < 128) (hl : tok.length ≤ 5000) :
    bW N (M1 i ci tok (ch1 92)) (hp mh dd t pb l0 rc (d :: r) L cs) = some (.next, M1 i ci (tok ++ [d]) (ch1 d), hp mh dd t pb l0 rc r (L + nlc d) cs) := by
  have ha := attr_ev (hp_at (rc := rc) (l := d :: r) (L := L) (cs := cs) h) lexA_ws
  have hm := meth_rc (rc := rc) (c := ch1 92) (ci := ci) (tok := tok) (L := L) (cs := cs) h hs hT hc
  simp [bW, dSeq, dIf, dTru, dOp2, dOp1, dVar, dC, List.lookup, ha, ws_ev, show isWs 92 = false from rfl, s_bs, ch_eq, tru, dRet, dNil, dAugV, dAsg, tok_add hl, upd, hm]
end

/-! ### what a word is -/
inductive LexQ : List Nat → List Nat → List Nat → List Nat → Prop where
  | close {r tok} : LexQ (34 :: r) tok tok r
  | esc {d r tok tok' r'} : LexQ r (tok ++ [d]) tok' r' → LexQ (92 :: d :: r) tok tok' r'
  | plain {c r tok tok' r'} : c ≠ 34 → c ≠ 92 → LexQ r (tok ++ [c]) tok' r' → LexQ (c :: r) tok tok' r'
/-- the flag: the text ended -/
inductive LexW : List Nat → List Nat → List Nat → List Nat → Bool → Prop where
  | eof {tok} : LexW [] tok tok [] true
  | close {c r tok} : isWs c = true → LexW (c :: r) tok tok r false
  | esc {d r tok tok' r' b} : LexW r (tok ++ [d]) tok' r' b → LexW (92 :: d :: r) tok tok' r' b
  | plain {c r tok tok' r' b} : isWs c = false → c ≠ 92 → LexW r (tok ++ [c]) tok' r' b → LexW (c :: r) tok tok' r' b
inductive LexT : List Nat → List Nat → List Nat → Prop where
  | eof : LexT [] [] []
  | ws {c r tok r'} : isWs c = true → LexT r tok r' → LexT (c :: r) tok r'
  | quote {r tok r'} : LexQ r [] tok r' → LexT (34 :: r) tok r'
  | esc {d r tok r' b} : LexW r [d] tok r' b → LexT (92 :: d :: r) tok r'
  | word {c r tok r' b} : isWs c = false → c ≠ 34 → c ≠ 92 → LexW r [c] tok r' b → LexT (c :: r) tok r'

section
variable {N rc : Addr} {mh : MH} {i dd t pb p0 : Nat} {l0 : List Nat} {L0 : Int} (h : LexAt N mh i dd t pb (txt l0) p0 L0) (hT : l0.length ≤ 900) (hc : ∀ c ∈ l0, c < 128)
include h hT hc
theorem suf1 {c : Nat} {r : List Nat} (hs : c :: r <:+ l0) : r <:+ l0 ∧ c < 128 := ⟨(List.suffix_cons c r).trans hs, hc c (hs.subset (by simp))⟩
theorem loopQ {l tok tok' l' : List Nat} (hx : LexQ l tok tok' l') : ∀ {L : Int} {n : Nat} {me : ME}, l.length < n → (∀ v, upd me 7 (.str v) = M1 i mh.length tok v) → l <:+ l0 → tok.length + l.length ≤ 2000 →
    l' <:+ l0 ∧ ∃ me', dForCLoop (dCNext rc (dFn [0] (F_read_char N)) mh.length) (tgV 7) (bQ N) n me (hp mh dd t pb l0 rc l L (some i)) = some (.ret (.str (txt tok')), me', hp mh dd t pb l0 rc l' (L + nls l - nls l') (some i)) := by
  induction hx with
  | @close r tok =>
    intro L n me hn hme hs hl
    cases n with
    | zero => omega
    | succ n =>
      obtain ⟨s1, c1⟩ := suf1 h hT hc hs
      refine ⟨s1, M1 i mh.length tok (ch1 34), ?_⟩
      simp only [dForCLoop, nx_ev h hs hT hc, tgV, hme, bQ_close]
      rw [nls_cons, show L + (nlc 34 + nls r) - nls r = L + nlc 34 by omega]
  | @esc d r tok tok' r' _ ih =>
    intro L n me hn hme hs hl
    cases n with
    | zero => omega
    | succ n =>
      obtain ⟨s1, c1⟩ := suf1 h hT hc hs
      obtain ⟨s2, c2⟩ := suf1 h hT hc s1
      simp only [List.length_cons] at hn hl
      obtain ⟨q, me', e⟩ := ih (L := L + nlc 92 + nlc d) (n := n) (me := M1 i mh.length (tok ++ [d]) (ch1 d)) (by omega) (fun v => rfl) s2 (by simp; omega)
      refine ⟨q, me', ?_⟩
      simp only [dForCLoop, nx_ev h hs hT hc, tgV, hme, bQ_esc h s1 hT hc (show tok.length ≤ 5000 by omega)]
      rw [e, nls_cons, nls_cons, show L + nlc 92 + nlc d + nls r - nls r' = L + (nlc 92 + (nlc d + nls r)) - nls r' by omega]
  | @plain c r tok tok' r' h1 h2 _ ih =>
    intro L n me hn hme hs hl
    cases n with
    | zero => omega
    | succ n =>
      obtain ⟨s1, c1⟩ := suf1 h hT hc hs
      simp only [List.length_cons] at hn hl
      obtain ⟨q, me', e⟩ := ih (L := L + nlc c) (n := n) (me := M1 i mh.length (tok ++ [c]) (ch1 c)) (by omega) (fun v => rfl) s1 (by simp; omega)
      refine ⟨q, me', ?_⟩
      simp only [dForCLoop, nx_ev h hs hT hc, tgV, hme, bQ_plain c1 h1 h2 (show tok.length ≤ 5000 by omega)]
      rw [e, nls_cons, show L + nlc c + nls r - nls r' = L + (nlc c + nls r) - nls r' by omega]
theorem loopW {l tok tok' l' : List Nat} {b : Bool} (hx : LexW l tok tok' l' b) : ∀ {L : Int} {n : Nat} {me : ME}, l.length < n → (∀ v, upd me 7 (.str v) = M1 i mh.length tok v) → me.lookup 8 = some (.str (txt tok)) → l <:+ l0 → tok.length + l.length ≤ 2000 →
    l' <:+ l0 ∧ (b = true → l' = []) ∧ ∃ me', me'.lookup 8 = some (.str (txt tok')) ∧ dForCLoop (dCNext rc (dFn [0] (F_read_char N)) mh.length) (tgV 7) (bW N) n me (hp mh dd t pb l0 rc l L (some i)) =
      some (if b then .next else .ret (.str (txt tok')), me', hp mh dd t pb l0 rc l' (L + nls l - nls l') (if b then none else some i)) := by
  induction hx with
  | @eof tok =>
    intro L n me hn hme hm8 hs hl
    cases n with
    | zero => omega
    | succ n =>
      refine ⟨hs, fun _ => rfl, me, hm8, ?_⟩
      simp only [dForCLoop, nx_ev0 h hT hc, if_true]
      rw [show L + nls [] - nls [] = L by omega]
  | @close c r tok hw =>
    intro L n me hn hme hm8 hs hl
    cases n with
    | zero => omega
    | succ n =>
      obtain ⟨s1, c1⟩ := suf1 h hT hc hs
      refine ⟨s1, (fun e => by cases e), M1 i mh.length tok (ch1 c), rfl, ?_⟩
      simp only [dForCLoop, nx_ev h hs hT hc, tgV, hme, bW_close h c1 hw]
      rw [nls_cons, show L + (nlc c + nls r) - nls r = L + nlc c by omega]
      rfl
  | @esc d r tok tok' r' b _ ih =>
    intro L n me hn hme hm8 hs hl
    cases n with
    | zero => omega
    | succ n =>
      obtain ⟨s1, c1⟩ := suf1 h hT hc hs
      obtain ⟨s2, c2⟩ := suf1 h hT hc s1
      simp only [List.length_cons] at hn hl
      obtain ⟨q, q2, me', m8, e⟩ := ih (L := L + nlc 92 + nlc d) (n := n) (me := M1 i mh.length (tok ++ [d]) (ch1 d)) (by omega) (fun v => rfl) rfl s2 (by simp; omega)
      refine ⟨q, q2, me', m8, ?_⟩
      simp only [dForCLoop, nx_ev h hs hT hc, tgV, hme, bW_esc h s1 hT hc (show tok.length ≤ 5000 by omega)]
      rw [e, nls_cons, nls_cons, show L + nlc 92 + nlc d + nls r - nls r' = L + (nlc 92 + (nlc d + nls r)) - nls r' by omega]
  | @plain c r tok tok' r' b h1 h2 _ ih =>
    intro L n me hn hme hm8 hs hl
    cases n with
    | zero => omega
    | succ n =>
      obtain ⟨s1, c1⟩ := suf1 h hT hc hs
      simp only [List.length_cons] at hn hl
      obtain ⟨q, q2, me', m8, e⟩ := ih (L := L + nlc c) (n := n) (me := M1 i mh.length (tok ++ [c]) (ch1 c)) (by omega) (fun v => rfl) rfl s1 (by simp; omega)
      refine ⟨q, q2, me', m8, ?_⟩
      simp only [dForCLoop, nx_ev h hs hT hc, tgV, hme, bW_plain h c1 h1 h2 (show tok.length ≤ 5000 by omega)]
      rw [e, nls_cons, show L + nlc c + nls r - nls r' = L + (nlc c + nls r) - nls r' by omega]

/-- one turn of the outer loop, by the sign read -/
theorem loopT {l tok' l' : List Nat} (hx : LexT l tok' l') : ∀ {L : Int} {n : Nat} {me : ME}, l.length + 1 < n → (∀ v, upd me 7 (.str v) = M1 i mh.length [] v) → me.lookup 8 = some (.str (txt [])) → l <:+ l0 → l.length ≤ 900 →
    l' <:+ l0 ∧ ∃ me' fl cs, (fl = .ret (.str (txt tok')) ∨ (fl = .next ∧ me'.lookup 8 = some (.str (txt tok')))) ∧ dForCLoop (dCNext rc (dFn [0] (F_read_char N)) mh.length) (tgV 7) (bT N rc) n me (hp mh dd t pb l0 rc l L (some i)) =
      some (fl, me', hp mh dd t pb l0 rc l' (L + nls l - nls l') cs) := by
  induction hx with
  | eof =>
    intro L n me hn hme hm8 hs hl
    cases n with
    | zero => omega
    | succ n =>
      refine ⟨hs, me, .next, none, .inr ⟨rfl, hm8⟩, ?_⟩
      simp only [dForCLoop, nx_ev0 h hT hc]
      rw [show L + nls [] - nls [] = L by omega]
  | @ws c r tok' r' hw _ ih =>
    intro L n me hn hme hm8 hs hl
    cases n with
    | zero => omega
    | succ n =>
      obtain ⟨s1, c1⟩ := suf1 h hT hc hs
      simp only [List.length_cons] at hn hl
      obtain ⟨q, me', fl, cs, hfl, e⟩ := ih (L := L + nlc c) (n := n) (me := M1 i mh.length [] (ch1 c)) (by omega) (fun v => rfl) rfl s1 (by omega)
      refine ⟨q, me', fl, cs, hfl, ?_⟩
      have ha := attr_ev (hp_at (rc := rc) (l := r) (L := L + nlc c) (cs := some i) h) lexA_ws
      have hb : bT N rc (M1 i mh.length [] (ch1 c)) (hp mh dd t pb l0 rc r (L + nlc c) (some i)) = some (.cont, M1 i mh.length [] (ch1 c), hp mh dd t pb l0 rc r (L + nlc c) (some i)) := by
        simp [bT, dSeq, dIf, dTru, dOp2, dOp1, dVar, dC, List.lookup, ha, ws_ev c1, hw, tru, dCont]
      simp only [dForCLoop, nx_ev h hs hT hc, tgV, hme, hb]
      rw [e, nls_cons, show L + nlc c + nls r - nls r' = L + (nlc c + nls r) - nls r' by omega]
  | @quote r tok' r' hq =>
    intro L n me hn hme hm8 hs hl
    cases n with
    | zero => omega
    | succ n =>
      obtain ⟨s1, c1⟩ := suf1 h hT hc hs
      simp only [List.length_cons] at hn hl
      obtain ⟨q, me', e⟩ := loopQ (rc := rc) h hT hc hq (L := L + nlc 34) (n := 1000) (me := M1 i mh.length [] (ch1 34)) (by omega) (fun v => rfl) s1 (by simp; omega)
      refine ⟨q, me', .ret (.str (txt tok')), some i, .inl rfl, ?_⟩
      have ha := attr_ev (hp_at (rc := rc) (l := r) (L := L + nlc 34) (cs := some i) h) lexA_ws
      have hb : bT N rc (M1 i mh.length [] (ch1 34)) (hp mh dd t pb l0 rc r (L + nlc 34) (some i)) = some (.ret (.str (txt tok')), me', hp mh dd t pb l0 rc r' (L + nlc 34 + nls r - nls r') (some i)) := by
        have hi := hp_ci (mh := mh) (dd := dd) (t := t) (pb := pb) (l0 := l0) (rc := rc) (l := r) (L := L + nlc 34) (cs := some i)
        simp [bT, dSeq, dIf, dTru, dOp2, dOp1, dVar, dC, List.lookup, ha, ws_ev, show isWs 34 = false from rfl, s_q, ch_eq, tru, dForC, hi, e, dNil]
      simp only [dForCLoop, nx_ev h hs hT hc, tgV, hme, hb]
      rw [nls_cons, show L + nlc 34 + nls r - nls r' = L + (nlc 34 + nls r) - nls r' by omega]
  | @esc d r tok' r' b hw =>
    intro L n me hn hme hm8 hs hl
    cases n with
    | zero => omega
    | succ n =>
      obtain ⟨s1, c1⟩ := suf1 h hT hc hs
      obtain ⟨s2, c2⟩ := suf1 h hT hc s1
      simp only [List.length_cons] at hn hl
      obtain ⟨q, q2, me', m8, e⟩ := loopW (rc := rc) h hT hc hw (L := L + nlc 92 + nlc d) (n := 1000) (me := M1 i mh.length [d] (ch1 d)) (by omega) (fun v => rfl) rfl s2 (by simp; omega)
      have ha := attr_ev (hp_at (rc := rc) (l := d :: r) (L := L + nlc 92) (cs := some i) h) lexA_ws
      have hm := meth_rc (rc := rc) (c := ch1 92) (ci := mh.length) (tok := []) (L := L + nlc 92) (cs := some i) h s1 hT hc
      have hi := hp_ci (mh := mh) (dd := dd) (t := t) (pb := pb) (l0 := l0) (rc := rc) (l := r) (L := L + nlc 92 + nlc d) (cs := some i)
      have hta := tok_add (tok := []) (c := d) (mh := hp mh dd t pb l0 rc r (L + nlc 92 + nlc d) (some i)) (by simp)
      have hta' : oIAdd (.str (txt [])) (.str (ch1 d)) (hp mh dd t pb l0 rc r (L + nlc 92 + nlc d) (some i)) = some (.str (txt [d]), hp mh dd t pb l0 rc r (L + nlc 92 + nlc d) (some i)) := hta
      have hb : bT N rc (M1 i mh.length [] (ch1 92)) (hp mh dd t pb l0 rc (d :: r) (L + nlc 92) (some i)) = some (if b then .next else .ret (.str (txt tok')), me', hp mh dd t pb l0 rc r' (L + nlc 92 + nlc d + nls r - nls r') (if b then none else some i)) := by
        simp [bT, dSeq, dIf, dTru, dOp2, dOp1, dVar, dC, List.lookup, ha, ws_ev, show isWs 92 = false from rfl, s_q, s_bs, ch_eq, tru, dNil, dAsg, hm, upd, dAugV, hta', dForC, hi, e]
        cases b <;> rfl
      cases b with
      | false =>
        refine ⟨q, me', .ret (.str (txt tok')), some i, .inl rfl, ?_⟩
        simp only [dForCLoop, nx_ev h hs hT hc, tgV, hme, hb, Bool.false_eq_true, if_false]
        rw [nls_cons, nls_cons, show L + nlc 92 + nlc d + nls r - nls r' = L + (nlc 92 + (nlc d + nls r)) - nls r' by omega]
      | true =>
        refine ⟨q, me', .next, none, .inr ⟨rfl, m8⟩, ?_⟩
        simp only [dForCLoop, nx_ev h hs hT hc, tgV, hme, hb, if_true]
        cases n with
        | zero => omega
        | succ n =>
          simp only [dForCLoop, nx_dead]
          rw [nls_cons, nls_cons, show L + nlc 92 + nlc d + nls r - nls r' = L + (nlc 92 + (nlc d + nls r)) - nls r' by omega]
  | @word c r tok' r' b h1 h2 h3 hw =>
    intro L n me hn hme hm8 hs hl
    cases n with
    | zero => omega
    | succ n =>
      obtain ⟨s1, c1⟩ := suf1 h hT hc hs
      simp only [List.length_cons] at hn hl
      obtain ⟨q, q2, me', m8, e⟩ := loopW (rc := rc) h hT hc hw (L := L + nlc c) (n := 1000) (me := M1 i mh.length [c] (ch1 c)) (by omega) (fun v => rfl) rfl s1 (by simp; omega)
      have ha := attr_ev (hp_at (rc := rc) (l := r) (L := L + nlc c) (cs := some i) h) lexA_ws
      have hi := hp_ci (mh := mh) (dd := dd) (t := t) (pb := pb) (l0 := l0) (rc := rc) (l := r) (L := L + nlc c) (cs := some i)
      have hta' : oIAdd (.str (txt [])) (.str (ch1 c)) (hp mh dd t pb l0 rc r (L + nlc c) (some i)) = some (.str (txt [c]), hp mh dd t pb l0 rc r (L + nlc c) (some i)) := tok_add (tok := []) (by simp)
      have e1 : (c == 34) = false := by simpa using h2
      have e2 : (c == 92) = false := by simpa using h3
      have hb : bT N rc (M1 i mh.length [] (ch1 c)) (hp mh dd t pb l0 rc r (L + nlc c) (some i)) = some (if b then .next else .ret (.str (txt tok')), me', hp mh dd t pb l0 rc r' (L + nlc c + nls r - nls r') (if b then none else some i)) := by
        simp [bT, dSeq, dIf, dTru, dOp2, dOp1, dVar, dC, List.lookup, ha, ws_ev c1, h1, s_q, s_bs, ch_eq c1, e1, e2, tru, dNil, dAsg, upd, dAugV, hta', dForC, hi, e]
        cases b <;> rfl
      cases b with
      | false =>
        refine ⟨q, me', .ret (.str (txt tok')), some i, .inl rfl, ?_⟩
        simp only [dForCLoop, nx_ev h hs hT hc, tgV, hme, hb, Bool.false_eq_true, if_false]
        rw [nls_cons, show L + nlc c + nls r - nls r' = L + (nlc c + nls r) - nls r' by omega]
      | true =>
        refine ⟨q, me', .next, none, .inr ⟨rfl, m8⟩, ?_⟩
        simp only [dForCLoop, nx_ev h hs hT hc, tgV, hme, hb, if_true]
        cases n with
        | zero => omega
        | succ n =>
          simp only [dForCLoop, nx_dead]
          rw [nls_cons, show L + nlc c + nls r - nls r' = L + (nlc c + nls r) - nls r' by omega]
end

/-- the next word off the text, nothing pushed back -/
theorem get_token_ev {N rc : Addr} {mh : MH} {i dd t pb : Nat} {l0 l tok l' : List Nat} {L : Int} (h : LexAt N mh i dd t pb (txt l0) (l0.length - l.length) L) (hT : l0.length ≤ 900) (hc : ∀ c ∈ l0, c < 128) (hs : l <:+ l0)
    (hpb : mh[pb]? = some (.list [])) (hx : LexT l tok l') :
    l' <:+ l0 ∧ ∃ cs, dFn [0] (F_get_token N rc) [.ref i] mh = some (.str (txt tok), lexSet mh dd t pb (txt l0) (l0.length - l'.length) (L + nls l - nls l') ++ [.citer rc cs]) := by
  have hlen := hs.length_le
  obtain ⟨q, me', fl, cs, hfl, e⟩ := loopT (rc := rc) h hT hc hx (L := L) (n := 1000) (me := [(0, .ref i), (8, .str (txt [])), (9, .ref mh.length)]) (by omega) (fun v => rfl) rfl hs (by omega)
  have e0 : hp mh dd t pb l0 rc l L (some i) = mh ++ [.citer rc (some i)] := by unfold hp; rw [h.same]
  rw [e0] at e
  have ha := attr_ev h lexA_pb
  refine ⟨q, cs, ?_⟩
  rw [get_token_eq]
  simp only [dFn, List.length_cons, List.length_nil, if_true, zipE, dSeq, dIf, dTru, dOp1, dVar, List.lookup, beq_self_eq_true, ha, tru, hpb, List.isEmpty_nil, Bool.not_true, Bool.false_eq_true, if_false, dNil, dAsg, dC, s_nil, upd,
    show ((0 : Nat) == 8) = false from rfl, show ((0 : Nat) == 9) = false from rfl, show ((8 : Nat) == 9) = false from rfl, show ((9 : Nat) == 0) = false from rfl, show ((9 : Nat) == 8) = false from rfl, dIter, h.inst, h.attrs, lexA_rc, dForC, List.getElem?_concat_length, e, show (0 : Nat) < 1000000000 by decide]
  rcases hfl with rfl | ⟨rfl, m8⟩
  · rfl
  · simp only [dRet, dVar, m8]
    rfl
end Mine

namespace Mine

/-! ## plain steps -/
theorem seq_asg {x : Nat} {f : D} {g : DS} {me : ME} {mh mh1 : MH} {v : MV} (h : f me mh = some (v, mh1)) : dSeq (dAsg x f) g me mh = g (upd me x v) mh1 := by simp [dSeq, dAsg, h]
theorem seq_next {s g : DS} {me me1 : ME} {mh mh1 : MH} (h : s me mh = some (.next, me1, mh1)) : dSeq s g me mh = g me1 mh1 := by simp [dSeq, h]
theorem seq_if_f {c : DB} {f g k : DS} {me : ME} {mh mh1 : MH} (h : c me mh = some (false, mh1)) : dSeq (dIf c f dNil) k me mh = k me mh1 := by simp [dSeq, dIf, h, dNil]
theorem seq_ret {f : D} {g : DS} {me : ME} {mh mh1 : MH} {v : MV} (h : f me mh = some (v, mh1)) : dSeq (dRet f) g me mh = some (.ret v, me, mh1) := by simp [dSeq, dRet, h]
theorem l1 {f : D} {g : DL} {me : ME} {mh mh1 mh2 : MH} {v : MV} {vs : List MV} (h : f me mh = some (v, mh1)) (h2 : g me mh1 = some (vs, mh2)) : dL1 f g me mh = some (v :: vs, mh2) := by simp [dL1, h, h2]
theorem call_ev {den : DF} {g : DL} {me : ME} {mh mh1 : MH} {vs : List MV} (h : g me mh = some (vs, mh1)) : dCall den g me mh = den vs mh1 := by simp [dCall, h]
theorem op2_ev {o : Op2} {f g : D} {me : ME} {mh mh1 mh2 : MH} {a b : MV} (h : f me mh = some (a, mh1)) (h2 : g me mh1 = some (b, mh2)) : dOp2 o f g me mh = o a b mh2 := by simp [dOp2, h, h2]
theorem tru_bool {f : D} {me : ME} {mh mh1 : MH} {b : Bool} (h : f me mh = some (.bool b, mh1)) : dTru f me mh = some (b, mh1) := by simp [dTru, h, tru]

/-! ## texts -/
theorem str_app (a b : List Nat) : (txt a : Str) ++ (txt b : Str) = txt (a ++ b) := by
  show (⟨a.toArray ++ b.toArray⟩ : Str) = ⟨(a ++ b).toArray⟩
  simp
theorem join_flat : ∀ ls : List (List Nat), Txt.join (txt []) (ls.map txt) = txt ls.flatten := by
  intro ls
  show Builtin.Str.glued _ _ = _
  rw [StrLaws.glued_eq_join]
  induction ls with
  | nil => rfl
  | cons x r ih =>
    cases r with
    | nil => simp [Str.join]
    | cons y r =>
      show txt x ++ txt [] ++ Str.join (txt []) ((y :: r).map txt) = _
      rw [ih, str_app, str_app]
      simp
theorem join_ok {ls : List (List Nat)} (h : ls.flatten.length ≤ 1000) : JoinOk (txt []) (ls.map txt) = true := by
  unfold JoinOk
  rw [StrLaws.joinTotal]
  have e : ((ls.map txt).map (·.length)).sum = ls.flatten.length := by
    clear h
    induction ls with
    | nil => rfl
    | cons x r ih => simp [txt_len] at ih ⊢; exact ih
  rw [e]
  have hz : (txt []).length = 0 := rfl
  rw [hz]
  have hs : sizeLine = 16777216 := rfl
  generalize ls.flatten.length = n at h ⊢
  simp [Builtin.Str.tooLong, hs]
  omega
theorem oAdd_str {a b : List Nat} {mh : MH} (h : a.length + b.length ≤ 1000) : oAdd (.str (txt a)) (.str (txt b)) mh = some (.str (txt (a ++ b)), mh) := by
  have hs : sizeLine = 16777216 := rfl
  simp only [oAdd]
  rw [if_pos (by rw [txt_len, txt_len, hs]; omega), str_app]
theorem cnt_count (c : Nat) (l : List Nat) : cnt c l = (l.count c : Nat) := by
  induction l with
  | nil => rfl
  | cons x r ih =>
    rw [cnt_cons, ih, List.count_cons]
    by_cases e : x = c
    · subst e; simp; omega
    · simp [e]
theorem count_ev {l : List Nat} {mh : MH} : fCount [.str (txt l), .str ("\n" : Str)] mh = some (.int (nls l), mh) := by
  simp only [fCount, s_nl]
  rw [count_cnt, cnt_count]
  rfl

/-! ## an _Accumulator -/
noncomputable def accA : List (Str × MV) := [(("_initial_size" : Str), .int 0)]
theorem makeA_ev {A : Addr} {mh : MH} : fMakeL A (fInitAcc A) [] mh = some (.ref (mh.length + 1), mh ++ [.attrs accA, .inst A mh.length (some [])]) := by
  have h1 : (mh ++ [MO.attrs [], MO.inst A mh.length (some [])])[mh.length + 1]? = some (MO.inst A mh.length (some [])) := by
    rw [List.getElem?_append_right (Nat.le_succ _)]; simp
  have h2 : (mh ++ [MO.attrs [], MO.inst A mh.length (some [])])[mh.length]? = some (MO.attrs []) := by
    rw [List.getElem?_append_right (Nat.le_refl _)]; simp
  have h3 : mh.length ≠ mh.length + 1 := by omega
  have h4 : (mh ++ [MO.attrs [], MO.inst A mh.length (some [])]).set mh.length (.attrs accA) = mh ++ [.attrs accA, .inst A mh.length (some [])] := by
    rw [List.set_append_right _ _ (Nat.le_refl _)]; simp
  have h5 : updA [] ("_initial_size" : Str) (.int 0) = accA := rfl
  simp only [fMakeL, fInitAcc, h1, setAttrD, h2, if_true, List.length_nil, Nat.zero_le, h5, h4, ne_eq, h3, not_false_eq_true]
theorem accA_ap : accA.lookup ("append" : Str) = none := by kernel_rfl
theorem accA_push : accA.lookup ("push" : Str) = none := by kernel_rfl
theorem accA_is : accA.lookup ("_initial_size" : Str) = some (.int 0) := by kernel_rfl
theorem push_ev {A : Addr} {mh : MH} {i dd : Nat} {vs : List MV} {a b : MV} (hi : mh[i]? = some (.inst A dd (some vs))) (hd : mh[dd]? = some (.attrs accA)) (hl : vs.length ≤ 1000) :
    dFn [0, 2, 3] (F_push A) [.ref i, a, b] mh = some (.none, mh.set i (.inst A dd (some (vs ++ [.tup [a, b]])))) := by
  have h1 : vs.length ≤ 100000 := by omega
  simp [dFn, F_push, zipE, dSeq, dExprN, dBMeth, dVar, List.lookup, selInst, hi, hd, accA_ap, dL1, dL0, dTup, fAppendI, h1, isAttrs, dNil]
/-- the pieces, as values -/
noncomputable def rowM (ab : List Nat × List Nat) : MV := .tup [.str (txt ab.1), .str (txt ab.2)]
theorem rowsOf_map (rows : List (List Nat × List Nat)) : rowsOf (rows.map rowM) = some (rows.map fun ab => (txt ab.1, txt ab.2)) := by
  induction rows with
  | nil => rfl
  | cons x r ih => simp [rowsOf, rowM] at ih ⊢; rw [ih]
noncomputable def rowsT (rows : List (List Nat × List Nat)) : List Nat := (rows.map fun ab => ab.1 ++ ab.2).flatten
theorem strRows_ev (rows : List (List Nat × List Nat)) : strRows (rows.map fun ab => (txt ab.1, txt ab.2)) = txt (rowsT rows) := by
  unfold strRows rowsT
  rw [← join_flat]
  congr 1
  simp only [List.map_map]
  apply List.map_congr_left
  intro ab _
  show txtJ (txt ab.1) (txt ab.2) = txt (ab.1 ++ ab.2)
  have := join_flat [ab.1, ab.2]
  simpa [txtJ] using this
theorem row_le {rows : List (List Nat × List Nat)} {ab : List Nat × List Nat} (h : ab ∈ rows) : ab.1.length + ab.2.length ≤ (rowsT rows).length := by
  induction rows with
  | nil => cases h
  | cons x r ih =>
    simp only [rowsT, List.map_cons, List.flatten_cons, List.length_append] at ih ⊢
    rcases List.mem_cons.mp h with rfl | h
    · omega
    · have := ih h
      omega
theorem astr_ev {A : Addr} {mh : MH} {i dd : Nat} {rows : List (List Nat × List Nat)} (hi : mh[i]? = some (.inst A dd (some (rows.map rowM)))) (hd : mh[dd]? = some (.attrs accA)) (hl : rows.length ≤ 1000) (hT : (rowsT rows).length ≤ 1000) :
    fStrI A (dFn [0] (F_astr A)) [.ref i] mh = some (.str (txt (rowsT rows)), mh) := by
  have h1 : rows.length ≤ 100000 := by omega
  have h2 : ((rows.map fun ab => (txt ab.1, txt ab.2)).all fun ab => decide (ab.1.length + ab.2.length ≤ 16777216)) = true := by
    simp only [List.all_map, List.all_eq_true, Function.comp, decide_eq_true_eq]
    intro ab hab
    have := row_le hab
    rw [txt_len, txt_len]; omega
  have h3 : JoinOk ⟨#[]⟩ ((rows.map fun ab => (txt ab.1, txt ab.2)).map fun ab => txtJ ab.1 ab.2) = true := by
    have := join_ok (ls := rows.map fun ab : List Nat × List Nat => ab.1 ++ ab.2) hT
    rw [List.map_map] at this
    rw [List.map_map]
    have e : (fun ab => txtJ ab.1 ab.2) ∘ (fun ab : List Nat × List Nat => (txt ab.1, txt ab.2)) = txt ∘ fun ab => ab.1 ++ ab.2 := by
      funext ab
      have := join_flat [ab.1, ab.2]
      simpa [txtJ] using this
    rw [e]; exact this
  simp only [fStrI, hi, isAttrs, hd, and_self, if_true, dFn, F_astr, List.length_cons, List.length_nil, zipE, dSeq, dRet, dStrAcc, List.lookup, beq_self_eq_true, rowsOf_map, List.length_map, h1, h2, h3, strRows_ev]
theorem lenRows_ev (rows : List (List Nat × List Nat)) : lenRows (rows.map fun ab => (txt ab.1, txt ab.2)) = ((rowsT rows).length : Nat) := by
  unfold lenRows rowsT
  induction rows with
  | nil => rfl
  | cons x r ih =>
    simp only [List.map_cons, List.sum_cons, List.flatten_cons, List.length_append] at ih ⊢
    rw [ih, txt_len, txt_len]
    omega
theorem alen_ev {A : Addr} {mh : MH} {i dd : Nat} {rows : List (List Nat × List Nat)} (hi : mh[i]? = some (.inst A dd (some (rows.map rowM)))) (hd : mh[dd]? = some (.attrs accA)) (hl : rows.length ≤ 1000) (hT : (rowsT rows).length ≤ 1000) :
    fLenX A (dFn [0] (F_alen A)) [.ref i] mh = some (.int ((rowsT rows).length : Nat), mh) := by
  have h1 : rows.length ≤ 100000 := by omega
  have hs : sizeLine = 16777216 := rfl
  have h2 : ((rows.map fun ab => (txt ab.1, txt ab.2)).all fun ab => decide (ab.1.length ≤ sizeLine) && decide (ab.2.length ≤ sizeLine)) = true := by
    rw [List.all_map, List.all_eq_true]
    intro ab hab
    simp only [Function.comp, decide_eq_true_eq, Bool.and_eq_true, hs]
    have := row_le hab
    rw [txt_len, txt_len]; omega
  have h3 : (0 : Int) ≤ ((rowsT rows).length : Nat) ∧ (((rowsT rows).length : Nat) : Int) < 1000000000 := by omega
  simp only [fLenX, hi, isAttrs, hd, and_self, if_true, dFn, F_alen, List.length_cons, List.length_nil, zipE, dSeq, dRet, dLenAcc, List.lookup, beq_self_eq_true, rowsOf_map, accA_is, List.length_map, h1, h2, lenRows_ev, h3]

/-! ## a reader is made -/
theorem setAttr_ev {N : Addr} {mh r : MH} {l : List (Str × MV)} {it : Option (List MV)} {name : Str} {v : MV} (hl : l.length ≤ 100) :
    setAttrD N name (.ref (mh.length + 1)) v (mh ++ .attrs l :: .inst N mh.length it :: r) = some (mh ++ .attrs (updA l name v) :: .inst N mh.length it :: r) := by
  have h1 : (mh ++ MO.attrs l :: MO.inst N mh.length it :: r)[mh.length + 1]? = some (MO.inst N mh.length it) := by
    rw [List.getElem?_append_right (Nat.le_succ _)]; simp
  have h2 : (mh ++ MO.attrs l :: MO.inst N mh.length it :: r)[mh.length]? = some (MO.attrs l) := by
    rw [List.getElem?_append_right (Nat.le_refl _)]; simp
  have h4 : ∀ b, (mh ++ MO.attrs l :: MO.inst N mh.length it :: r).set mh.length b = mh ++ b :: MO.inst N mh.length it :: r := fun b => by
    rw [List.set_append_right _ _ (Nat.le_refl _)]; simp
  simp [setAttrD, h1, h2, h4, hl]
theorem lexer_ev {N : Addr} {mh : MH} {x : Str} {t : Nat} : fLexer (fMakeP N (dFn [0, 6] (F_ninit N))) [.str x, .ref t] mh = some (.ref (mh.length + 1), mh ++ [.attrs (lexA x t (mh.length + 2) 1), .inst N mh.length none, .list []]) := by
  have u4 : ∀ p, updA (updA (updA (updA [] ("lineno" : Str) (.int 1)) ("instream" : Str) (.strm x t)) ("whitespace" : Str) (.str ("\n\t\r " : Str))) ("pushback" : Str) (.ref p) = lexA x t p 1 := fun p => by kernel_rfl
  have l1 : (updA [] ("lineno" : Str) (.int 1)).length ≤ 100 := by decide
  have l2 : (updA (updA [] ("lineno" : Str) (.int 1)) ("instream" : Str) (.strm x t)).length ≤ 100 := Nat.le_trans upd_len (by decide)
  have l3 : (updA (updA (updA [] ("lineno" : Str) (.int 1)) ("instream" : Str) (.strm x t)) ("whitespace" : Str) (.str ("\n\t\r " : Str))).length ≤ 100 := Nat.le_trans upd_len (Nat.le_trans (Nat.succ_le_succ upd_len) (by decide))
  have e : ∀ a b : MO, (mh ++ [a, b]) ++ [MO.list []] = mh ++ a :: b :: [.list []] := fun a b => by simp
  have hl : ∀ a b : MO, (mh ++ [a, b]).length = mh.length + 2 := fun a b => by simp
  simp only [fLexer, fMakeP, dFn, F_ninit, List.length_cons, List.length_nil, if_true, zipE, dSeq, dAsgAttr, dC, dVar, List.lookup, beq_self_eq_true, show ((6 : Nat) == 0) = false from rfl, setAttr_ev (r := []) (l := []) (by simp), setAttr_ev (r := []) l1, setAttr_ev (r := []) l2,
    dLstM, dL0, List.length_nil, Nat.zero_le, e, hl, setAttr_ev (r := [.list []]) l3, u4, dNil]

/-! ## loops over ranges -/
theorem fLen_lst {vs : List MV} {mh : MH} (h : vs.length ≤ 1000) : fLen [.lst vs] mh = some (.int vs.length, mh) := by
  have h1 : vs.length < 1000000 := by omega
  simp only [fLen, h1, if_true]
theorem it_rng {a b : Int} {mh : MH} (h : -1000 < a ∧ a < 1000 ∧ -1000 < b ∧ b < 1000) : itOf none (.rng a b) mh = some (.rng a b) := by
  have h2 : -1000000000 < a ∧ a < 1000000000 ∧ -1000000000 < b ∧ b < 1000000000 := by omega
  simp only [itOf, h2, and_self, if_true]
theorem for_rng {n : Nat} {g : DL} {tg : Tg} {f : DS} {me : ME} {mh mh1 : MH} {a b : Int} (hg : dCall fRange g me mh = some (.rng a b, mh1)) (h : -1000 < a ∧ a < 1000 ∧ -1000 < b ∧ b < 1000) :
    dFor none n (dCall fRange g) tg f me mh = dForLoop tg f (.rng a b) n 0 me mh1 := by
  simp only [dFor, hg, it_rng h]

/-! ## loops that keep the heap -/
theorem lookup_dropV' {own : List Nat} {x : Nat} (h : x ∉ own) : ∀ me : ME, (dropV own me).lookup x = me.lookup x
  | [] => rfl
  | (y, v) :: r => by
    unfold dropV
    rw [List.filter_cons]
    have ih := lookup_dropV' h r
    unfold dropV at ih
    by_cases e : x = y
    · subst e
      have : own.contains x = false := by simpa using h
      simp only [this, Bool.not_false, if_true, List.lookup_cons, beq_self_eq_true]
    · have hb : (x == y) = false := by simpa using e
      split
      · simp only [List.lookup_cons, hb]; exact ih
      · simp only [List.lookup_cons, hb]; exact ih
/-- the names but for those of xs are those of me -/
noncomputable def Sees (xs : List Nat) (me me1 : ME) : Prop := ∀ y, y ∉ xs → me1.lookup y = me.lookup y
theorem Sees.drop {xs own : List Nat} (me : ME) (h : ∀ x ∈ own, x ∈ xs) : Sees xs me (dropV own me) := fun y hy => lookup_dropV' (fun hm => hy (h y hm)) me
theorem Sees.upd {xs : List Nat} {me me1 : ME} (h : Sees xs me me1) {x : Nat} {v : MV} (hx : x ∈ xs) : Sees xs me (upd me1 x v) := fun y hy => by
  rw [lookup_upd]
  have : y ≠ x := fun e => hy (e ▸ hx)
  simp [this, h y hy]
theorem lk_self {me : ME} {x : Nat} {v : MV} : (upd me x v).lookup x = some v := by rw [lookup_upd]; simp
theorem lk_ne {me : ME} {x y : Nat} {v : MV} (h : y ≠ x) : (upd me x v).lookup y = me.lookup y := by rw [lookup_upd]; simp [h]

theorem compLoop_pure {tg : Tg} {cond : DB} {elt : D} {k : ItK} {mh : MH} {items : List MV} (hk : ∀ j, nextOf k mh j = some items[j]?) (sel : MV → Bool) (val : MV → MV) (P : ME → Prop)
    (hturn : ∀ (j : Nat) (it : MV) (me : ME), items[j]? = some it → P me → ∃ me1, tg me mh it = some me1 ∧ P me1 ∧ cond me1 mh = some (sel it, mh) ∧ (sel it = true → elt me1 mh = some (val it, mh))) :
    ∀ (n j : Nat) (acc : List MV) (me : ME), items.length - j < n → P me → items.length ≤ 1000 → j ≤ items.length → acc.length ≤ j →
      ∃ me', P me' ∧ dCompLoop tg cond (aEmit elt) k n j acc me mh = some (acc ++ ((items.drop j).filter sel).map val, me', mh) := by
  intro n
  induction n with
  | zero => intro j acc me h; omega
  | succ n ih =>
    intro j acc me hn hP hl hj ha
    by_cases hj' : j < items.length
    · have hx : items[j]? = some items[j] := List.getElem?_eq_getElem hj'
      obtain ⟨me1, t1, p1, c1, e1⟩ := hturn j _ me hx hP
      have hd : items.drop j = items[j] :: items.drop (j + 1) := List.drop_eq_getElem_cons hj'
      cases hs : sel items[j] with
      | false =>
        obtain ⟨me', p', e⟩ := ih (j + 1) acc me1 (by omega) p1 hl hj' (by omega)
        refine ⟨me', p', ?_⟩
        simp only [dCompLoop, hk, hx, t1, c1, hs, e]
        rw [hd, List.filter_cons_of_neg (by simp [hs])]
      | true =>
        have hA : acc.length ≤ 100000 := by omega
        obtain ⟨me', p', e⟩ := ih (j + 1) (acc ++ [val items[j]]) me1 (by omega) p1 hl hj' (by simp; omega)
        refine ⟨me', p', ?_⟩
        simp only [dCompLoop, hk, hx, t1, c1, hs, aEmit, e1 hs, hA, if_true, e]
        rw [hd, List.filter_cons_of_pos hs]
        simp
    · have hx : items[j]? = none := List.getElem?_eq_none (by omega)
      refine ⟨me, hP, ?_⟩
      simp only [dCompLoop, hk, hx]
      rw [List.drop_eq_nil_of_le (by omega)]
      simp
theorem comp_pure {own : List Nat} {c0 : Option Addr} {it : D} {tg : Tg} {cond : DB} {elt : D} {me : ME} {mh mh0 : MH} {v : MV} {k : ItK} {items : List MV} (hi : it me mh0 = some (v, mh)) (hit : itOf c0 v mh = some k) (hk : ∀ j, nextOf k mh j = some items[j]?)
    (sel : MV → Bool) (val : MV → MV) (P : ME → Prop) (h0 : P (dropV own me)) (hl : items.length ≤ 1000) {N : Nat} (hN : items.length < N)
    (hturn : ∀ (j : Nat) (it : MV) (me : ME), items[j]? = some it → P me → ∃ me1, tg me mh it = some me1 ∧ P me1 ∧ cond me1 mh = some (sel it, mh) ∧ (sel it = true → elt me1 mh = some (val it, mh))) :
    dComp own c0 N it tg cond (aEmit elt) me mh0 = some (.lst ((items.filter sel).map val), mh) := by
  obtain ⟨me', _, e⟩ := compLoop_pure hk sel val P hturn N 0 [] (dropV own me) (by omega) h0 hl (by omega) (by simp)
  simp only [dComp, hi, hit, e, List.nil_append, List.drop_zero]
/-- the numbers of a range -/
noncomputable def rngI (n : Nat) : List MV := (List.range n).map fun k : Nat => .int (k : Int)
theorem nx_rng {n : Nat} {mh : MH} (j : Nat) : nextOf (.rng 0 (n : Int)) mh j = some (rngI n)[j]? := by
  simp only [nextOf, rngI, Int.zero_add, List.getElem?_map]
  by_cases h : j < n
  · rw [if_pos (by omega), List.getElem?_range h]; rfl
  · rw [if_neg (by omega), List.getElem?_eq_none (by simp; omega)]; rfl
theorem rngI_len (n : Nat) : (rngI n).length = n := by simp [rngI]
theorem rngI_get {n j : Nat} {it : MV} (h : (rngI n)[j]? = some it) : j < n ∧ it = .int (j : Int) := by
  have hj : j < n := by have := (List.getElem?_eq_some_iff.mp h).1; simpa [rngI] using this
  refine ⟨hj, ?_⟩
  simp [rngI, hj] at h
  exact h.symm
end Mine

namespace Mine

/-! ## data that can be compared -/
structure Good (v : MV) (D : PyData) (k : Nat) : Prop where
  d : toD v = some D
  lay : D.canLay0 = true
  dep : D.depth ≤ k
structure GoodL (vs : List MV) (Ds : List PyData) (k : Nat) : Prop where
  d : toDs vs = some Ds
  lay : PyData.canLayAll0 Ds = true
  dep : PyData.depthAll Ds ≤ k
theorem strOk_txt {l : List Nat} (h : ∀ c ∈ l, c < 128) : PyData.strOk (txt l) = true := by
  simp [PyData.strOk]
  intro i hi
  have := h _ hi
  omega
theorem Good.str {l : List Nat} {k : Nat} (h : ∀ c ∈ l, c < 128) : Good (.str (txt l)) (.str (txt l)) k := ⟨by simp [toD], by simpa [PyData.canLay0] using strOk_txt h, by simp [PyData.depth]⟩
theorem Good.int {i : Int} {k : Nat} : Good (.int i) (.int i) k := ⟨by simp [toD], by simp [PyData.canLay0], by simp [PyData.depth]⟩
theorem GoodL.nil {k : Nat} : GoodL [] [] k := ⟨by simp [toDs], by simp [PyData.canLayAll0], by simp [PyData.depthAll]⟩
theorem GoodL.cons {v : MV} {vs : List MV} {D : PyData} {Ds : List PyData} {k : Nat} (h : Good v D k) (t : GoodL vs Ds k) : GoodL (v :: vs) (D :: Ds) k :=
  ⟨by simp [toDs, h.d, t.d], by simp [PyData.canLayAll0, h.lay, t.lay], by have := h.dep; have := t.dep; simp only [PyData.depthAll]; omega⟩
theorem Good.tup {vs : List MV} {Ds : List PyData} {k : Nat} (h : GoodL vs Ds k) : Good (.tup vs) (.tuple Ds) (k + 1) := ⟨by simp [toD, h.d], by simpa [PyData.canLay0] using h.lay, by have := h.dep; simp only [PyData.depth]; omega⟩
theorem Good.shaped {v : MV} {D : PyData} {k : Nat} (h : Good v D k) (hk : k ≤ 64) : SeqAt.shaped D = true := by
  have := h.dep
  simp only [SeqAt.shaped, h.lay, Bool.true_and, decide_eq_true_eq]
  omega
theorem Good.eq {a b : MV} {A B : PyData} {k k' : Nat} {mh : MH} (h : Good a A k) (h' : Good b B k') (hk : k ≤ 64 := by decide) (hk' : k' ≤ 64 := by decide) : oEq a b mh = some (.bool (PyData.eqv A B), mh) := by
  simp only [oEq, h.d, h'.d, h.shaped hk, h'.shaped hk', Bool.and_self, if_true]
theorem Good.ne {a b : MV} {A B : PyData} {k k' : Nat} {mh : MH} (h : Good a A k) (h' : Good b B k') (hk : k ≤ 64 := by decide) (hk' : k' ≤ 64 := by decide) : oNe a b mh = some (.bool (!PyData.eqv A B), mh) := by
  simp only [oNe, h.d, h'.d, h.shaped hk, h'.shaped hk', Bool.and_self, if_true]
theorem eqv_str (a b : List Nat) : PyData.eqv (.str (txt a)) (.str (txt b)) = (a == b) := by
  simp only [PyData.eqv]
  by_cases e : a = b
  · subst e; simp
  · have : txt a ≠ txt b := fun q => e (by injection q with q; simpa using q)
    rw [beq_eq_false_iff_ne.mpr this, beq_eq_false_iff_ne.mpr e]
theorem eqv_list (a b : List PyData) : PyData.eqv (.list a) (.list b) = PyData.eqvAll a b := by simp [PyData.eqv]
theorem eqv_tuple (a b : List PyData) : PyData.eqv (.tuple a) (.tuple b) = PyData.eqvAll a b := by simp [PyData.eqv]
theorem eqv_int (a b : Int) : PyData.eqv (.int a) (.int b) = (a == b) := by simp [PyData.eqv]
/-! ## slices -/
/-! ## words read off, one after the other -/
theorem lexSet_get {mh : MH} {dd t pb p k : Nat} {T : Str} {L : Int} (h1 : k ≠ dd) (h2 : k ≠ t) : (lexSet mh dd t pb T p L)[k]? = mh[k]? := by
  unfold lexSet
  rw [List.getElem?_set_ne (Ne.symm h1), List.getElem?_set_ne (Ne.symm h2)]
theorem meth_gt {N rc : Addr} {mh : MH} {i dd t pb : Nat} {T : Str} {p : Nat} {L : Int} (h : LexAt N mh i dd t pb T p L) {y : Nat} {me : ME} (hy : me.lookup y = some (.ref i)) :
    dMeth N "get_token" (dFn [0] (F_get_token N rc)) (dVar y) dL0 me mh = dFn [0] (F_get_token N rc) [.ref i] mh := by
  simp only [dMeth, dVar, hy, h.inst, h.attrs, if_true, lexA_gt, dL0]
/-- a word is read where the heap has other things behind -/
theorem get_token_at {N rc : Addr} {mh : MH} {i dd t pb p0 : Nat} {l0 l tok l' : List Nat} {L L0 : Int} {junk : MH} (h : LexAt N mh i dd t pb (txt l0) p0 L0) (h1 : pb ≠ dd) (h2 : pb ≠ t) (hT : l0.length ≤ 900) (hc : ∀ c ∈ l0, c < 128) (hs : l <:+ l0)
    (hpb : mh[pb]? = some (.list [])) (hx : LexT l tok l') :
    l' <:+ l0 ∧ ∃ cs, dFn [0] (F_get_token N rc) [.ref i] (lexSet mh dd t pb (txt l0) (l0.length - l.length) L ++ junk) = some (.str (txt tok), lexSet mh dd t pb (txt l0) (l0.length - l'.length) (L + nls l - nls l') ++ (junk ++ [.citer rc cs])) := by
  have hb : ((lexSet mh dd t pb (txt l0) (l0.length - l.length) L) ++ junk)[pb]? = some (.list []) := by
    have : pb < mh.length := mh_lt hpb
    rw [List.getElem?_append_left (by rw [lexSet_len]; exact this), lexSet_get h1 h2, hpb]
  obtain ⟨q, cs, e⟩ := get_token_ev (rc := rc) ((h.set (l0.length - l.length) L).app junk) hT hc hs hb hx
  refine ⟨q, cs, ?_⟩
  obtain ⟨q1, q2, q3⟩ := h.lt
  rw [e, lexSet_app (by rw [lexSet_len]; exact q2) (by rw [lexSet_len]; exact q3), lexSet_set h.i3, List.append_assoc]
end Mine

namespace Mine
/-- a loop over n turns, the state told by the turn's number -/
theorem forLoop_ix {tg : Tg} {f : DS} {k : ItK} {items : List MV} (H : Nat → MH) (P : Nat → ME → Prop) (hk : ∀ j, j ≤ items.length → nextOf k (H j) j = some items[j]?)
    (hturn : ∀ (j : Nat) (it : MV) (me : ME), items[j]? = some it → P j me → ∃ me1 me2, tg me (H j) it = some me1 ∧ (f me1 (H j) = some (.next, me2, H (j + 1)) ∨ f me1 (H j) = some (.cont, me2, H (j + 1))) ∧ P (j + 1) me2) :
    ∀ (n j : Nat) (me : ME), items.length - j < n → j ≤ items.length → P j me → ∃ me', P items.length me' ∧ dForLoop tg f k n j me (H j) = some (.next, me', H items.length) := by
  intro n
  induction n with
  | zero => intro j me h; omega
  | succ n ih =>
    intro j me hn hj hP
    by_cases hj' : j < items.length
    · have hx : items[j]? = some items[j] := List.getElem?_eq_getElem hj'
      obtain ⟨me1, me2, t1, f1, p2⟩ := hturn j _ me hx hP
      obtain ⟨me', p', e⟩ := ih (j + 1) me2 (by omega) hj' p2
      refine ⟨me', p', ?_⟩
      rcases f1 with f1 | f1 <;> simp only [dForLoop, hk j (by omega), hx, t1, f1, e]
    · have hx : items[j]? = none := List.getElem?_eq_none (by omega)
      have : j = items.length := by omega
      subst this
      refine ⟨me, hP, ?_⟩
      simp only [dForLoop, hk _ (Nat.le_refl _), hx]

mutual
theorem eqv_self : ∀ D : PyData, D.canLay0 = true → PyData.eqv D D = true
  | .none, _ => by simp [PyData.eqv]
  | .bool _, _ => by simp [PyData.eqv]
  | .int _, _ => by simp [PyData.eqv]
  | .str _, _ => by simp [PyData.eqv]
  | .list xs, h => by rw [eqv_list]; exact eqvAll_self xs (by simpa [PyData.canLay0] using h)
  | .tuple xs, h => by rw [eqv_tuple]; exact eqvAll_self xs (by simpa [PyData.canLay0] using h)
  | .dict _, h => by simp [PyData.canLay0] at h
theorem eqvAll_self : ∀ Ds : List PyData, PyData.canLayAll0 Ds = true → PyData.eqvAll Ds Ds = true
  | [], _ => by simp [PyData.eqvAll]
  | d :: r, h => by
    simp only [PyData.canLayAll0, Bool.and_eq_true] at h
    simp [PyData.eqvAll, eqv_self d h.1, eqvAll_self r h.2]
end
theorem Good.ne_self {a : MV} {A : PyData} {k : Nat} {mh : MH} (h : Good a A k) (hk : k ≤ 64 := by decide) : oNe a a mh = some (.bool false, mh) := by
  rw [h.ne h hk hk, eqv_self A h.lay]; rfl
theorem l0 {me : ME} {mh : MH} : dL0 me mh = some ([], mh) := rfl
theorem tup_ev {g : DL} {me : ME} {mh mh1 : MH} {vs : List MV} (h : g me mh = some (vs, mh1)) (hl : vs.length ≤ 1000) : dTup g me mh = some (.tup vs, mh1) := by
  simp only [dTup, h, hl, if_true]
theorem strsOf_map (ls : List (List Nat)) : strsOf (ls.map fun l => .str (txt l)) = some (ls.map txt) := by
  induction ls with
  | nil => rfl
  | cons x r ih => simp only [List.map_cons, strsOf, ih, Option.map_some]
theorem join_ev {ls : List (List Nat)} (h : ls.flatten.length ≤ 1000) {mh : MH} : fJoin [.str ("" : Str), .lst (ls.map fun l => .str (txt l))] mh = some (.str (txt ls.flatten), mh) := by
  have e : ("" : Str) = txt [] := s_nil
  rw [e]
  simp only [fJoin, strsOf_map, join_ok h, if_true, join_flat]
end Mine

namespace Mine
/-- the parts of a def, by its place in the text -/
noncomputable def partsOf (p : Program) (k : Nat) (j : Option Nat) : Arguments × List Stmt × Scope := match p.main.body.drop k, j with
  | .FunctionDef _ a b _ _ _ s _ _ _ :: _, none => (a, b, s)
  | .ClassDef _ _ _ body _ _ _ _ _ _ _ :: _, some i => (match body.drop i with
    | .FunctionDef _ a b _ _ _ s _ _ _ :: _ => (a, b, s)
    | _ => default)
  | _, _ => default
/-- what stands in the heap behind the top, as far as the law comes to it -/
noncomputable def K03at (p : Program) (P : Params) : Frag := [

  (2, Obj.mk Value.none Option.none (Data.dict #[]) #[]),
  (3, Obj.mk (Value.type "dict") Option.none (Data.dict #[DictEntry.mk (PyData.keyHash P (Str.ofString "__name__")) (Value.str (Str.ofString "__name__") 165) (Value.str (Str.ofString "law_ph0056_03") 353), DictEntry.mk (PyData.keyHash P (Str.ofString "__doc__")) (Value.str (Str.ofString "__doc__") 166) Value.none, DictEntry.mk (PyData.keyHash P (Str.ofString "__package__")) (Value.str (Str.ofString "__package__") 167) Value.none, DictEntry.mk (PyData.keyHash P (Str.ofString "__loader__")) (Value.str (Str.ofString "__loader__") 168) (Value.builtin "__main__.__loader__#opaque"), DictEntry.mk (PyData.keyHash P (Str.ofString "__spec__")) (Value.str (Str.ofString "__spec__") 169) Value.none, DictEntry.mk (PyData.keyHash P (Str.ofString "__annotations__")) (Value.str (Str.ofString "__annotations__") 170) (Value.ref 6), DictEntry.mk (PyData.keyHash P (Str.ofString "__builtins__")) (Value.str (Str.ofString "__builtins__") 171) (Value.ref 4), DictEntry.mk (PyData.keyHash P (Str.ofString "__file__")) (Value.str (Str.ofString "__file__") 173) (Value.str (Str.ofString "/claim/cut.py") 172), DictEntry.mk (PyData.keyHash P (Str.ofString "__cached__")) (Value.str (Str.ofString "__cached__") 174) Value.none, DictEntry.mk (PyData.keyHash P (Str.ofString "_wall")) (Value.str (Str.ofString "_wall") 193) (Value.ref 21), DictEntry.mk (PyData.keyHash P (Str.ofString "_netrclex")) (Value.str (Str.ofString "_netrclex") 253) (Value.ref 59), DictEntry.mk (PyData.keyHash P (Str.ofString "EMPTYSTRING")) (Value.str (Str.ofString "EMPTYSTRING") 257) (Value.str (Str.ofString "") 256), DictEntry.mk (PyData.keyHash P (Str.ofString "_Accumulator")) (Value.str (Str.ofString "_Accumulator") 352) (Value.ref 143), DictEntry.mk (PyData.keyHash P (Str.ofString "_law_names")) (Value.str (Str.ofString "_law_names") 360) (Value.ref 154), DictEntry.mk (PyData.keyHash P (Str.ofString "_law_numbers")) (Value.str (Str.ofString "_law_numbers") 369) (Value.ref 161), DictEntry.mk (PyData.keyHash P (Str.ofString "_law_drawn")) (Value.str (Str.ofString "_law_drawn") 380) (Value.ref 168), DictEntry.mk (PyData.keyHash P (Str.ofString "_law_written")) (Value.str (Str.ofString "_law_written") 388) (Value.ref 175), DictEntry.mk (PyData.keyHash P (Str.ofString "_law_sheet")) (Value.str (Str.ofString "_law_sheet") 400) (Value.ref 182), DictEntry.mk (PyData.keyHash P (Str.ofString "_law_lexer")) (Value.str (Str.ofString "_law_lexer") 412) (Value.ref 189), DictEntry.mk (PyData.keyHash P (Str.ofString "_law_pile")) (Value.str (Str.ofString "_law_pile") 426) (Value.ref 196), DictEntry.mk (PyData.keyHash P (Str.ofString "_law_line")) (Value.str (Str.ofString "_law_line") 442) (Value.ref 203), DictEntry.mk (PyData.keyHash P (Str.ofString "_law_back")) (Value.str (Str.ofString "_law_back") 458) (Value.ref 210), DictEntry.mk (PyData.keyHash P (Str.ofString "law")) (Value.str (Str.ofString "law") 464) (Value.ref 215)] 23) #[]),
  (20, Obj.mk (Value.type "code") Option.none (Data.fields #[Value.str (Str.ofString "_wall") 187, Value.str (Str.ofString "_wall") 188, Value.str (Str.ofString "/claim/cut.py") 189, Value.int 1 0, Value.int 1 0, Value.int 0 0, Value.int 0 0, Value.int 3 0, Value.ref 15, Value.bool Bool.true, Value.int 181 0, Value.ref 16, Value.none, Value.ref 17, Value.ref 18, Value.ref 19, Value.int 191 0, Value.int 1 0, Value.str (Str.ofString "/claim/cut.py") 192]) #[]),
  (match partsOf p 0 none with | (a, b, s) => (21, Obj.mk (Value.type "function") Option.none (Data.func (FuncData.mk (Str.ofString "_wall") (Str.ofString "_wall") a (.stmts b) s (3) ([]) (Value.none) (Value.none) (Value.none) (Value.str (Str.ofString "__main__") 164) (Option.none) (Value.ref 20) (Value.none) (0))) #[])),
  (34, Obj.mk (Value.type "code") Option.none (Data.fields #[Value.str (Str.ofString "__init__") 208, Value.str (Str.ofString "_netrclex.__init__") 209, Value.str (Str.ofString "/claim/cut.py") 210, Value.int 7 0, Value.int 2 0, Value.int 0 0, Value.int 0 0, Value.int 3 0, Value.ref 29, Value.bool Bool.true, Value.int 181 0, Value.ref 30, Value.none, Value.ref 31, Value.ref 32, Value.ref 33, Value.int 213 0, Value.int 7 0, Value.str (Str.ofString "/claim/cut.py") 214]) #[]),
  (match partsOf p 2 (some 0) with | (a, b, s) => (35, Obj.mk (Value.type "function") Option.none (Data.func (FuncData.mk (Str.ofString "__init__") (Str.ofString "_netrclex.__init__") a (.stmts b) s (3) ([]) (Value.none) (Value.none) (Value.none) (Value.str (Str.ofString "cpy313.netrc") 194) (Option.none) (Value.ref 34) (Value.none) (0))) #[])),
  (41, Obj.mk (Value.type "code") Option.none (Data.fields #[Value.str (Str.ofString "_read_char") 216, Value.str (Str.ofString "_netrclex._read_char") 217, Value.str (Str.ofString "/claim/cut.py") 218, Value.int 13 0, Value.int 1 0, Value.int 0 0, Value.int 0 0, Value.int 3 0, Value.ref 36, Value.bool Bool.true, Value.int 181 0, Value.ref 37, Value.none, Value.ref 38, Value.ref 39, Value.ref 40, Value.int 221 0, Value.int 13 0, Value.str (Str.ofString "/claim/cut.py") 222]) #[]),
  (match partsOf p 2 (some 1) with | (a, b, s) => (42, Obj.mk (Value.type "function") Option.none (Data.func (FuncData.mk (Str.ofString "_read_char") (Str.ofString "_netrclex._read_char") a (.stmts b) s (3) ([]) (Value.none) (Value.none) (Value.none) (Value.str (Str.ofString "cpy313.netrc") 194) (Option.none) (Value.ref 41) (Value.none) (0))) #[])),
  (48, Obj.mk (Value.type "code") Option.none (Data.fields #[Value.str (Str.ofString "get_token") 224, Value.str (Str.ofString "_netrclex.get_token") 225, Value.str (Str.ofString "/claim/cut.py") 226, Value.int 19 0, Value.int 1 0, Value.int 0 0, Value.int 0 0, Value.int 3 0, Value.ref 43, Value.bool Bool.true, Value.int 181 0, Value.ref 44, Value.none, Value.ref 45, Value.ref 46, Value.ref 47, Value.int 231 0, Value.int 19 0, Value.str (Str.ofString "/claim/cut.py") 232]) #[]),
  (match partsOf p 2 (some 2) with | (a, b, s) => (49, Obj.mk (Value.type "function") Option.none (Data.func (FuncData.mk (Str.ofString "get_token") (Str.ofString "_netrclex.get_token") a (.stmts b) s (3) ([]) (Value.none) (Value.none) (Value.none) (Value.str (Str.ofString "cpy313.netrc") 194) (Option.none) (Value.ref 48) (Value.none) (0))) #[])),
  (55, Obj.mk (Value.type "code") Option.none (Data.fields #[Value.str (Str.ofString "push_token") 234, Value.str (Str.ofString "_netrclex.push_token") 235, Value.str (Str.ofString "/claim/cut.py") 236, Value.int 46 0, Value.int 2 0, Value.int 0 0, Value.int 0 0, Value.int 3 0, Value.ref 50, Value.bool Bool.true, Value.int 181 0, Value.ref 51, Value.none, Value.ref 52, Value.ref 53, Value.ref 54, Value.int 239 0, Value.int 46 0, Value.str (Str.ofString "/claim/cut.py") 240]) #[]),
  (match partsOf p 2 (some 3) with | (a, b, s) => (56, Obj.mk (Value.type "function") Option.none (Data.func (FuncData.mk (Str.ofString "push_token") (Str.ofString "_netrclex.push_token") a (.stmts b) s (3) ([]) (Value.none) (Value.none) (Value.none) (Value.str (Str.ofString "cpy313.netrc") 194) (Option.none) (Value.ref 55) (Value.none) (0))) #[])),
  (58, Obj.mk (Value.type "dict") Option.none (Data.dict #[DictEntry.mk (PyData.keyHash P (Str.ofString "__module__")) (Value.str (Str.ofString "__module__") 203) (Value.str (Str.ofString "cpy313.netrc") 194), DictEntry.mk (PyData.keyHash P (Str.ofString "__firstlineno__")) (Value.str (Str.ofString "__firstlineno__") 207) (Value.int 5 206), DictEntry.mk (PyData.keyHash P (Str.ofString "__init__")) (Value.str (Str.ofString "__init__") 215) (Value.ref 35), DictEntry.mk (PyData.keyHash P (Str.ofString "_read_char")) (Value.str (Str.ofString "_read_char") 223) (Value.ref 42), DictEntry.mk (PyData.keyHash P (Str.ofString "get_token")) (Value.str (Str.ofString "get_token") 233) (Value.ref 49), DictEntry.mk (PyData.keyHash P (Str.ofString "push_token")) (Value.str (Str.ofString "push_token") 241) (Value.ref 56), DictEntry.mk (PyData.keyHash P (Str.ofString "__static_attributes__")) (Value.str (Str.ofString "__static_attributes__") 246) (Value.ref 57), DictEntry.mk (PyData.keyHash P (Str.ofString "__dict__")) (Value.str (Str.ofString "__dict__") 248) (Value.ref 60), DictEntry.mk (PyData.keyHash P (Str.ofString "__weakref__")) (Value.str (Str.ofString "__weakref__") 250) (Value.ref 61), DictEntry.mk (PyData.keyHash P (Str.ofString "__doc__")) (Value.str (Str.ofString "__doc__") 251) Value.none] 4) #[]),
  (59, Obj.mk (Value.type "type") Option.none (Data.cls (ClassData.mk (Str.ofString "_netrclex") [Value.type "object"] [Value.ref 59, Value.type "object"] 58 (Str.ofString "_netrclex") Bool.true [] [] Bool.false Option.none Bool.false)) #[Option.none, Option.none, Option.some (Value.str (Str.ofString "_netrclex") 196), Option.some (Value.str (Str.ofString "_netrclex") 204), Option.some (Value.builtin "object.__new__"), Option.some (Value.bool Bool.true)]),
  (67, Obj.mk (Value.type "cell") Option.none (Data.cell (Option.some (Value.ref 143))) #[]),
  (72, Obj.mk (Value.type "tuple") Option.none (Data.seq #[Value.int 0 270]) #[]),
  (79, Obj.mk (Value.type "code") Option.none (Data.fields #[Value.str (Str.ofString "__init__") 271, Value.str (Str.ofString "_Accumulator.__init__") 272, Value.str (Str.ofString "/claim/cut.py") 273, Value.int 52 0, Value.int 2 0, Value.int 0 0, Value.int 0 0, Value.int 3 0, Value.ref 74, Value.bool Bool.true, Value.int 181 0, Value.ref 75, Value.none, Value.ref 76, Value.ref 77, Value.ref 78, Value.int 277 0, Value.int 52 0, Value.str (Str.ofString "/claim/cut.py") 278]) #[]),
  (match partsOf p 5 (some 0) with | (a, b, s) => (80, Obj.mk (Value.type "function") Option.none (Data.func (FuncData.mk (Str.ofString "__init__") (Str.ofString "_Accumulator.__init__") a (.stmts b) s (3) ([(Str.ofString "__class__", 67)]) (Value.ref 72) (Value.none) (Value.none) (Value.str (Str.ofString "cpy313.email.header") 254) (Option.none) (Value.ref 79) (Value.ref 73) (0))) #[])),
  (86, Obj.mk (Value.type "code") Option.none (Data.fields #[Value.str (Str.ofString "push") 280, Value.str (Str.ofString "_Accumulator.push") 281, Value.str (Str.ofString "/claim/cut.py") 282, Value.int 56 0, Value.int 3 0, Value.int 0 0, Value.int 0 0, Value.int 3 0, Value.ref 81, Value.bool Bool.true, Value.int 181 0, Value.ref 82, Value.none, Value.ref 83, Value.ref 84, Value.ref 85, Value.int 286 0, Value.int 56 0, Value.str (Str.ofString "/claim/cut.py") 287]) #[]),
  (match partsOf p 5 (some 1) with | (a, b, s) => (87, Obj.mk (Value.type "function") Option.none (Data.func (FuncData.mk (Str.ofString "push") (Str.ofString "_Accumulator.push") a (.stmts b) s (3) ([]) (Value.none) (Value.none) (Value.none) (Value.str (Str.ofString "cpy313.email.header") 254) (Option.none) (Value.ref 86) (Value.none) (0))) #[])),
  (88, Obj.mk (Value.type "tuple") Option.none (Data.seq #[Value.int 0 289]) #[]),
  (94, Obj.mk (Value.type "code") Option.none (Data.fields #[Value.str (Str.ofString "pop_from") 290, Value.str (Str.ofString "_Accumulator.pop_from") 291, Value.str (Str.ofString "/claim/cut.py") 292, Value.int 59 0, Value.int 2 0, Value.int 0 0, Value.int 0 0, Value.int 3 0, Value.ref 89, Value.bool Bool.true, Value.int 181 0, Value.ref 90, Value.none, Value.ref 91, Value.ref 92, Value.ref 93, Value.int 295 0, Value.int 59 0, Value.str (Str.ofString "/claim/cut.py") 296]) #[]),
  (match partsOf p 5 (some 2) with | (a, b, s) => (95, Obj.mk (Value.type "function") Option.none (Data.func (FuncData.mk (Str.ofString "pop_from") (Str.ofString "_Accumulator.pop_from") a (.stmts b) s (3) ([]) (Value.ref 88) (Value.none) (Value.none) (Value.str (Str.ofString "cpy313.email.header") 254) (Option.none) (Value.ref 94) (Value.none) (0))) #[])),
  (102, Obj.mk (Value.type "code") Option.none (Data.fields #[Value.str (Str.ofString "pop") 298, Value.str (Str.ofString "_Accumulator.pop") 299, Value.str (Str.ofString "/claim/cut.py") 300, Value.int 62 0, Value.int 1 0, Value.int 0 0, Value.int 0 0, Value.int 3 0, Value.ref 97, Value.bool Bool.true, Value.int 181 0, Value.ref 98, Value.none, Value.ref 99, Value.ref 100, Value.ref 101, Value.int 303 0, Value.int 62 0, Value.str (Str.ofString "/claim/cut.py") 304]) #[]),
  (match partsOf p 5 (some 3) with | (a, b, s) => (103, Obj.mk (Value.type "function") Option.none (Data.func (FuncData.mk (Str.ofString "pop") (Str.ofString "_Accumulator.pop") a (.stmts b) s (3) ([(Str.ofString "__class__", 67)]) (Value.none) (Value.none) (Value.none) (Value.str (Str.ofString "cpy313.email.header") 254) (Option.none) (Value.ref 102) (Value.ref 96) (0))) #[])),
  (109, Obj.mk (Value.type "code") Option.none (Data.fields #[Value.str (Str.ofString "__len__") 306, Value.str (Str.ofString "_Accumulator.__len__") 307, Value.str (Str.ofString "/claim/cut.py") 308, Value.int 67 0, Value.int 1 0, Value.int 0 0, Value.int 0 0, Value.int 3 0, Value.ref 104, Value.bool Bool.true, Value.int 181 0, Value.ref 105, Value.none, Value.ref 106, Value.ref 107, Value.ref 108, Value.int 310 0, Value.int 67 0, Value.str (Str.ofString "/claim/cut.py") 311]) #[]),
  (match partsOf p 5 (some 4) with | (a, b, s) => (110, Obj.mk (Value.type "function") Option.none (Data.func (FuncData.mk (Str.ofString "__len__") (Str.ofString "_Accumulator.__len__") a (.stmts b) s (3) ([]) (Value.none) (Value.none) (Value.none) (Value.str (Str.ofString "cpy313.email.header") 254) (Option.none) (Value.ref 109) (Value.none) (0))) #[])),
  (116, Obj.mk (Value.type "code") Option.none (Data.fields #[Value.str (Str.ofString "__str__") 313, Value.str (Str.ofString "_Accumulator.__str__") 314, Value.str (Str.ofString "/claim/cut.py") 315, Value.int 70 0, Value.int 1 0, Value.int 0 0, Value.int 0 0, Value.int 3 0, Value.ref 111, Value.bool Bool.true, Value.int 181 0, Value.ref 112, Value.none, Value.ref 113, Value.ref 114, Value.ref 115, Value.int 317 0, Value.int 70 0, Value.str (Str.ofString "/claim/cut.py") 318]) #[]),
  (match partsOf p 5 (some 5) with | (a, b, s) => (117, Obj.mk (Value.type "function") Option.none (Data.func (FuncData.mk (Str.ofString "__str__") (Str.ofString "_Accumulator.__str__") a (.stmts b) s (3) ([]) (Value.none) (Value.none) (Value.none) (Value.str (Str.ofString "cpy313.email.header") 254) (Option.none) (Value.ref 116) (Value.none) (0))) #[])),
  (118, Obj.mk (Value.type "tuple") Option.none (Data.seq #[Value.none]) #[]),
  (124, Obj.mk (Value.type "code") Option.none (Data.fields #[Value.str (Str.ofString "reset") 320, Value.str (Str.ofString "_Accumulator.reset") 321, Value.str (Str.ofString "/claim/cut.py") 322, Value.int 73 0, Value.int 2 0, Value.int 0 0, Value.int 0 0, Value.int 3 0, Value.ref 119, Value.bool Bool.true, Value.int 181 0, Value.ref 120, Value.none, Value.ref 121, Value.ref 122, Value.ref 123, Value.int 325 0, Value.int 73 0, Value.str (Str.ofString "/claim/cut.py") 326]) #[]),
  (match partsOf p 5 (some 6) with | (a, b, s) => (125, Obj.mk (Value.type "function") Option.none (Data.func (FuncData.mk (Str.ofString "reset") (Str.ofString "_Accumulator.reset") a (.stmts b) s (3) ([]) (Value.ref 118) (Value.none) (Value.none) (Value.str (Str.ofString "cpy313.email.header") 254) (Option.none) (Value.ref 124) (Value.none) (0))) #[])),
  (131, Obj.mk (Value.type "code") Option.none (Data.fields #[Value.str (Str.ofString "is_onlyws") 328, Value.str (Str.ofString "_Accumulator.is_onlyws") 329, Value.str (Str.ofString "/claim/cut.py") 330, Value.int 76 0, Value.int 1 0, Value.int 0 0, Value.int 0 0, Value.int 3 0, Value.ref 126, Value.bool Bool.true, Value.int 181 0, Value.ref 127, Value.none, Value.ref 128, Value.ref 129, Value.ref 130, Value.int 332 0, Value.int 76 0, Value.str (Str.ofString "/claim/cut.py") 333]) #[]),
  (match partsOf p 5 (some 7) with | (a, b, s) => (132, Obj.mk (Value.type "function") Option.none (Data.func (FuncData.mk (Str.ofString "is_onlyws") (Str.ofString "_Accumulator.is_onlyws") a (.stmts b) s (3) ([]) (Value.none) (Value.none) (Value.none) (Value.str (Str.ofString "cpy313.email.header") 254) (Option.none) (Value.ref 131) (Value.none) (0))) #[])),
  (139, Obj.mk (Value.type "code") Option.none (Data.fields #[Value.str (Str.ofString "part_count") 335, Value.str (Str.ofString "_Accumulator.part_count") 336, Value.str (Str.ofString "/claim/cut.py") 337, Value.int 79 0, Value.int 1 0, Value.int 0 0, Value.int 0 0, Value.int 3 0, Value.ref 134, Value.bool Bool.true, Value.int 181 0, Value.ref 135, Value.none, Value.ref 136, Value.ref 137, Value.ref 138, Value.int 340 0, Value.int 79 0, Value.str (Str.ofString "/claim/cut.py") 341]) #[]),
  (match partsOf p 5 (some 8) with | (a, b, s) => (140, Obj.mk (Value.type "function") Option.none (Data.func (FuncData.mk (Str.ofString "part_count") (Str.ofString "_Accumulator.part_count") a (.stmts b) s (3) ([(Str.ofString "__class__", 67)]) (Value.none) (Value.none) (Value.none) (Value.str (Str.ofString "cpy313.email.header") 254) (Option.none) (Value.ref 139) (Value.ref 133) (0))) #[])),
  (142, Obj.mk (Value.type "dict") Option.none (Data.dict #[DictEntry.mk (PyData.keyHash P (Str.ofString "__module__")) (Value.str (Str.ofString "__module__") 265) (Value.str (Str.ofString "cpy313.email.header") 254), DictEntry.mk (PyData.keyHash P (Str.ofString "__firstlineno__")) (Value.str (Str.ofString "__firstlineno__") 269) (Value.int 50 268), DictEntry.mk (PyData.keyHash P (Str.ofString "__init__")) (Value.str (Str.ofString "__init__") 279) (Value.ref 80), DictEntry.mk (PyData.keyHash P (Str.ofString "push")) (Value.str (Str.ofString "push") 288) (Value.ref 87), DictEntry.mk (PyData.keyHash P (Str.ofString "pop_from")) (Value.str (Str.ofString "pop_from") 297) (Value.ref 95), DictEntry.mk (PyData.keyHash P (Str.ofString "pop")) (Value.str (Str.ofString "pop") 305) (Value.ref 103), DictEntry.mk (PyData.keyHash P (Str.ofString "__len__")) (Value.str (Str.ofString "__len__") 312) (Value.ref 110), DictEntry.mk (PyData.keyHash P (Str.ofString "__str__")) (Value.str (Str.ofString "__str__") 319) (Value.ref 117), DictEntry.mk (PyData.keyHash P (Str.ofString "reset")) (Value.str (Str.ofString "reset") 327) (Value.ref 125), DictEntry.mk (PyData.keyHash P (Str.ofString "is_onlyws")) (Value.str (Str.ofString "is_onlyws") 334) (Value.ref 132), DictEntry.mk (PyData.keyHash P (Str.ofString "part_count")) (Value.str (Str.ofString "part_count") 342) (Value.ref 140), DictEntry.mk (PyData.keyHash P (Str.ofString "__static_attributes__")) (Value.str (Str.ofString "__static_attributes__") 344) (Value.ref 141), DictEntry.mk (PyData.keyHash P (Str.ofString "__dict__")) (Value.str (Str.ofString "__dict__") 347) (Value.ref 144), DictEntry.mk (PyData.keyHash P (Str.ofString "__weakref__")) (Value.str (Str.ofString "__weakref__") 349) (Value.ref 145), DictEntry.mk (PyData.keyHash P (Str.ofString "__doc__")) (Value.str (Str.ofString "__doc__") 350) Value.none] 5) #[]),
  (143, Obj.mk (Value.type "type") Option.none (Data.cls (ClassData.mk (Str.ofString "_Accumulator") [Value.type "list"] [Value.ref 143, Value.type "list", Value.type "object"] 142 (Str.ofString "_Accumulator") Bool.true [] [] Bool.false Option.none Bool.false)) #[Option.some (Value.ref 64), Option.none, Option.some (Value.str (Str.ofString "_Accumulator") 258), Option.some (Value.str (Str.ofString "_Accumulator") 266), Option.some (Value.builtin "list.__new__"), Option.some (Value.bool Bool.true)]),
  (153, Obj.mk (Value.type "code") Option.none (Data.fields #[Value.str (Str.ofString "_law_names") 355, Value.str (Str.ofString "_law_names") 356, Value.str (Str.ofString "/claim/cut.py") 357, Value.int 82 0, Value.int 0 0, Value.int 0 0, Value.int 0 0, Value.int 3 0, Value.ref 148, Value.bool Bool.true, Value.int 181 0, Value.ref 149, Value.none, Value.ref 150, Value.ref 151, Value.ref 152, Value.int 358 0, Value.int 82 0, Value.str (Str.ofString "/claim/cut.py") 359]) #[]),
  (match partsOf p 7 none with | (a, b, s) => (154, Obj.mk (Value.type "function") Option.none (Data.func (FuncData.mk (Str.ofString "_law_names") (Str.ofString "_law_names") a (.stmts b) s (3) ([]) (Value.none) (Value.none) (Value.none) (Value.str (Str.ofString "law_ph0056_03") 353) (Option.none) (Value.ref 153) (Value.none) (0))) #[])),
  (160, Obj.mk (Value.type "code") Option.none (Data.fields #[Value.str (Str.ofString "_law_numbers") 361, Value.str (Str.ofString "_law_numbers") 362, Value.str (Str.ofString "/claim/cut.py") 363, Value.int 84 0, Value.int 1 0, Value.int 0 0, Value.int 0 0, Value.int 3 0, Value.ref 155, Value.bool Bool.true, Value.int 181 0, Value.ref 156, Value.none, Value.ref 157, Value.ref 158, Value.ref 159, Value.int 367 0, Value.int 84 0, Value.str (Str.ofString "/claim/cut.py") 368]) #[]),
  (match partsOf p 8 none with | (a, b, s) => (161, Obj.mk (Value.type "function") Option.none (Data.func (FuncData.mk (Str.ofString "_law_numbers") (Str.ofString "_law_numbers") a (.stmts b) s (3) ([]) (Value.none) (Value.none) (Value.none) (Value.str (Str.ofString "law_ph0056_03") 353) (Option.none) (Value.ref 160) (Value.none) (0))) #[])),
  (167, Obj.mk (Value.type "code") Option.none (Data.fields #[Value.str (Str.ofString "_law_drawn") 370, Value.str (Str.ofString "_law_drawn") 371, Value.str (Str.ofString "/claim/cut.py") 372, Value.int 89 0, Value.int 1 0, Value.int 0 0, Value.int 0 0, Value.int 3 0, Value.ref 162, Value.bool Bool.true, Value.int 181 0, Value.ref 163, Value.none, Value.ref 164, Value.ref 165, Value.ref 166, Value.int 378 0, Value.int 89 0, Value.str (Str.ofString "/claim/cut.py") 379]) #[]),
  (match partsOf p 9 none with | (a, b, s) => (168, Obj.mk (Value.type "function") Option.none (Data.func (FuncData.mk (Str.ofString "_law_drawn") (Str.ofString "_law_drawn") a (.stmts b) s (3) ([]) (Value.none) (Value.none) (Value.none) (Value.str (Str.ofString "law_ph0056_03") 353) (Option.none) (Value.ref 167) (Value.none) (0))) #[])),
  (174, Obj.mk (Value.type "code") Option.none (Data.fields #[Value.str (Str.ofString "_law_written") 381, Value.str (Str.ofString "_law_written") 382, Value.str (Str.ofString "/claim/cut.py") 383, Value.int 96 0, Value.int 2 0, Value.int 0 0, Value.int 0 0, Value.int 3 0, Value.ref 169, Value.bool Bool.true, Value.int 181 0, Value.ref 170, Value.none, Value.ref 171, Value.ref 172, Value.ref 173, Value.int 386 0, Value.int 96 0, Value.str (Str.ofString "/claim/cut.py") 387]) #[]),
  (match partsOf p 10 none with | (a, b, s) => (175, Obj.mk (Value.type "function") Option.none (Data.func (FuncData.mk (Str.ofString "_law_written") (Str.ofString "_law_written") a (.stmts b) s (3) ([]) (Value.none) (Value.none) (Value.none) (Value.str (Str.ofString "law_ph0056_03") 353) (Option.none) (Value.ref 174) (Value.none) (0))) #[])),
  (181, Obj.mk (Value.type "code") Option.none (Data.fields #[Value.str (Str.ofString "_law_sheet") 389, Value.str (Str.ofString "_law_sheet") 390, Value.str (Str.ofString "/claim/cut.py") 391, Value.int 102 0, Value.int 2 0, Value.int 0 0, Value.int 0 0, Value.int 3 0, Value.ref 176, Value.bool Bool.true, Value.int 181 0, Value.ref 177, Value.none, Value.ref 178, Value.ref 179, Value.ref 180, Value.int 398 0, Value.int 102 0, Value.str (Str.ofString "/claim/cut.py") 399]) #[]),
  (match partsOf p 11 none with | (a, b, s) => (182, Obj.mk (Value.type "function") Option.none (Data.func (FuncData.mk (Str.ofString "_law_sheet") (Str.ofString "_law_sheet") a (.stmts b) s (3) ([]) (Value.none) (Value.none) (Value.none) (Value.str (Str.ofString "law_ph0056_03") 353) (Option.none) (Value.ref 181) (Value.none) (0))) #[])),
  (188, Obj.mk (Value.type "code") Option.none (Data.fields #[Value.str (Str.ofString "_law_lexer") 401, Value.str (Str.ofString "_law_lexer") 402, Value.str (Str.ofString "/claim/cut.py") 403, Value.int 111 0, Value.int 2 0, Value.int 0 0, Value.int 0 0, Value.int 3 0, Value.ref 183, Value.bool Bool.true, Value.int 181 0, Value.ref 184, Value.none, Value.ref 185, Value.ref 186, Value.ref 187, Value.int 410 0, Value.int 111 0, Value.str (Str.ofString "/claim/cut.py") 411]) #[]),
  (match partsOf p 12 none with | (a, b, s) => (189, Obj.mk (Value.type "function") Option.none (Data.func (FuncData.mk (Str.ofString "_law_lexer") (Str.ofString "_law_lexer") a (.stmts b) s (3) ([]) (Value.none) (Value.none) (Value.none) (Value.str (Str.ofString "law_ph0056_03") 353) (Option.none) (Value.ref 188) (Value.none) (0))) #[])),
  (195, Obj.mk (Value.type "code") Option.none (Data.fields #[Value.str (Str.ofString "_law_pile") 413, Value.str (Str.ofString "_law_pile") 414, Value.str (Str.ofString "/claim/cut.py") 415, Value.int 120 0, Value.int 1 0, Value.int 0 0, Value.int 0 0, Value.int 3 0, Value.ref 190, Value.bool Bool.true, Value.int 181 0, Value.ref 191, Value.none, Value.ref 192, Value.ref 193, Value.ref 194, Value.int 424 0, Value.int 120 0, Value.str (Str.ofString "/claim/cut.py") 425]) #[]),
  (match partsOf p 13 none with | (a, b, s) => (196, Obj.mk (Value.type "function") Option.none (Data.func (FuncData.mk (Str.ofString "_law_pile") (Str.ofString "_law_pile") a (.stmts b) s (3) ([]) (Value.none) (Value.none) (Value.none) (Value.str (Str.ofString "law_ph0056_03") 353) (Option.none) (Value.ref 195) (Value.none) (0))) #[])),
  (202, Obj.mk (Value.type "code") Option.none (Data.fields #[Value.str (Str.ofString "_law_line") 427, Value.str (Str.ofString "_law_line") 428, Value.str (Str.ofString "/claim/cut.py") 429, Value.int 132 0, Value.int 1 0, Value.int 0 0, Value.int 0 0, Value.int 3 0, Value.ref 197, Value.bool Bool.true, Value.int 181 0, Value.ref 198, Value.none, Value.ref 199, Value.ref 200, Value.ref 201, Value.int 440 0, Value.int 132 0, Value.str (Str.ofString "/claim/cut.py") 441]) #[]),
  (match partsOf p 14 none with | (a, b, s) => (203, Obj.mk (Value.type "function") Option.none (Data.func (FuncData.mk (Str.ofString "_law_line") (Str.ofString "_law_line") a (.stmts b) s (3) ([]) (Value.none) (Value.none) (Value.none) (Value.str (Str.ofString "law_ph0056_03") 353) (Option.none) (Value.ref 202) (Value.none) (0))) #[])),
  (209, Obj.mk (Value.type "code") Option.none (Data.fields #[Value.str (Str.ofString "_law_back") 443, Value.str (Str.ofString "_law_back") 444, Value.str (Str.ofString "/claim/cut.py") 445, Value.int 151 0, Value.int 1 0, Value.int 0 0, Value.int 0 0, Value.int 3 0, Value.ref 204, Value.bool Bool.true, Value.int 181 0, Value.ref 205, Value.none, Value.ref 206, Value.ref 207, Value.ref 208, Value.int 456 0, Value.int 151 0, Value.str (Str.ofString "/claim/cut.py") 457]) #[]),
  (match partsOf p 15 none with | (a, b, s) => (210, Obj.mk (Value.type "function") Option.none (Data.func (FuncData.mk (Str.ofString "_law_back") (Str.ofString "_law_back") a (.stmts b) s (3) ([]) (Value.none) (Value.none) (Value.none) (Value.str (Str.ofString "law_ph0056_03") 353) (Option.none) (Value.ref 209) (Value.none) (0))) #[])),
  (214, Obj.mk (Value.type "code") Option.none (Data.fields #[Value.str (Str.ofString "law") 459, Value.str (Str.ofString "law") 460, Value.str (Str.ofString "/claim/cut.py") 461, Value.int 173 0, Value.int 1 0, Value.int 0 0, Value.int 0 0, Value.int 3 0, Value.ref 211, Value.bool Bool.true, Value.int 181 0, Value.ref 212, Value.none, Value.none, Value.none, Value.ref 213, Value.int 462 0, Value.int 173 0, Value.str (Str.ofString "/claim/cut.py") 463]) #[]),
  (match partsOf p 16 none with | (a, b, s) => (215, Obj.mk (Value.type "function") Option.none (Data.func (FuncData.mk (Str.ofString "law") (Str.ofString "law") a (.stmts b) s (3) ([]) (Value.none) (Value.none) (Value.none) (Value.str (Str.ofString "law_ph0056_03") 353) (Option.none) (Value.ref 214) (Value.none) (0))) #[]))]
noncomputable def K03 (P : Params) : Frag := K03at PySem.Challenge.pw_ph0056_03 P
noncomputable def keepB (p : Program) (ks : List Nat) : Program := { p with main := { p.main with body := ks.filterMap fun k => p.main.body[k]? } }
end Mine

namespace Mine

noncomputable def tbl03 : List Str := ["self", "initial_size", "fws", "string", "part", "startval", "fp", "ch", "token", "fiter", "size", "text", "at", "piece", "stream", "i", "popped", "script", "k", "numbers", "s", "opened", "shut", "drawn", "sign", "manner", "sheet", "word", "words", "pile", "within", "deep", "blanks", "top", "line", "name", "order", "rounds", "counts", "waits", "ahead", "turn", "other", "come", "letter", "count", "told", "names", "lex", "left", "last", "floor", "j"].map Str.ofString
noncomputable def cx03 (w : World) (base : Heap) (os : OsState) (mg mb : Str → Option Value) : Cx :=
  { prog := PySem.Challenge.pw_ph0056_03, w := w, base := base, T := [(109, 105), (116, 112), (188, 184)], os := os, K := K03 w.params, mg := mg, mb := mb, tbl := tbl03,
    give := giveP PySem.Challenge.pw_ph0056_03 12 base,
    gv := fun a => if a = 184 then some (⟨114, 4, 117, 20⟩, "_law_lexer.<locals>._law_give") else none }
/-- names of the world that the defs ask for -/
structure G03 (mg mb : Str → Option Value) : Prop where
  range : mg "range" = none ∧ mb "range" = some (.type "range")
  len : mg "len" = none ∧ mb "len" = some (.builtin "len")
  sum : mg "sum" = none ∧ mb "sum" = some (.builtin "sum")
  iter : mg "iter" = none ∧ mb "iter" = some (.builtin "iter")
  super : mg "super" = none ∧ mb "super" = some (.type "super")
  str : mg "str" = none ∧ mb "str" = some (.type "str")
  sorted : mg "sorted" = none ∧ mb "sorted" = some (.builtin "sorted")
  empty : ∃ t, mg "EMPTYSTRING" = some (.str ⟨#[]⟩ t)
  acc : mg "_Accumulator" = some (.ref 143)
  nrc : mg "_netrclex" = some (.ref 59)
  law_names : mg "_law_names" = some (.ref 154)
  law_numbers : mg "_law_numbers" = some (.ref 161)
  law_drawn : mg "_law_drawn" = some (.ref 168)
  law_written : mg "_law_written" = some (.ref 175)
  law_sheet : mg "_law_sheet" = some (.ref 182)
  law_lexer : mg "_law_lexer" = some (.ref 189)
  law_pile : mg "_law_pile" = some (.ref 196)
  law_line : mg "_law_line" = some (.ref 203)
  law_back : mg "_law_back" = some (.ref 210)
section
variable {w : World} {base : Heap} {os : OsState} {mg mb : Str → Option Value}

/-! ### the classes -/
theorem pcA : PlainCls (cx03 w base os mg mb).K 143 := ⟨⟨_, by kernel_rfl, .lst (by kernel_rfl)⟩, by kernel_rfl⟩
theorem subA : SubList (cx03 w base os mg mb).K 143 :=
  ⟨pcA, by kernel_rfl, by kernel_rfl, by kernel_rfl, by kernel_rfl, by kernel_rfl⟩
theorem stA : StoreCls (cx03 w base os mg mb).K 143 :=
  ⟨by kernel_rfl, fun self cd h => by cases h; kernel_rfl, ⟨_, rfl, by kernel_rfl, by kernel_rfl⟩, by kernel_rfl⟩
theorem pcN : PlainCls (cx03 w base os mg mb).K 59 := ⟨⟨_, by kernel_rfl, .obj⟩, by kernel_rfl⟩
theorem stN : StoreCls (cx03 w base os mg mb).K 59 :=
  ⟨by kernel_rfl, fun self cd h => by cases h; kernel_rfl, ⟨_, rfl, by kernel_rfl, by kernel_rfl⟩, by kernel_rfl⟩
theorem mvN : MethVal (cx03 w base os mg mb).K 59 42 "_read_char" :=
  ⟨by kernel_rfl, by kernel_rfl, by kernel_rfl, by kernel_rfl, by kernel_rfl, by kernel_rfl, ⟨_, rfl, by kernel_rfl⟩, by decide⟩
theorem fsN : FnStore (cx03 w base os mg mb).K "read" := ⟨by kernel_rfl, by kernel_rfl⟩
end
end Mine

namespace Mine
section
variable {w : World} {base : Heap} {os : OsState} {mg mb : Str → Option Value}

/-! ### super() -/
theorem soLen (G : G03 mg mb) : SuperOk (cx03 w base os mg mb) 143 67 "__len__" "list.__len__" "wrapper_descriptor" "method-wrapper" :=
  ⟨⟨_, _, _, rfl⟩, ⟨_, rfl, by kernel_rfl, by kernel_rfl, by kernel_rfl⟩, by kernel_rfl, G.super.1, G.super.2, by kernel_rfl, binds_len, .inr rfl, by decide⟩
theorem soInit (G : G03 mg mb) : SuperOk (cx03 w base os mg mb) 143 67 "__init__" "list.__init__" "wrapper_descriptor" "method-wrapper" :=
  ⟨⟨_, _, _, rfl⟩, ⟨_, rfl, by kernel_rfl, by kernel_rfl, by kernel_rfl⟩, by kernel_rfl, G.super.1, G.super.2, by kernel_rfl, binds_init, .inr rfl, by decide⟩
theorem soPop (G : G03 mg mb) : SuperOk (cx03 w base os mg mb) 143 67 "pop" "list.pop" "method_descriptor" "builtin_function_or_method" :=
  ⟨⟨_, _, _, rfl⟩, ⟨_, rfl, by kernel_rfl, by kernel_rfl, by kernel_rfl⟩, by kernel_rfl, G.super.1, G.super.2, by kernel_rfl, binds_pop, .inl rfl, by decide⟩

theorem RF_part_count (ok : (cx03 w base os mg mb).Ok) (G : G03 mg mb) : RF (cx03 w base os mg mb) 1 140 (fPartCount 143) := by
  refine' @RF_partcount (cx03 w base os mg mb) 0 ok 143 67 140 _ _ _ _ _ _ _ _ _ _ _ _ _ _ _ _ _ _ subA (soLen G) ⟨⟨_, _, _, ?hK⟩, ?_, ⟨_, _, _, _, _, _, ?hC, ?hC2, ?_⟩, ?_, ?_, ?_, ?_, ?_, ?_⟩ ?hP ?_ ?_ ?he
  case hK => exact rfl
  case hC => exact rfl
  case hC2 => exact rfl
  case hP => exact rfl
  case he => intros; rfl
  all_goals first | kernel_rfl | rfl | decide | (intro v; rfl)
theorem RF_popA (ok : (cx03 w base os mg mb).Ok) (G : G03 mg mb) : RF (cx03 w base os mg mb) 2 103 (fPop 143) := by
  refine' @RF_pop (cx03 w base os mg mb) 1 ok 143 67 103 140 _ _ _ _ _ _ _ _ _ _ _ _ _ _ _ _ _ _ _ _ _ _ _ _ _ _ _ _ _ _ _ _ _ subA (soPop G) ⟨⟨_, _, _, ?hK⟩, ?_, ⟨_, _, _, _, _, _, ?hC, ?hC2, ?_⟩, ?_, ?_, ?_, ?_, ?_, ?_⟩ ?hP ?_ ?_ ?_ ?_ ?_ ⟨_, _, rfl, rfl⟩ (RF_part_count ok G) ?_ ?he ?he1
  case hK => exact rfl
  case hC => exact rfl
  case hC2 => exact rfl
  case hP => exact rfl
  case he => intros; rfl
  case he1 => intros; rfl
  all_goals first | kernel_rfl | rfl | decide | (intro v; rfl) | (intro cd sig self h1 h2; cases h1; cases h2; kernel_rfl)
theorem RF_initA (ok : (cx03 w base os mg mb).Ok) (G : G03 mg mb) : RF (cx03 w base os mg mb) 1 80 (fInitAcc 143) := by
  refine' @RF_initAcc (cx03 w base os mg mb) 0 ok 143 67 80 _ _ _ _ _ _ _ _ _ _ _ _ _ _ _ _ ⟨0, 0, 0, 0⟩ _ _ _ _ _ _ subA stA ?_ (soInit G) ⟨⟨_, _, _, ?hK⟩, ?_, ⟨_, _, _, _, _, _, ?hC, ?hC2, ?_⟩, ?_, ?_, ?_, ?_, ?_, ?_⟩ ?hP ?_ ?_ ?_ ⟨_, ?hB⟩ ?he
  case hK => exact rfl
  case hC => exact rfl
  case hC2 => exact rfl
  case hP => exact rfl
  case he => intros; rfl
  case hB => intro s v X; exact BindsTo.of_defaults rfl (X _ _ rfl) rfl (by with_unfolding_all rfl) (by with_unfolding_all rfl)
  all_goals first | kernel_rfl | rfl | decide | (intro v; rfl)
theorem RF_makeA (ok : (cx03 w base os mg mb).Ok) (G : G03 mg mb) : RF (cx03 w base os mg mb) 2 143 (fMakeL 143 (fInitAcc 143)) :=
  RF_makeL ok (by kernel_rfl) (by kernel_rfl) (by kernel_rfl) (RF_initA ok G)

theorem RF_alen (ok : (cx03 w base os mg mb).Ok) (G : G03 mg mb) : RF (cx03 w base os mg mb) 1 110 (dFn [0] (F_alen 143)) := by
  refine' @RF_def (cx03 w base os mg mb) 0 ok _ _ _ _ _ _ _ _ _ _ _ _ _ _ _ _ [0] ["self"] _ ?hK ?_ (.cons rfl .nil) ?_ ?_ ?_ ?_ ?_ ?_ ?_ ?_ ?_
  case hK => exact rfl
  · kernel_rfl
  · decide
  · intro vs h; obtain ⟨a, rfl⟩ := len1 h; rfl
  · decide
  · decide
  · exact noFree (by decide)
  · rfl
  · rfl
  · rfl
  · intro L
    exact RS_cons (RS_ret (RE_sumAcc (p := (109, 105)) ok subA G.sum.1 G.sum.2 rfl rfl (.head _) rfl rfl rfl rfl (by decide) rfl rfl rfl (by decide) rfl rfl (eltLen rfl rfl rfl rfl (by decide) (by decide) G.len.1 G.len.2) (by kernel_rfl) (by kernel_rfl))) RS_nil
theorem RF_astr (ok : (cx03 w base os mg mb).Ok) (G : G03 mg mb) : RF (cx03 w base os mg mb) 1 117 (dFn [0] (F_astr 143)) := by
  obtain ⟨tg, ht⟩ := G.empty
  refine' @RF_def (cx03 w base os mg mb) 0 ok _ _ _ _ _ _ _ _ _ _ _ _ _ _ _ _ [0] ["self"] _ ?hK ?_ (.cons rfl .nil) ?_ ?_ ?_ ?_ ?_ ?_ ?_ ?_ ?_
  case hK => exact rfl
  · kernel_rfl
  · decide
  · intro vs h; obtain ⟨a, rfl⟩ := len1 h; rfl
  · decide
  · decide
  · exact noFree (by decide)
  · rfl
  · rfl
  · rfl
  · intro L
    exact RS_cons (RS_ret (RE_joinAcc (p := (116, 112)) ok subA ht rfl (by decide) rfl (.tail _ (.head _)) rfl rfl rfl rfl (by decide) rfl rfl rfl (by decide) rfl rfl (eltJoin rfl rfl rfl rfl (by decide) (by decide) (by decide) ht) rfl)) RS_nil
theorem giveL (ok : (cx03 w base os mg mb).Ok) (G : G03 mg mb) (d : Nat) : ∃ gp gb gs, giveOf PySem.Challenge.pw_ph0056_03 12 = some (gp, gb, gs) ∧ (∀ env : Env, env.scope = gs → RSL (cx03 w base os mg mb) d env (execs gb env) F_give) ∧
    (∀ c1 c2 doc pm cv ctv (v : Value), bindArgs (giveFd "_law_lexer.<locals>._law_give" gp gb gs c1 c2 doc pm cv ctv) ⟨[v], []⟩ = pure [(("size" : Str), v)]) ∧
    gs.names.lookup ("size" : Str) = some .local ∧ gs.names.lookup ("text" : Str) = some .free ∧ gs.names.lookup ("at" : Str) = some .free ∧
    (∀ x ∈ gs.names, x.2 ≠ .cell) ∧ (∀ n, gs.names.lookup n = some .free → n = "text" ∨ n = "at") ∧ gs.kind = .function ∧ gs.isCoroutine = false ∧ gs.isGenerator = false := by
  refine ⟨_, _, _, rfl, ?_, ?_, rfl, rfl, rfl, by decide, ?_, rfl, rfl, rfl⟩
  · intro env h
    obtain ⟨⟩ := env
    dsimp only at h
    subst h
    exact RSL_cons (RSL_assign ok rfl rfl (RE_sliceS (RE_Name rfl (by first | exact .inl rfl | exact .inr (.inl rfl) | exact .inr (.inr rfl)) (by decide) (by decide)) (@RP_some _ _ _ _ _ (RE_item (RE_Name rfl (by first | exact .inl rfl | exact .inr (.inl rfl) | exact .inr (.inr rfl)) (by decide) (by decide)) RE_int (fun _ _ => rfl))) (@RP_some _ _ _ _ _ (RE_BinOp (RE_item (RE_Name rfl (by first | exact .inl rfl | exact .inr (.inl rfl) | exact .inr (.inr rfl)) (by decide) (by decide)) RE_int (fun _ _ => rfl)) (RE_Name rfl (by first | exact .inl rfl | exact .inr (.inl rfl) | exact .inr (.inr rfl)) (by decide) (by decide)) rAdd))) rfl)
      (RSL_cons (RSL_augItem (RE_Name rfl (by first | exact .inl rfl | exact .inr (.inl rfl) | exact .inr (.inr rfl)) (by decide) (by decide)) RE_int (RE_bcall ok G.len.1 G.len.2 rfl (by decide) vLen (RL_cons (RE_Name rfl (by first | exact .inl rfl | exact .inr (.inl rfl) | exact .inr (.inr rfl)) (by decide) (by decide)) RL_nil rfl) rfl rfl) rIAdd)
      (RSL_cons (RSL_ret (RE_Name rfl (by first | exact .inl rfl | exact .inr (.inl rfl) | exact .inr (.inr rfl)) (by decide) (by decide))) RSL_nil))
  · intros; rfl
  · intro n hn
    have := mem_of_lookup hn
    simp at this
    rcases this with h | h
    · exact .inr h
    · exact .inl h
theorem RE_readL (ok : (cx03 w base os mg mb).Ok) (G : G03 mg mb) {d : Nat} {env : Env} {o e : PySem.Expr} {apos pos : Pos} {pl : Sem Bool} {f g : D}
    (ho : RE (cx03 w base os mg mb) (d + 1) env o f) (ha : RE (cx03 w base os mg mb) (d + 1) env e g) (hbase : attributeBase o "read" env (eval o env) = eval o env)
    (he : eval (.Call (.Attribute o "read" apos) [e] [] pos) env = (do
      let ov ← attributeBase o "read" env (eval o env)
      standAt apos.atName
      let (f, first) ← holding [ov] (getMethod ov "read" pl)
      callWith pos f first (backTo pos (starEach [e] env)) []) := by rfl)
    (hs : starEach [e] env = (false, eval e env) :: starEach [] env := by rfl) : RE (cx03 w base os mg mb) (d + 1) env (.Call (.Attribute o "read" apos) [e] [] pos) (dRead (oRead 10 11 12 F_give) f g) := by
  obtain ⟨gp, gb, gs, hg, h1, h2, h3, h4, h5, h6, h7, h8, h9, h10⟩ := giveL ok G d
  refine RE_read ok (fun fd hf => ?_) h1 h2 rfl rfl rfl h3 h4 h5 h6 h7 h8 h9 h10 ho ha hbase he hs
  obtain ⟨gp', gb', gs', hg', r⟩ := hf
  rw [hg] at hg'
  cases hg'
  exact r
set_option maxHeartbeats 4000000 in
theorem RF_ninit (ok : (cx03 w base os mg mb).Ok) (G : G03 mg mb) : RF (cx03 w base os mg mb) 1 35 (dFn [0, 6] (F_ninit 59)) := by
  refine' @RF_def (cx03 w base os mg mb) 0 ok _ _ _ _ _ _ _ _ _ _ _ _ _ _ _ _ [0, 6] ["self", "fp"] _ ?hK ?_ (.cons rfl (.cons rfl .nil)) ?_ ?_ ?_ ?_ ?_ ?_ ?_ ?_ ?_
  case hK => exact rfl
  · kernel_rfl
  · decide
  · intro vs h; obtain ⟨a, b, rfl⟩ := len2 h; rfl
  · decide
  · decide
  · exact noFree (by decide)
  · rfl
  · rfl
  · rfl
  · intro L
    exact (RS_cons (RS_asgAttr ok stN (by kernel_rfl) RE_int (RE_Name rfl (by first | exact .inl rfl | exact .inr (.inl rfl) | exact .inr (.inr rfl)) (by decide) (by decide)) rfl) (RS_cons (RS_asgAttr ok stN (by kernel_rfl) (RE_Name rfl (by first | exact .inl rfl | exact .inr (.inl rfl) | exact .inr (.inr rfl)) (by decide) (by decide)) (RE_Name rfl (by first | exact .inl rfl | exact .inr (.inl rfl) | exact .inr (.inr rfl)) (by decide) (by decide)) rfl) (RS_cons (RS_asgAttr ok stN (by kernel_rfl) RE_str (RE_Name rfl (by first | exact .inl rfl | exact .inr (.inl rfl) | exact .inr (.inr rfl)) (by decide) (by decide)) rfl) (RS_cons (RS_asgAttr ok stN (by kernel_rfl) (RE_listM RL_nil) (RE_Name rfl (by first | exact .inl rfl | exact .inr (.inl rfl) | exact .inr (.inr rfl)) (by decide) (by decide)) rfl) RS_nil))))

theorem RF_makeN (ok : (cx03 w base os mg mb).Ok) (G : G03 mg mb) : RF (cx03 w base os mg mb) 2 59 (fMakeP 59 (dFn [0, 6] (F_ninit 59))) :=
  RF_makeP ok (by kernel_rfl) (by kernel_rfl) (by kernel_rfl) (RF_ninit ok G)
theorem RF_lexerL (ok : (cx03 w base os mg mb).Ok) (G : G03 mg mb) : RF (cx03 w base os mg mb) 3 189 (fLexer (fMakeP 59 (dFn [0, 6] (F_ninit 59)))) := by
  refine' @RF_lexer (cx03 w base os mg mb) 2 ok (188, 184) 189 59 _ _ _ _ "_law_lexer.<locals>._law_give" _ _ _ _ _ _ _ _ _ _ _ _ _ _ _ _ _ _ _ _ _ _ _ _ _ _ _ _ ?hK ?_ ?_ ?_ ?_ ?hg G.nrc ?_ (RF_makeN ok G) fsN ?_ ?_ ?_ ?_ ?_ ?_ ?_ ?_ ?_ ?_ ?_ ?_ ?_ ?hc ?_
  case hK => exact rfl
  case hg => exact fun c1 c2 doc pm cv ctv h1 h2 h3 => ⟨_, _, _, rfl, c1, c2, doc, pm, cv, ctv, h1, h2, h3, rfl⟩
  case hc => exact fun L => ⟨_, _, rfl, Nat.ne_of_lt (Nat.lt_succ_self _), rfl, rfl⟩
  all_goals first | kernel_rfl | rfl | decide | (intros; rfl) | exact (.tail _ (.tail _ (.head _))) | exact ⟨rfl, rfl⟩
set_option maxHeartbeats 4000000 in
theorem RF_read_char (ok : (cx03 w base os mg mb).Ok) (G : G03 mg mb) : RF (cx03 w base os mg mb) 2 42 (dFn [0] (F_read_char 59)) := by
  refine' @RF_def (cx03 w base os mg mb) 1 ok _ _ _ _ _ _ _ _ _ _ _ _ _ _ _ _ [0] ["self"] _ ?hK ?_ (.cons rfl .nil) ?_ ?_ ?_ ?_ ?_ ?_ ?_ ?_ ?_
  case hK => exact rfl
  · kernel_rfl
  · decide
  · intro vs h; obtain ⟨a, rfl⟩ := len1 h; rfl
  · decide
  · decide
  · exact noFree (by decide)
  · rfl
  · rfl
  · rfl
  · intro L
    exact (RS_cons (RS_assign ok rfl (by first | exact .inl rfl | exact .inr rfl) (RE_readL ok G (RE_attr (RE_Name rfl (by first | exact .inl rfl | exact .inr (.inl rfl) | exact .inr (.inr rfl)) (by decide) (by decide)) (rAttr ok pcN (by kernel_rfl) (by kernel_rfl))) RE_int rfl) rfl) (RS_cons (RS_if (RB_cmp (RE_Name rfl (by first | exact .inl rfl | exact .inr (.inl rfl) | exact .inr (.inr rfl)) (by decide) (by decide)) RE_str rEq) (RS_cons (RS_augAttr ok stN (by kernel_rfl) (RE_Name rfl (by first | exact .inl rfl | exact .inr (.inl rfl) | exact .inr (.inr rfl)) (by decide) (by decide)) (rAttr ok pcN (by kernel_rfl) (by kernel_rfl)) RE_int rIAdd) RS_nil) RS_nil) (RS_cons (RS_ret (RE_Name rfl (by first | exact .inl rfl | exact .inr (.inl rfl) | exact .inr (.inr rfl)) (by decide) (by decide))) RS_nil)))

set_option maxHeartbeats 4000000 in
theorem RF_get_token (ok : (cx03 w base os mg mb).Ok) (G : G03 mg mb) : RF (cx03 w base os mg mb) 4 49 (dFn [0] (F_get_token 59 42)) := by
  refine' @RF_def (cx03 w base os mg mb) 3 ok _ _ _ _ _ _ _ _ _ _ _ _ _ _ _ _ [0] ["self"] _ ?hK ?_ (.cons rfl .nil) ?_ ?_ ?_ ?_ ?_ ?_ ?_ ?_ ?_
  case hK => exact rfl
  · kernel_rfl
  · decide
  · intro vs h; obtain ⟨a, rfl⟩ := len1 h; rfl
  · decide
  · decide
  · exact noFree (by decide)
  · rfl
  · rfl
  · rfl
  · intro L
    exact (RS_cons (RS_if (RB_value (RE_attr (RE_Name rfl (by first | exact .inl rfl | exact .inr (.inl rfl) | exact .inr (.inr rfl)) (by decide) (by decide)) (rAttr ok pcN (by kernel_rfl) (by kernel_rfl)))) (RS_cons (RS_ret (RE_bmeth (gList PySem.F.slot_list_pop PySem.F.type_list_pop) vLpop (RE_attr (RE_Name rfl (by first | exact .inl rfl | exact .inr (.inl rfl) | exact .inr (.inr rfl)) (by decide) (by decide)) (rAttr ok pcN (by kernel_rfl) (by kernel_rfl))) (RL_cons RE_int RL_nil rfl) rfl rfl rfl rfl)) RS_nil) RS_nil) (RS_cons (RS_assign ok rfl (by first | exact .inl rfl | exact .inr rfl) RE_str rfl) (RS_cons (RS_assign ok rfl (by first | exact .inl rfl | exact .inr rfl) (RE_iter ok G.iter.1 G.iter.2 rfl mvN (RE_Name rfl (by first | exact .inl rfl | exact .inr (.inl rfl) | exact .inr (.inr rfl)) (by decide) (by decide))) rfl) (RS_cons (RS_forC ok 1000 ⟨_, _, rfl, rfl⟩ (RF.up (RF_read_char ok G) (by decide)) (RE_Name rfl (by first | exact .inl rfl | exact .inr (.inl rfl) | exact .inr (.inr rfl)) (by decide) (by decide)) rfl rfl (RS_cons (RS_if (RB_cmp (RE_Name rfl (by first | exact .inl rfl | exact .inr (.inl rfl) | exact .inr (.inr rfl)) (by decide) (by decide)) (RE_attr (RE_Name rfl (by first | exact .inl rfl | exact .inr (.inl rfl) | exact .inr (.inr rfl)) (by decide) (by decide)) (rAttr ok pcN (by kernel_rfl) (by kernel_rfl))) rIn) (RS_cons RS_continue RS_nil) RS_nil) (RS_cons (RS_if (RB_cmp (RE_Name rfl (by first | exact .inl rfl | exact .inr (.inl rfl) | exact .inr (.inr rfl)) (by decide) (by decide)) RE_str rEq) (RS_cons (RS_forC ok 1000 ⟨_, _, rfl, rfl⟩ (RF.up (RF_read_char ok G) (by decide)) (RE_Name rfl (by first | exact .inl rfl | exact .inr (.inl rfl) | exact .inr (.inr rfl)) (by decide) (by decide)) rfl rfl (RS_cons (RS_if (RB_cmp (RE_Name rfl (by first | exact .inl rfl | exact .inr (.inl rfl) | exact .inr (.inr rfl)) (by decide) (by decide)) RE_str rEq) (RS_cons (RS_ret (RE_Name rfl (by first | exact .inl rfl | exact .inr (.inl rfl) | exact .inr (.inr rfl)) (by decide) (by decide))) RS_nil) (RS_cons (RS_if (RB_cmp (RE_Name rfl (by first | exact .inl rfl | exact .inr (.inl rfl) | exact .inr (.inr rfl)) (by decide) (by decide)) RE_str rEq) (RS_cons (RS_assign ok rfl (by first | exact .inl rfl | exact .inr rfl) (RE_meth0 ok pcN (by kernel_rfl) (by kernel_rfl) ⟨_, _, rfl, rfl⟩ (RF.up (RF_read_char ok G) (by decide)) (RE_Name rfl (by first | exact .inl rfl | exact .inr (.inl rfl) | exact .inr (.inr rfl)) (by decide) (by decide)) rfl rfl) rfl) RS_nil) RS_nil) RS_nil)) (RS_cons (RS_augName ok rfl (by first | exact .inl rfl | exact .inr rfl) (RE_Name rfl (by first | exact .inl rfl | exact .inr (.inl rfl) | exact .inr (.inr rfl)) (by decide) (by decide)) rIAdd) RS_nil)) (fun _ => rfl)) RS_nil) (RS_cons (RS_if (RB_cmp (RE_Name rfl (by first | exact .inl rfl | exact .inr (.inl rfl) | exact .inr (.inr rfl)) (by decide) (by decide)) RE_str rEq) (RS_cons (RS_assign ok rfl (by first | exact .inl rfl | exact .inr rfl) (RE_meth0 ok pcN (by kernel_rfl) (by kernel_rfl) ⟨_, _, rfl, rfl⟩ (RF.up (RF_read_char ok G) (by decide)) (RE_Name rfl (by first | exact .inl rfl | exact .inr (.inl rfl) | exact .inr (.inr rfl)) (by decide) (by decide)) rfl rfl) rfl) RS_nil) RS_nil) (RS_cons (RS_augName ok rfl (by first | exact .inl rfl | exact .inr rfl) (RE_Name rfl (by first | exact .inl rfl | exact .inr (.inl rfl) | exact .inr (.inr rfl)) (by decide) (by decide)) rIAdd) (RS_cons (RS_forC ok 1000 ⟨_, _, rfl, rfl⟩ (RF.up (RF_read_char ok G) (by decide)) (RE_Name rfl (by first | exact .inl rfl | exact .inr (.inl rfl) | exact .inr (.inr rfl)) (by decide) (by decide)) rfl rfl (RS_cons (RS_if (RB_cmp (RE_Name rfl (by first | exact .inl rfl | exact .inr (.inl rfl) | exact .inr (.inr rfl)) (by decide) (by decide)) (RE_attr (RE_Name rfl (by first | exact .inl rfl | exact .inr (.inl rfl) | exact .inr (.inr rfl)) (by decide) (by decide)) (rAttr ok pcN (by kernel_rfl) (by kernel_rfl))) rIn) (RS_cons (RS_ret (RE_Name rfl (by first | exact .inl rfl | exact .inr (.inl rfl) | exact .inr (.inr rfl)) (by decide) (by decide))) RS_nil) (RS_cons (RS_if (RB_cmp (RE_Name rfl (by first | exact .inl rfl | exact .inr (.inl rfl) | exact .inr (.inr rfl)) (by decide) (by decide)) RE_str rEq) (RS_cons (RS_assign ok rfl (by first | exact .inl rfl | exact .inr rfl) (RE_meth0 ok pcN (by kernel_rfl) (by kernel_rfl) ⟨_, _, rfl, rfl⟩ (RF.up (RF_read_char ok G) (by decide)) (RE_Name rfl (by first | exact .inl rfl | exact .inr (.inl rfl) | exact .inr (.inr rfl)) (by decide) (by decide)) rfl rfl) rfl) RS_nil) RS_nil) RS_nil)) (RS_cons (RS_augName ok rfl (by first | exact .inl rfl | exact .inr rfl) (RE_Name rfl (by first | exact .inl rfl | exact .inr (.inl rfl) | exact .inr (.inr rfl)) (by decide) (by decide)) rIAdd) RS_nil)) (fun _ => rfl)) RS_nil)))) RS_nil)) (fun _ => rfl)) (RS_cons (RS_ret (RE_Name rfl (by first | exact .inl rfl | exact .inr (.inl rfl) | exact .inr (.inr rfl)) (by decide) (by decide))) RS_nil)))))

set_option maxHeartbeats 4000000 in
theorem RF_push_token (ok : (cx03 w base os mg mb).Ok) (G : G03 mg mb) : RF (cx03 w base os mg mb) 1 56 (dFn [0, 8] (F_push_token 59)) := by
  refine' @RF_def (cx03 w base os mg mb) 0 ok _ _ _ _ _ _ _ _ _ _ _ _ _ _ _ _ [0, 8] ["self", "token"] _ ?hK ?_ (.cons rfl (.cons rfl .nil)) ?_ ?_ ?_ ?_ ?_ ?_ ?_ ?_ ?_
  case hK => exact rfl
  · kernel_rfl
  · decide
  · intro vs h; obtain ⟨a, b, rfl⟩ := len2 h; rfl
  · decide
  · decide
  · exact noFree (by decide)
  · rfl
  · rfl
  · rfl
  · intro L
    exact (RS_cons (RS_expr (RE_bmeth (gList PySem.F.slot_list_append PySem.F.type_list_append) vAppend (RE_attr (RE_Name rfl (by first | exact .inl rfl | exact .inr (.inl rfl) | exact .inr (.inr rfl)) (by decide) (by decide)) (rAttr ok pcN (by kernel_rfl) (by kernel_rfl))) (RL_cons (RE_Name rfl (by first | exact .inl rfl | exact .inr (.inl rfl) | exact .inr (.inr rfl)) (by decide) (by decide)) RL_nil rfl) rfl rfl rfl rfl) rfl rfl) RS_nil)

set_option maxHeartbeats 4000000 in
theorem RF_push (ok : (cx03 w base os mg mb).Ok) (G : G03 mg mb) : RF (cx03 w base os mg mb) 1 87 (dFn [0, 2, 3] (F_push 143)) := by
  refine' @RF_def (cx03 w base os mg mb) 0 ok _ _ _ _ _ _ _ _ _ _ _ _ _ _ _ _ [0, 2, 3] ["self", "fws", "string"] _ ?hK ?_ (.cons rfl (.cons rfl (.cons rfl .nil))) ?_ ?_ ?_ ?_ ?_ ?_ ?_ ?_ ?_
  case hK => exact rfl
  · kernel_rfl
  · decide
  · intro vs h; obtain ⟨a, b, c, rfl⟩ := len3 h; rfl
  · decide
  · decide
  · exact noFree (by decide)
  · rfl
  · rfl
  · rfl
  · intro L
    exact (RS_cons (RS_expr (RE_bmeth (gInst ok pcA (by kernel_rfl) PySem.F.type_list_append) (vAppendI ok subA) (RE_Name rfl (by first | exact .inl rfl | exact .inr (.inl rfl) | exact .inr (.inr rfl)) (by decide) (by decide)) (RL_cons (RE_tuple (RL_cons (RE_Name rfl (by first | exact .inl rfl | exact .inr (.inl rfl) | exact .inr (.inr rfl)) (by decide) (by decide)) (RL_cons (RE_Name rfl (by first | exact .inl rfl | exact .inr (.inl rfl) | exact .inr (.inr rfl)) (by decide) (by decide)) RL_nil rfl) rfl)) RL_nil rfl) rfl rfl rfl rfl) rfl rfl) RS_nil)

end
end Mine

namespace Mine
section
variable {w : World} {base : Heap} {os : OsState} {mg mb : Str → Option Value}
noncomputable def F_law_names : DS := (dSeq (dRet (dLst (dL1 (dC (.str "\t")) (dL1 (dC (.str " ")) (dL1 (dC (.str "\"")) (dL1 (dC (.str "#")) (dL1 (dC (.str "\\")) (dL1 (dC (.str "a")) dL0)))))))) dNil)
set_option maxHeartbeats 4000000 in
theorem RF_law_names (ok : (cx03 w base os mg mb).Ok) (G : G03 mg mb) : RF (cx03 w base os mg mb) 1 154 (dFn [] F_law_names) := by
  refine' @RF_def (cx03 w base os mg mb) 0 ok _ _ _ _ _ _ _ _ _ _ _ _ _ _ _ _ [] [] _ ?hK ?_ .nil ?_ ?_ ?_ ?_ ?_ ?_ ?_ ?_ ?_
  case hK => exact rfl
  · kernel_rfl
  · decide
  · intro vs h; cases vs with
    | nil => rfl
    | cons a b => simp at h
  · decide
  · decide
  · exact noFree (by decide)
  · rfl
  · rfl
  · rfl
  · intro L
    exact (RS_cons (RS_ret (RE_list (RL_cons RE_str (RL_cons RE_str (RL_cons RE_str (RL_cons RE_str (RL_cons RE_str (RL_cons RE_str RL_nil rfl) rfl) rfl) rfl) rfl) rfl))) RS_nil)
noncomputable def F_law_numbers : DS := (dSeq (dAsg 19 (dLstM (dL1 (dC (.int 4)) (dL1 (dC (.int 4)) (dL1 (dC (.int 3)) dL0))))) (dSeq (dFor none 100 (dCall fRange (dL1 (dCall fLen (dL1 (dVar 17) dL0)) dL0)) (tgV 18) (dSeq (dAugI (dVar 19) (dOp2 oMod (dVar 18) (dC (.int 3))) oIAdd (dOp2 oItem (dVar 17) (dVar 18))) dNil)) (dSeq (dRet (dVar 19)) dNil)))
set_option maxHeartbeats 4000000 in
theorem RF_law_numbers (ok : (cx03 w base os mg mb).Ok) (G : G03 mg mb) : RF (cx03 w base os mg mb) 1 161 (dFn [17] F_law_numbers) := by
  refine' @RF_def (cx03 w base os mg mb) 0 ok _ _ _ _ _ _ _ _ _ _ _ _ _ _ _ _ [17] ["script"] _ ?hK ?_ (.cons rfl .nil) ?_ ?_ ?_ ?_ ?_ ?_ ?_ ?_ ?_
  case hK => exact rfl
  · kernel_rfl
  · decide
  · intro vs h; obtain ⟨a, rfl⟩ := len1 h; rfl
  · decide
  · decide
  · exact noFree (by decide)
  · rfl
  · rfl
  · rfl
  · intro L
    exact (RS_cons (RS_assign ok rfl (by first | exact .inl rfl | exact .inr rfl) (RE_listM (RL_cons RE_int (RL_cons RE_int (RL_cons RE_int RL_nil rfl) rfl) rfl)) rfl) (RS_cons (RS_for ok subNone 100 (RE_tcall ok G.range.1 G.range.2 rfl (by decide) vRange (RL_cons (RE_bcall ok G.len.1 G.len.2 rfl (by decide) vLen (RL_cons (RE_Name rfl (by first | exact .inl rfl | exact .inr (.inl rfl) | exact .inr (.inr rfl)) (by decide) (by decide)) RL_nil rfl) rfl rfl) RL_nil rfl) rfl rfl) (RTg_name ok rfl (by first | exact .inl ⟨rfl, by simp [fa]⟩ | exact .inr ⟨rfl, fun _ h => h⟩)) goOk_name (RS_cons (RS_augItem (RE_Name rfl (by first | exact .inl rfl | exact .inr (.inl rfl) | exact .inr (.inr rfl)) (by decide) (by decide)) (RE_BinOp (RE_Name rfl (by first | exact .inl rfl | exact .inr (.inl rfl) | exact .inr (.inr rfl)) (by decide) (by decide)) RE_int rMod) (RE_item (RE_Name rfl (by first | exact .inl rfl | exact .inr (.inl rfl) | exact .inr (.inr rfl)) (by decide) (by decide)) (RE_Name rfl (by first | exact .inl rfl | exact .inr (.inl rfl) | exact .inr (.inr rfl)) (by decide) (by decide)) (fun _ _ => rfl)) rIAdd) RS_nil) (fun _ => rfl)) (RS_cons (RS_ret (RE_Name rfl (by first | exact .inl rfl | exact .inr (.inl rfl) | exact .inr (.inr rfl)) (by decide) (by decide))) RS_nil)))
noncomputable def F_law_drawn : DS := (dSeq (dAsg 23 (dC (.str ""))) (dSeq (dFor none 100 (dCall fRange (dL1 (dC (.int 12)) dL0)) (tgV 20) (dSeq (dAsg 21 (dBMeth selStr fCount (dVar 23) (dL1 (dC (.str "(")) dL0))) (dSeq (dAsg 22 (dOp2 oEq (dOp2 oMod (dOp2 oDiv (dOp2 oItem (dVar 19) (dOp2 oMod (dVar 20) (dC (.int 3)))) (dOp2 oPow (dC (.int 2)) (dOp2 oDiv (dVar 20) (dC (.int 3))))) (dC (.int 2))) (dC (.int 1)))) (dSeq (dAugV 23 oIAdd (dIte (dOr (dTru (dOp2 oEq (dVar 21) (dC (.int 6)))) (dOr (dAnd (dTru (dVar 22)) (dAnd (dTru (dOp2 oGt (dOp2 oMul (dC (.int 2)) (dVar 21)) (dVar 20))) dBt)) dBf)) (dC (.str ")")) (dC (.str "(")))) dNil)))) (dSeq (dRet (dVar 23)) dNil)))
set_option maxHeartbeats 4000000 in
theorem RF_law_drawn (ok : (cx03 w base os mg mb).Ok) (G : G03 mg mb) : RF (cx03 w base os mg mb) 1 168 (dFn [19] F_law_drawn) := by
  refine' @RF_def (cx03 w base os mg mb) 0 ok _ _ _ _ _ _ _ _ _ _ _ _ _ _ _ _ [19] ["numbers"] _ ?hK ?_ (.cons rfl .nil) ?_ ?_ ?_ ?_ ?_ ?_ ?_ ?_ ?_
  case hK => exact rfl
  · kernel_rfl
  · decide
  · intro vs h; obtain ⟨a, rfl⟩ := len1 h; rfl
  · decide
  · decide
  · exact noFree (by decide)
  · rfl
  · rfl
  · rfl
  · intro L
    exact (RS_cons (RS_assign ok rfl (by first | exact .inl rfl | exact .inr rfl) RE_str rfl) (RS_cons (RS_for ok subNone 100 (RE_tcall ok G.range.1 G.range.2 rfl (by decide) vRange (RL_cons RE_int RL_nil rfl) rfl rfl) (RTg_name ok rfl (by first | exact .inl ⟨rfl, by simp [fa]⟩ | exact .inr ⟨rfl, fun _ h => h⟩)) goOk_name (RS_cons (RS_assign ok rfl (by first | exact .inl rfl | exact .inr rfl) (RE_bmeth (gStr PySem.F.slot_str_count PySem.F.type_str_count) vCount (RE_Name rfl (by first | exact .inl rfl | exact .inr (.inl rfl) | exact .inr (.inr rfl)) (by decide) (by decide)) (RL_cons RE_str RL_nil rfl) rfl rfl rfl rfl) rfl) (RS_cons (RS_assign ok rfl (by first | exact .inl rfl | exact .inr rfl) (RE_Compare (RE_BinOp (RE_BinOp (RE_item (RE_Name rfl (by first | exact .inl rfl | exact .inr (.inl rfl) | exact .inr (.inr rfl)) (by decide) (by decide)) (RE_BinOp (RE_Name rfl (by first | exact .inl rfl | exact .inr (.inl rfl) | exact .inr (.inr rfl)) (by decide) (by decide)) RE_int rMod) (fun _ _ => rfl)) (RE_BinOp RE_int (RE_BinOp (RE_Name rfl (by first | exact .inl rfl | exact .inr (.inl rfl) | exact .inr (.inr rfl)) (by decide) (by decide)) RE_int rDiv) rPow) rDiv) RE_int rMod) RE_int rEq) rfl) (RS_cons (RS_augName ok rfl (by first | exact .inl rfl | exact .inr rfl) (RE_ite (RB_or (RB_cmp (RE_Name rfl (by first | exact .inl rfl | exact .inr (.inl rfl) | exact .inr (.inr rfl)) (by decide) (by decide)) RE_int rEq) (RB_or (RB_and (RB_value (RE_Name rfl (by first | exact .inl rfl | exact .inr (.inl rfl) | exact .inr (.inr rfl)) (by decide) (by decide))) (RB_and (RB_cmp (RE_BinOp RE_int (RE_Name rfl (by first | exact .inl rfl | exact .inr (.inl rfl) | exact .inr (.inr rfl)) (by decide) (by decide)) rMul) (RE_Name rfl (by first | exact .inl rfl | exact .inr (.inl rfl) | exact .inr (.inr rfl)) (by decide) (by decide)) rGt) RB_and_nil)) RB_or_nil)) RE_str RE_str) rIAdd) RS_nil))) (fun _ => rfl)) (RS_cons (RS_ret (RE_Name rfl (by first | exact .inl rfl | exact .inr (.inl rfl) | exact .inr (.inr rfl)) (by decide) (by decide))) RS_nil)))
noncomputable def F_law_written : DS := (dSeq (dIf (dTru (dOp2 oLt (dVar 25) (dC (.int 2)))) (dSeq (dRet (dOp2 oAdd (dOp2 oAdd (dC (.str "\\")) (dVar 24)) (dOp2 oItem (dC (.str " \n")) (dVar 25)))) dNil) dNil) (dSeq (dIf (dAnd (dTru (dOp2 oEq (dVar 25) (dC (.int 3)))) (dAnd (dTru (dOp2 oNotIn (dVar 24) (dC (.str "\"\\")))) dBt)) (dSeq (dRet (dOp2 oAdd (dOp2 oAdd (dC (.str "\"")) (dVar 24)) (dC (.str "\"")))) dNil) dNil) (dSeq (dRet (dOp2 oAdd (dOp2 oAdd (dC (.str "\"\\")) (dVar 24)) (dC (.str "\"")))) dNil)))
set_option maxHeartbeats 4000000 in
theorem RF_law_written (ok : (cx03 w base os mg mb).Ok) (G : G03 mg mb) : RF (cx03 w base os mg mb) 1 175 (dFn [24, 25] F_law_written) := by
  refine' @RF_def (cx03 w base os mg mb) 0 ok _ _ _ _ _ _ _ _ _ _ _ _ _ _ _ _ [24, 25] ["sign", "manner"] _ ?hK ?_ (.cons rfl (.cons rfl .nil)) ?_ ?_ ?_ ?_ ?_ ?_ ?_ ?_ ?_
  case hK => exact rfl
  · kernel_rfl
  · decide
  · intro vs h; obtain ⟨a, b, rfl⟩ := len2 h; rfl
  · decide
  · decide
  · exact noFree (by decide)
  · rfl
  · rfl
  · rfl
  · intro L
    exact (RS_cons (RS_if (RB_cmp (RE_Name rfl (by first | exact .inl rfl | exact .inr (.inl rfl) | exact .inr (.inr rfl)) (by decide) (by decide)) RE_int rLt) (RS_cons (RS_ret (RE_BinOp (RE_BinOp RE_str (RE_Name rfl (by first | exact .inl rfl | exact .inr (.inl rfl) | exact .inr (.inr rfl)) (by decide) (by decide)) rAdd) (RE_item RE_str (RE_Name rfl (by first | exact .inl rfl | exact .inr (.inl rfl) | exact .inr (.inr rfl)) (by decide) (by decide)) (fun _ _ => rfl)) rAdd)) RS_nil) RS_nil) (RS_cons (RS_if (RB_and (RB_cmp (RE_Name rfl (by first | exact .inl rfl | exact .inr (.inl rfl) | exact .inr (.inr rfl)) (by decide) (by decide)) RE_int rEq) (RB_and (RB_cmp (RE_Name rfl (by first | exact .inl rfl | exact .inr (.inl rfl) | exact .inr (.inr rfl)) (by decide) (by decide)) RE_str rNotIn) RB_and_nil)) (RS_cons (RS_ret (RE_BinOp (RE_BinOp RE_str (RE_Name rfl (by first | exact .inl rfl | exact .inr (.inl rfl) | exact .inr (.inr rfl)) (by decide) (by decide)) rAdd) RE_str rAdd)) RS_nil) RS_nil) (RS_cons (RS_ret (RE_BinOp (RE_BinOp RE_str (RE_Name rfl (by first | exact .inl rfl | exact .inr (.inl rfl) | exact .inr (.inr rfl)) (by decide) (by decide)) rAdd) RE_str rAdd)) RS_nil)))
noncomputable def F_law_sheet : DS := (dSeq (dAsgT (tgTR [26, 21]) (dTup (dL1 (dCall (fMakeL 143 (fInitAcc 143)) dL0) (dL1 (dC (.int 0)) dL0)))) (dSeq (dFor none 100 (dCall fRange (dL1 (dC (.int 12)) dL0)) (tgV 20) (dSeq (dAsg 27 (dC (.str "."))) (dSeq (dIf (dTru (dOp2 oEq (dOp2 oItem (dVar 23) (dVar 20)) (dC (.str "(")))) (dSeq (dAsg 27 (dCall (dFn [24, 25] F_law_written) (dL1 (dOp2 oItem (dCall (dFn [] F_law_names) dL0) (dVar 21)) (dL1 (dOp2 oMod (dOp2 oAdd (dOp2 oDiv (dOp2 oItem (dVar 19) (dOp2 oMod (dVar 20) (dC (.int 3)))) (dC (.int 16))) (dVar 20)) (dC (.int 4))) dL0)))) (dSeq (dAugV 21 oIAdd (dC (.int 1))) dNil)) dNil) (dSeq (dExprN (dMeth 143 "push" (dFn [0, 2, 3] (F_push 143)) (dVar 26) (dL1 (dOp2 oItem (dC (.str " \n")) (dOp2 oMod (dVar 20) (dC (.int 2)))) (dL1 (dVar 27) dL0)))) dNil)))) (dSeq (dRet (dVar 26)) dNil)))
set_option maxHeartbeats 4000000 in
theorem RF_law_sheet (ok : (cx03 w base os mg mb).Ok) (G : G03 mg mb) : RF (cx03 w base os mg mb) 3 182 (dFn [23, 19] F_law_sheet) := by
  refine' @RF_def (cx03 w base os mg mb) 2 ok _ _ _ _ _ _ _ _ _ _ _ _ _ _ _ _ [23, 19] ["drawn", "numbers"] _ ?hK ?_ (.cons rfl (.cons rfl .nil)) ?_ ?_ ?_ ?_ ?_ ?_ ?_ ?_ ?_
  case hK => exact rfl
  · kernel_rfl
  · decide
  · intro vs h; obtain ⟨a, b, rfl⟩ := len2 h; rfl
  · decide
  · decide
  · exact noFree (by decide)
  · rfl
  · rfl
  · rfl
  · intro L
    exact (RS_cons (RS_asgTR ok (RE_tuple (RL_cons (RE_ccall0 ok G.acc rfl (by decide) (by kernel_rfl) (RF.up (RF_makeA ok G) (by decide))) (RL_cons RE_int RL_nil rfl) rfl)) (.cons rfl rfl (.cons rfl rfl .nil)) rfl rfl) (RS_cons (RS_for ok subNone 100 (RE_tcall ok G.range.1 G.range.2 rfl (by decide) vRange (RL_cons RE_int RL_nil rfl) rfl rfl) (RTg_name ok rfl (by first | exact .inl ⟨rfl, by simp [fa]⟩ | exact .inr ⟨rfl, fun _ h => h⟩)) goOk_name (RS_cons (RS_assign ok rfl (by first | exact .inl rfl | exact .inr rfl) RE_str rfl) (RS_cons (RS_if (RB_cmp (RE_item (RE_Name rfl (by first | exact .inl rfl | exact .inr (.inl rfl) | exact .inr (.inr rfl)) (by decide) (by decide)) (RE_Name rfl (by first | exact .inl rfl | exact .inr (.inl rfl) | exact .inr (.inr rfl)) (by decide) (by decide)) (fun _ _ => rfl)) RE_str rEq) (RS_cons (RS_assign ok rfl (by first | exact .inl rfl | exact .inr rfl) (RE_call ok G.law_written rfl (by decide) ⟨_, _, rfl, rfl⟩ (RF.up (RF_law_written ok G) (by decide)) (RL_cons (RE_item (RE_call0 ok G.law_names rfl (by decide) ⟨_, _, rfl, rfl⟩ (RF.up (RF_law_names ok G) (by decide))) (RE_Name rfl (by first | exact .inl rfl | exact .inr (.inl rfl) | exact .inr (.inr rfl)) (by decide) (by decide)) (fun _ _ => rfl)) (RL_cons (RE_BinOp (RE_BinOp (RE_BinOp (RE_item (RE_Name rfl (by first | exact .inl rfl | exact .inr (.inl rfl) | exact .inr (.inr rfl)) (by decide) (by decide)) (RE_BinOp (RE_Name rfl (by first | exact .inl rfl | exact .inr (.inl rfl) | exact .inr (.inr rfl)) (by decide) (by decide)) RE_int rMod) (fun _ _ => rfl)) RE_int rDiv) (RE_Name rfl (by first | exact .inl rfl | exact .inr (.inl rfl) | exact .inr (.inr rfl)) (by decide) (by decide)) rAdd) RE_int rMod) RL_nil rfl) rfl) rfl) rfl) (RS_cons (RS_augName ok rfl (by first | exact .inl rfl | exact .inr rfl) RE_int rIAdd) RS_nil)) RS_nil) (RS_cons (RS_expr (RE_meth ok pcA (by kernel_rfl) (by kernel_rfl) ⟨_, _, rfl, rfl⟩ (RF.up (RF_push ok G) (by decide)) (RE_Name rfl (by first | exact .inl rfl | exact .inr (.inl rfl) | exact .inr (.inr rfl)) (by decide) (by decide)) (RL_cons (RE_item RE_str (RE_BinOp (RE_Name rfl (by first | exact .inl rfl | exact .inr (.inl rfl) | exact .inr (.inr rfl)) (by decide) (by decide)) RE_int rMod) (fun _ _ => rfl)) (RL_cons (RE_Name rfl (by first | exact .inl rfl | exact .inr (.inl rfl) | exact .inr (.inr rfl)) (by decide) (by decide)) RL_nil rfl) rfl) rfl rfl rfl) rfl rfl) RS_nil))) (fun _ => rfl)) (RS_cons (RS_ret (RE_Name rfl (by first | exact .inl rfl | exact .inr (.inl rfl) | exact .inr (.inr rfl)) (by decide) (by decide))) RS_nil)))
noncomputable def F_law_pile : DS := (dSeq (dAsgT (tgTR [29, 30, 31]) (dTup (dL1 (dCall (fMakeL 143 (fInitAcc 143)) dL0) (dL1 dDict0 (dL1 (dLstM dL0) dL0))))) (dSeq (dFor none 100 (dVar 28) (tgV 27) (dSeq (dAsg 10 (dMeth 143 "part_count" (fPartCount 143) (dVar 29) dL0)) (dSeq (dAsgT (tgT [32, 33]) (dMeth 143 "pop" (fPop 143) (dVar 29) dL0)) (dSeq (dIf (dTru (dOp2 oNe (dVar 27) (dC (.str ".")))) (dSeq (dExprN (dBMeth selList fAppend (dVar 31) (dL1 (dIte (dTru (dOp2 oEq (dVar 32) (dOp2 oMul (dC (.str " ")) (dVar 10)))) (dVar 10) (dC (.int 9))) dL0))) (dSeq (dAsgItemD (dOp2 oAdd (dBMeth selDict fDictGet (dVar 30) (dL1 (dVar 33) (dL1 (dLst dL0) dL0))) (dLst (dL1 (dVar 27) dL0))) (dVar 30) (dVar 33)) (dSeq (dIf (dTru (dOp2 oNe (dVar 33) (dC (.str "")))) (dSeq (dExprN (dMeth 143 "push" (dFn [0, 2, 3] (F_push 143)) (dVar 29) (dL1 (dVar 32) (dL1 (dVar 33) dL0)))) dNil) dNil) (dSeq (dExprN (dMeth 143 "push" (dFn [0, 2, 3] (F_push 143)) (dVar 29) (dL1 (dOp2 oMul (dC (.str " ")) (dOp2 oAdd (dVar 10) (dC (.int 1)))) (dL1 (dVar 27) dL0)))) dNil)))) dNil) dNil)))) (dSeq (dRet (dTup (dL1 (dVar 30) (dL1 (dVar 31) (dL1 (dMeth 143 "part_count" (fPartCount 143) (dVar 29) dL0) dL0))))) dNil)))
set_option maxHeartbeats 4000000 in
theorem RF_law_pile (ok : (cx03 w base os mg mb).Ok) (G : G03 mg mb) : RF (cx03 w base os mg mb) 3 196 (dFn [28] F_law_pile) := by
  refine' @RF_def (cx03 w base os mg mb) 2 ok _ _ _ _ _ _ _ _ _ _ _ _ _ _ _ _ [28] ["words"] _ ?hK ?_ (.cons rfl .nil) ?_ ?_ ?_ ?_ ?_ ?_ ?_ ?_ ?_
  case hK => exact rfl
  · kernel_rfl
  · decide
  · intro vs h; obtain ⟨a, rfl⟩ := len1 h; rfl
  · decide
  · decide
  · exact noFree (by decide)
  · rfl
  · rfl
  · rfl
  · intro L
    exact (RS_cons (RS_asgTR ok (RE_tuple (RL_cons (RE_ccall0 ok G.acc rfl (by decide) (by kernel_rfl) (RF.up (RF_makeA ok G) (by decide))) (RL_cons (RE_dict0 ok) (RL_cons (RE_listM RL_nil) RL_nil rfl) rfl) rfl)) (.cons rfl rfl (.cons rfl rfl (.cons rfl rfl .nil))) rfl rfl) (RS_cons (RS_for ok subNone 100 (RE_Name rfl (by first | exact .inl rfl | exact .inr (.inl rfl) | exact .inr (.inr rfl)) (by decide) (by decide)) (RTg_name ok rfl (by first | exact .inl ⟨rfl, by simp [fa]⟩ | exact .inr ⟨rfl, fun _ h => h⟩)) goOk_name (RS_cons (RS_assign ok rfl (by first | exact .inl rfl | exact .inr rfl) (RE_meth0 ok pcA (by kernel_rfl) (by kernel_rfl) ⟨_, _, rfl, rfl⟩ (RF.up (RF_part_count ok G) (by decide)) (RE_Name rfl (by first | exact .inl rfl | exact .inr (.inl rfl) | exact .inr (.inr rfl)) (by decide) (by decide)) rfl rfl) rfl) (RS_cons (RS_asgT (RE_meth0 ok pcA (by kernel_rfl) (by kernel_rfl) ⟨_, _, rfl, rfl⟩ (RF.up (RF_popA ok G) (by decide)) (RE_Name rfl (by first | exact .inl rfl | exact .inr (.inl rfl) | exact .inr (.inr rfl)) (by decide) (by decide)) rfl rfl) (RTg_tuple ok (.cons rfl (by first | exact .inl ⟨rfl, by simp [fa]⟩ | exact .inr ⟨rfl, fun _ h => h⟩) (.cons rfl (by first | exact .inl ⟨rfl, by simp [fa]⟩ | exact .inr ⟨rfl, fun _ h => h⟩) .nil))) rfl rfl) (RS_cons (RS_if (RB_cmp (RE_Name rfl (by first | exact .inl rfl | exact .inr (.inl rfl) | exact .inr (.inr rfl)) (by decide) (by decide)) RE_str rNe) (RS_cons (RS_expr (RE_bmeth (gList PySem.F.slot_list_append PySem.F.type_list_append) vAppend (RE_Name rfl (by first | exact .inl rfl | exact .inr (.inl rfl) | exact .inr (.inr rfl)) (by decide) (by decide)) (RL_cons (RE_ite (RB_cmp (RE_Name rfl (by first | exact .inl rfl | exact .inr (.inl rfl) | exact .inr (.inr rfl)) (by decide) (by decide)) (RE_BinOp RE_str (RE_Name rfl (by first | exact .inl rfl | exact .inr (.inl rfl) | exact .inr (.inr rfl)) (by decide) (by decide)) rMul) rEq) (RE_Name rfl (by first | exact .inl rfl | exact .inr (.inl rfl) | exact .inr (.inr rfl)) (by decide) (by decide)) RE_int) RL_nil rfl) rfl rfl rfl rfl) rfl rfl) (RS_cons (RS_asgItemD (RE_BinOp (RE_bmeth (gDict PySem.F.slot_dict_get PySem.F.type_dict_get) vDictGet (RE_Name rfl (by first | exact .inl rfl | exact .inr (.inl rfl) | exact .inr (.inr rfl)) (by decide) (by decide)) (RL_cons (RE_Name rfl (by first | exact .inl rfl | exact .inr (.inl rfl) | exact .inr (.inr rfl)) (by decide) (by decide)) (RL_cons (RE_list RL_nil) RL_nil rfl) rfl) rfl rfl rfl rfl) (RE_list (RL_cons (RE_Name rfl (by first | exact .inl rfl | exact .inr (.inl rfl) | exact .inr (.inr rfl)) (by decide) (by decide)) RL_nil rfl)) rAdd) (RE_Name rfl (by first | exact .inl rfl | exact .inr (.inl rfl) | exact .inr (.inr rfl)) (by decide) (by decide)) (RE_Name rfl (by first | exact .inl rfl | exact .inr (.inl rfl) | exact .inr (.inr rfl)) (by decide) (by decide))) (RS_cons (RS_if (RB_cmp (RE_Name rfl (by first | exact .inl rfl | exact .inr (.inl rfl) | exact .inr (.inr rfl)) (by decide) (by decide)) RE_str rNe) (RS_cons (RS_expr (RE_meth ok pcA (by kernel_rfl) (by kernel_rfl) ⟨_, _, rfl, rfl⟩ (RF.up (RF_push ok G) (by decide)) (RE_Name rfl (by first | exact .inl rfl | exact .inr (.inl rfl) | exact .inr (.inr rfl)) (by decide) (by decide)) (RL_cons (RE_Name rfl (by first | exact .inl rfl | exact .inr (.inl rfl) | exact .inr (.inr rfl)) (by decide) (by decide)) (RL_cons (RE_Name rfl (by first | exact .inl rfl | exact .inr (.inl rfl) | exact .inr (.inr rfl)) (by decide) (by decide)) RL_nil rfl) rfl) rfl rfl rfl) rfl rfl) RS_nil) RS_nil) (RS_cons (RS_expr (RE_meth ok pcA (by kernel_rfl) (by kernel_rfl) ⟨_, _, rfl, rfl⟩ (RF.up (RF_push ok G) (by decide)) (RE_Name rfl (by first | exact .inl rfl | exact .inr (.inl rfl) | exact .inr (.inr rfl)) (by decide) (by decide)) (RL_cons (RE_BinOp RE_str (RE_BinOp (RE_Name rfl (by first | exact .inl rfl | exact .inr (.inl rfl) | exact .inr (.inr rfl)) (by decide) (by decide)) RE_int rAdd) rMul) (RL_cons (RE_Name rfl (by first | exact .inl rfl | exact .inr (.inl rfl) | exact .inr (.inr rfl)) (by decide) (by decide)) RL_nil rfl) rfl) rfl rfl rfl) rfl rfl) RS_nil)))) RS_nil) RS_nil))) (fun _ => rfl)) (RS_cons (RS_ret (RE_tuple (RL_cons (RE_Name rfl (by first | exact .inl rfl | exact .inr (.inl rfl) | exact .inr (.inr rfl)) (by decide) (by decide)) (RL_cons (RE_Name rfl (by first | exact .inl rfl | exact .inr (.inl rfl) | exact .inr (.inr rfl)) (by decide) (by decide)) (RL_cons (RE_meth0 ok pcA (by kernel_rfl) (by kernel_rfl) ⟨_, _, rfl, rfl⟩ (RF.up (RF_part_count ok G) (by decide)) (RE_Name rfl (by first | exact .inl rfl | exact .inr (.inl rfl) | exact .inr (.inr rfl)) (by decide) (by decide)) rfl rfl) RL_nil rfl) rfl) rfl))) RS_nil)))
noncomputable def F_law_line : DS := (dSeq (dAsg 34 (dCall (fLexer (fMakeP 59 (dFn [0, 6] (F_ninit 59)))) (dL1 (dC (.str ".")) (dL1 (dLstM (dL1 (dC (.int 0)) dL0)) dL0)))) (dSeq (dFor none 100 (dBMeth selDict fDictGet (dVar 30) (dL1 (dC (.str "")) (dL1 (dLst dL0) dL0))) (tgV 35) (dSeq (dExprN (dMeth 59 "push_token" (dFn [0, 8] (F_push_token 59)) (dVar 34) (dL1 (dVar 35) dL0))) dNil)) (dSeq (dAsgT (tgTR [36, 37, 38]) (dTup (dL1 (dLstM dL0) (dL1 (dLstM dL0) (dL1 (dLstM (dL1 (dCall fLen (dL1 (dOp1 (oAttr 59 "pushback") (dVar 34)) dL0)) dL0)) dL0))))) (dSeq (dAsgT (tgT [39, 40]) (dTup (dL1 (dC (.int 0)) (dL1 (dC (.int 0)) dL0)))) (dSeq (dFor none 100 (dCall fRange (dL1 (dC (.int 6)) dL0)) (tgV 41) (dSeq (dIf (dTru (dOp2 oEq (dVar 40) (dC (.int 0)))) (dSeq (dAsg 40 (dCall fLen (dL1 (dOp1 (oAttr 59 "pushback") (dVar 34)) dL0))) (dSeq (dExprN (dBMeth selList fAppend (dVar 37) (dL1 (dC (.int 0)) dL0))) dNil)) dNil) (dSeq (dAsg 35 (dMeth 59 "get_token" (dFn [0] (F_get_token 59 42)) (dVar 34) dL0)) (dSeq (dAugV 40 oISub (dC (.int 1))) (dSeq (dAugIN (dVar 37) (dOp1 oNeg (dC (.int 1))) oIAdd (dC (.int 1))) (dSeq (dExprN (dBMeth selList fAppend (dVar 36) (dL1 (dVar 35) dL0))) (dSeq (dAugV 39 oIAdd (dCall fLen (dL1 (dOp1 (oAttr 59 "pushback") (dVar 34)) dL0))) (dSeq (dExprN (dBMeth selList fAppend (dVar 38) (dL1 (dCall fLen (dL1 (dBMeth selDict fDictGet (dVar 30) (dL1 (dVar 35) (dL1 (dLst dL0) dL0))) dL0)) dL0))) (dSeq (dFor none 100 (dBMeth selDict fDictGet (dVar 30) (dL1 (dVar 35) (dL1 (dLst dL0) dL0))) (tgV 42) (dSeq (dExprN (dMeth 59 "push_token" (dFn [0, 8] (F_push_token 59)) (dVar 34) (dL1 (dVar 42) dL0))) dNil)) dNil))))))))) (dSeq (dRet (dTup (dL1 (dVar 36) (dL1 (dVar 37) (dL1 (dVar 38) (dL1 (dVar 39) (dL1 (dMeth 59 "get_token" (dFn [0] (F_get_token 59 42)) (dVar 34) dL0) dL0))))))) dNil))))))
set_option maxHeartbeats 4000000 in
theorem RF_law_line (ok : (cx03 w base os mg mb).Ok) (G : G03 mg mb) : RF (cx03 w base os mg mb) 5 203 (dFn [30] F_law_line) := by
  refine' @RF_def (cx03 w base os mg mb) 4 ok _ _ _ _ _ _ _ _ _ _ _ _ _ _ _ _ [30] ["within"] _ ?hK ?_ (.cons rfl .nil) ?_ ?_ ?_ ?_ ?_ ?_ ?_ ?_ ?_
  case hK => exact rfl
  · kernel_rfl
  · decide
  · intro vs h; obtain ⟨a, rfl⟩ := len1 h; rfl
  · decide
  · decide
  · exact noFree (by decide)
  · rfl
  · rfl
  · rfl
  · intro L
    exact (RS_cons (RS_assign ok rfl (by first | exact .inl rfl | exact .inr rfl) (RE_call ok G.law_lexer rfl (by decide) ⟨_, _, rfl, rfl⟩ (RF.up (RF_lexerL ok G) (by decide)) (RL_cons RE_str (RL_cons (RE_listM (RL_cons RE_int RL_nil rfl)) RL_nil rfl) rfl) rfl) rfl) (RS_cons (RS_for ok subNone 100 (RE_bmeth (gDict PySem.F.slot_dict_get PySem.F.type_dict_get) vDictGet (RE_Name rfl (by first | exact .inl rfl | exact .inr (.inl rfl) | exact .inr (.inr rfl)) (by decide) (by decide)) (RL_cons RE_str (RL_cons (RE_list RL_nil) RL_nil rfl) rfl) rfl rfl rfl rfl) (RTg_name ok rfl (by first | exact .inl ⟨rfl, by simp [fa]⟩ | exact .inr ⟨rfl, fun _ h => h⟩)) goOk_name (RS_cons (RS_expr (RE_meth ok pcN (by kernel_rfl) (by kernel_rfl) ⟨_, _, rfl, rfl⟩ (RF.up (RF_push_token ok G) (by decide)) (RE_Name rfl (by first | exact .inl rfl | exact .inr (.inl rfl) | exact .inr (.inr rfl)) (by decide) (by decide)) (RL_cons (RE_Name rfl (by first | exact .inl rfl | exact .inr (.inl rfl) | exact .inr (.inr rfl)) (by decide) (by decide)) RL_nil rfl) rfl rfl rfl) rfl rfl) RS_nil) (fun _ => rfl)) (RS_cons (RS_asgTR ok (RE_tuple (RL_cons (RE_listM RL_nil) (RL_cons (RE_listM RL_nil) (RL_cons (RE_listM (RL_cons (RE_bcall ok G.len.1 G.len.2 rfl (by decide) vLen (RL_cons (RE_attr (RE_Name rfl (by first | exact .inl rfl | exact .inr (.inl rfl) | exact .inr (.inr rfl)) (by decide) (by decide)) (rAttr ok pcN (by kernel_rfl) (by kernel_rfl))) RL_nil rfl) rfl rfl) RL_nil rfl)) RL_nil rfl) rfl) rfl)) (.cons rfl rfl (.cons rfl rfl (.cons rfl rfl .nil))) rfl rfl) (RS_cons (RS_asgT (RE_tuple (RL_cons RE_int (RL_cons RE_int RL_nil rfl) rfl)) (RTg_tuple ok (.cons rfl (by first | exact .inl ⟨rfl, by simp [fa]⟩ | exact .inr ⟨rfl, fun _ h => h⟩) (.cons rfl (by first | exact .inl ⟨rfl, by simp [fa]⟩ | exact .inr ⟨rfl, fun _ h => h⟩) .nil))) rfl rfl) (RS_cons (RS_for ok subNone 100 (RE_tcall ok G.range.1 G.range.2 rfl (by decide) vRange (RL_cons RE_int RL_nil rfl) rfl rfl) (RTg_name ok rfl (by first | exact .inl ⟨rfl, by simp [fa]⟩ | exact .inr ⟨rfl, fun _ h => h⟩)) goOk_name (RS_cons (RS_if (RB_cmp (RE_Name rfl (by first | exact .inl rfl | exact .inr (.inl rfl) | exact .inr (.inr rfl)) (by decide) (by decide)) RE_int rEq) (RS_cons (RS_assign ok rfl (by first | exact .inl rfl | exact .inr rfl) (RE_bcall ok G.len.1 G.len.2 rfl (by decide) vLen (RL_cons (RE_attr (RE_Name rfl (by first | exact .inl rfl | exact .inr (.inl rfl) | exact .inr (.inr rfl)) (by decide) (by decide)) (rAttr ok pcN (by kernel_rfl) (by kernel_rfl))) RL_nil rfl) rfl rfl) rfl) (RS_cons (RS_expr (RE_bmeth (gList PySem.F.slot_list_append PySem.F.type_list_append) vAppend (RE_Name rfl (by first | exact .inl rfl | exact .inr (.inl rfl) | exact .inr (.inr rfl)) (by decide) (by decide)) (RL_cons RE_int RL_nil rfl) rfl rfl rfl rfl) rfl rfl) RS_nil)) RS_nil) (RS_cons (RS_assign ok rfl (by first | exact .inl rfl | exact .inr rfl) (RE_meth0 ok pcN (by kernel_rfl) (by kernel_rfl) ⟨_, _, rfl, rfl⟩ (RF.up (RF_get_token ok G) (by decide)) (RE_Name rfl (by first | exact .inl rfl | exact .inr (.inl rfl) | exact .inr (.inr rfl)) (by decide) (by decide)) rfl rfl) rfl) (RS_cons (RS_augName ok rfl (by first | exact .inl rfl | exact .inr rfl) RE_int rISub) (RS_cons (RS_augItemN (RE_Name rfl (by first | exact .inl rfl | exact .inr (.inl rfl) | exact .inr (.inr rfl)) (by decide) (by decide)) (RE_neg RE_int) RE_int rIAdd) (RS_cons (RS_expr (RE_bmeth (gList PySem.F.slot_list_append PySem.F.type_list_append) vAppend (RE_Name rfl (by first | exact .inl rfl | exact .inr (.inl rfl) | exact .inr (.inr rfl)) (by decide) (by decide)) (RL_cons (RE_Name rfl (by first | exact .inl rfl | exact .inr (.inl rfl) | exact .inr (.inr rfl)) (by decide) (by decide)) RL_nil rfl) rfl rfl rfl rfl) rfl rfl) (RS_cons (RS_augName ok rfl (by first | exact .inl rfl | exact .inr rfl) (RE_bcall ok G.len.1 G.len.2 rfl (by decide) vLen (RL_cons (RE_attr (RE_Name rfl (by first | exact .inl rfl | exact .inr (.inl rfl) | exact .inr (.inr rfl)) (by decide) (by decide)) (rAttr ok pcN (by kernel_rfl) (by kernel_rfl))) RL_nil rfl) rfl rfl) rIAdd) (RS_cons (RS_expr (RE_bmeth (gList PySem.F.slot_list_append PySem.F.type_list_append) vAppend (RE_Name rfl (by first | exact .inl rfl | exact .inr (.inl rfl) | exact .inr (.inr rfl)) (by decide) (by decide)) (RL_cons (RE_bcall ok G.len.1 G.len.2 rfl (by decide) vLen (RL_cons (RE_bmeth (gDict PySem.F.slot_dict_get PySem.F.type_dict_get) vDictGet (RE_Name rfl (by first | exact .inl rfl | exact .inr (.inl rfl) | exact .inr (.inr rfl)) (by decide) (by decide)) (RL_cons (RE_Name rfl (by first | exact .inl rfl | exact .inr (.inl rfl) | exact .inr (.inr rfl)) (by decide) (by decide)) (RL_cons (RE_list RL_nil) RL_nil rfl) rfl) rfl rfl rfl rfl) RL_nil rfl) rfl rfl) RL_nil rfl) rfl rfl rfl rfl) rfl rfl) (RS_cons (RS_for ok subNone 100 (RE_bmeth (gDict PySem.F.slot_dict_get PySem.F.type_dict_get) vDictGet (RE_Name rfl (by first | exact .inl rfl | exact .inr (.inl rfl) | exact .inr (.inr rfl)) (by decide) (by decide)) (RL_cons (RE_Name rfl (by first | exact .inl rfl | exact .inr (.inl rfl) | exact .inr (.inr rfl)) (by decide) (by decide)) (RL_cons (RE_list RL_nil) RL_nil rfl) rfl) rfl rfl rfl rfl) (RTg_name ok rfl (by first | exact .inl ⟨rfl, by simp [fa]⟩ | exact .inr ⟨rfl, fun _ h => h⟩)) goOk_name (RS_cons (RS_expr (RE_meth ok pcN (by kernel_rfl) (by kernel_rfl) ⟨_, _, rfl, rfl⟩ (RF.up (RF_push_token ok G) (by decide)) (RE_Name rfl (by first | exact .inl rfl | exact .inr (.inl rfl) | exact .inr (.inr rfl)) (by decide) (by decide)) (RL_cons (RE_Name rfl (by first | exact .inl rfl | exact .inr (.inl rfl) | exact .inr (.inr rfl)) (by decide) (by decide)) RL_nil rfl) rfl rfl rfl) rfl rfl) RS_nil) (fun _ => rfl)) RS_nil)))))))) (fun _ => rfl)) (RS_cons (RS_ret (RE_tuple (RL_cons (RE_Name rfl (by first | exact .inl rfl | exact .inr (.inl rfl) | exact .inr (.inr rfl)) (by decide) (by decide)) (RL_cons (RE_Name rfl (by first | exact .inl rfl | exact .inr (.inl rfl) | exact .inr (.inr rfl)) (by decide) (by decide)) (RL_cons (RE_Name rfl (by first | exact .inl rfl | exact .inr (.inl rfl) | exact .inr (.inr rfl)) (by decide) (by decide)) (RL_cons (RE_Name rfl (by first | exact .inl rfl | exact .inr (.inl rfl) | exact .inr (.inr rfl)) (by decide) (by decide)) (RL_cons (RE_meth0 ok pcN (by kernel_rfl) (by kernel_rfl) ⟨_, _, rfl, rfl⟩ (RF.up (RF_get_token ok G) (by decide)) (RE_Name rfl (by first | exact .inl rfl | exact .inr (.inl rfl) | exact .inr (.inr rfl)) (by decide) (by decide)) rfl rfl) RL_nil rfl) rfl) rfl) rfl) rfl))) RS_nil))))))
noncomputable def F_law_back : DS := (dSeq (dAsgT (tgTR [34, 43]) (dTup (dL1 (dCall (fLexer (fMakeP 59 (dFn [0, 6] (F_ninit 59)))) (dL1 (dC (.str ".")) (dL1 (dLstM (dL1 (dC (.int 0)) dL0)) dL0))) (dL1 (dOp2 oItem (dVar 38) (dC (.int 0))) dL0)))) (dSeq (dAsg 30 (dDict1 (dC (.str "")) (dSliceS (dC (.str "ABCDEF")) none (some (dVar 43))))) (dSeq (dFor none 100 (dOp2 oItemD (dVar 30) (dC (.str ""))) (tgV 44) (dSeq (dExprN (dMeth 59 "push_token" (dFn [0, 8] (F_push_token 59)) (dVar 34) (dL1 (dVar 44) dL0))) dNil)) (dSeq (dFor none 100 (dSliceL (dVar 38) (some (dC (.int 1))) none) (tgV 45) (dSeq (dAsg 44 (dMeth 59 "get_token" (dFn [0] (F_get_token 59 42)) (dVar 34) dL0)) (dSeq (dAsgItemD (dSliceS (dC (.str "ABCDEF")) (some (dVar 43)) (some (dOp2 oAdd (dVar 43) (dVar 45)))) (dVar 30) (dVar 44)) (dSeq (dAugV 43 oIAdd (dVar 45)) (dSeq (dFor none 100 (dOp2 oItemD (dVar 30) (dVar 44)) (tgV 42) (dSeq (dExprN (dMeth 59 "push_token" (dFn [0, 8] (F_push_token 59)) (dVar 34) (dL1 (dVar 42) dL0))) dNil)) dNil))))) (dSeq (dAsgT (tgTR [29, 46]) (dTup (dL1 (dCall (fMakeL 143 (fInitAcc 143)) dL0) (dL1 (dC (.str "")) dL0)))) (dSeq (dFor none 100 (dRev (dOp2 oItemD (dVar 30) (dC (.str "")))) (tgV 44) (dSeq (dExprN (dMeth 143 "push" (dFn [0, 2, 3] (F_push 143)) (dVar 29) (dL1 (dC (.str " ")) (dL1 (dVar 44) dL0)))) dNil)) (dSeq (dFor none 100 (dCall fRange (dL1 (dC (.int 12)) dL0)) (tgV 41) (dSeq (dAsg 44 (dOp2 oItem (dMeth 143 "pop" (fPop 143) (dVar 29) dL0) (dC (.int 1)))) (dSeq (dAugV 46 oIAdd (dIte (dTru (dOp2 oEq (dVar 44) (dC (.str ".")))) (dC (.str ")")) (dC (.str "(")))) (dSeq (dIf (dTru (dOp2 oNe (dVar 44) (dC (.str ".")))) (dSeq (dExprN (dMeth 143 "push" (dFn [0, 2, 3] (F_push 143)) (dVar 29) (dL1 (dC (.str " ")) (dL1 (dC (.str ".")) dL0)))) (dSeq (dFor none 100 (dRev (dBMeth selDict fDictGet (dVar 30) (dL1 (dVar 44) (dL1 (dC (.str "")) dL0)))) (tgV 42) (dSeq (dExprN (dMeth 143 "push" (dFn [0, 2, 3] (F_push 143)) (dVar 29) (dL1 (dC (.str " ")) (dL1 (dVar 42) dL0)))) dNil)) dNil)) dNil) dNil)))) (dSeq (dRet (dVar 46)) dNil))))))))
set_option maxHeartbeats 4000000 in
theorem RF_law_back (ok : (cx03 w base os mg mb).Ok) (G : G03 mg mb) : RF (cx03 w base os mg mb) 5 210 (dFn [38] F_law_back) := by
  refine' @RF_def (cx03 w base os mg mb) 4 ok _ _ _ _ _ _ _ _ _ _ _ _ _ _ _ _ [38] ["counts"] _ ?hK ?_ (.cons rfl .nil) ?_ ?_ ?_ ?_ ?_ ?_ ?_ ?_ ?_
  case hK => exact rfl
  · kernel_rfl
  · decide
  · intro vs h; obtain ⟨a, rfl⟩ := len1 h; rfl
  · decide
  · decide
  · exact noFree (by decide)
  · rfl
  · rfl
  · rfl
  · intro L
    exact (RS_cons (RS_asgTR ok (RE_tuple (RL_cons (RE_call ok G.law_lexer rfl (by decide) ⟨_, _, rfl, rfl⟩ (RF.up (RF_lexerL ok G) (by decide)) (RL_cons RE_str (RL_cons (RE_listM (RL_cons RE_int RL_nil rfl)) RL_nil rfl) rfl) rfl) (RL_cons (RE_item (RE_Name rfl (by first | exact .inl rfl | exact .inr (.inl rfl) | exact .inr (.inr rfl)) (by decide) (by decide)) RE_int (fun _ _ => rfl)) RL_nil rfl) rfl)) (.cons rfl rfl (.cons rfl rfl .nil)) rfl rfl) (RS_cons (RS_assign ok rfl (by first | exact .inl rfl | exact .inr rfl) (RE_dict1 ok RE_str (RE_sliceC RE_str RP_none (@RP_some _ _ _ _ _ (RE_Name rfl (by first | exact .inl rfl | exact .inr (.inl rfl) | exact .inr (.inr rfl)) (by decide) (by decide))))) rfl) (RS_cons (RS_for ok subNone 100 (RE_itemD (RE_Name rfl (by first | exact .inl rfl | exact .inr (.inl rfl) | exact .inr (.inr rfl)) (by decide) (by decide)) RE_str (fun _ _ => rfl)) (RTg_name ok rfl (by first | exact .inl ⟨rfl, by simp [fa]⟩ | exact .inr ⟨rfl, fun _ h => h⟩)) goOk_name (RS_cons (RS_expr (RE_meth ok pcN (by kernel_rfl) (by kernel_rfl) ⟨_, _, rfl, rfl⟩ (RF.up (RF_push_token ok G) (by decide)) (RE_Name rfl (by first | exact .inl rfl | exact .inr (.inl rfl) | exact .inr (.inr rfl)) (by decide) (by decide)) (RL_cons (RE_Name rfl (by first | exact .inl rfl | exact .inr (.inl rfl) | exact .inr (.inr rfl)) (by decide) (by decide)) RL_nil rfl) rfl rfl rfl) rfl rfl) RS_nil) (fun _ => rfl)) (RS_cons (RS_for ok subNone 100 (RE_sliceL (RE_Name rfl (by first | exact .inl rfl | exact .inr (.inl rfl) | exact .inr (.inr rfl)) (by decide) (by decide)) (@RP_some _ _ _ _ _ RE_int) RP_none) (RTg_name ok rfl (by first | exact .inl ⟨rfl, by simp [fa]⟩ | exact .inr ⟨rfl, fun _ h => h⟩)) goOk_name (RS_cons (RS_assign ok rfl (by first | exact .inl rfl | exact .inr rfl) (RE_meth0 ok pcN (by kernel_rfl) (by kernel_rfl) ⟨_, _, rfl, rfl⟩ (RF.up (RF_get_token ok G) (by decide)) (RE_Name rfl (by first | exact .inl rfl | exact .inr (.inl rfl) | exact .inr (.inr rfl)) (by decide) (by decide)) rfl rfl) rfl) (RS_cons (RS_asgItemD (RE_sliceC RE_str (@RP_some _ _ _ _ _ (RE_Name rfl (by first | exact .inl rfl | exact .inr (.inl rfl) | exact .inr (.inr rfl)) (by decide) (by decide))) (@RP_some _ _ _ _ _ (RE_BinOp (RE_Name rfl (by first | exact .inl rfl | exact .inr (.inl rfl) | exact .inr (.inr rfl)) (by decide) (by decide)) (RE_Name rfl (by first | exact .inl rfl | exact .inr (.inl rfl) | exact .inr (.inr rfl)) (by decide) (by decide)) rAdd))) (RE_Name rfl (by first | exact .inl rfl | exact .inr (.inl rfl) | exact .inr (.inr rfl)) (by decide) (by decide)) (RE_Name rfl (by first | exact .inl rfl | exact .inr (.inl rfl) | exact .inr (.inr rfl)) (by decide) (by decide))) (RS_cons (RS_augName ok rfl (by first | exact .inl rfl | exact .inr rfl) (RE_Name rfl (by first | exact .inl rfl | exact .inr (.inl rfl) | exact .inr (.inr rfl)) (by decide) (by decide)) rIAdd) (RS_cons (RS_for ok subNone 100 (RE_itemD (RE_Name rfl (by first | exact .inl rfl | exact .inr (.inl rfl) | exact .inr (.inr rfl)) (by decide) (by decide)) (RE_Name rfl (by first | exact .inl rfl | exact .inr (.inl rfl) | exact .inr (.inr rfl)) (by decide) (by decide)) (fun _ _ => rfl)) (RTg_name ok rfl (by first | exact .inl ⟨rfl, by simp [fa]⟩ | exact .inr ⟨rfl, fun _ h => h⟩)) goOk_name (RS_cons (RS_expr (RE_meth ok pcN (by kernel_rfl) (by kernel_rfl) ⟨_, _, rfl, rfl⟩ (RF.up (RF_push_token ok G) (by decide)) (RE_Name rfl (by first | exact .inl rfl | exact .inr (.inl rfl) | exact .inr (.inr rfl)) (by decide) (by decide)) (RL_cons (RE_Name rfl (by first | exact .inl rfl | exact .inr (.inl rfl) | exact .inr (.inr rfl)) (by decide) (by decide)) RL_nil rfl) rfl rfl rfl) rfl rfl) RS_nil) (fun _ => rfl)) RS_nil)))) (fun _ => rfl)) (RS_cons (RS_asgTR ok (RE_tuple (RL_cons (RE_ccall0 ok G.acc rfl (by decide) (by kernel_rfl) (RF.up (RF_makeA ok G) (by decide))) (RL_cons RE_str RL_nil rfl) rfl)) (.cons rfl rfl (.cons rfl rfl .nil)) rfl rfl) (RS_cons (RS_for ok subNone 100 (RE_rev (RE_itemD (RE_Name rfl (by first | exact .inl rfl | exact .inr (.inl rfl) | exact .inr (.inr rfl)) (by decide) (by decide)) RE_str (fun _ _ => rfl)) (RE_neg RE_int)) (RTg_name ok rfl (by first | exact .inl ⟨rfl, by simp [fa]⟩ | exact .inr ⟨rfl, fun _ h => h⟩)) goOk_name (RS_cons (RS_expr (RE_meth ok pcA (by kernel_rfl) (by kernel_rfl) ⟨_, _, rfl, rfl⟩ (RF.up (RF_push ok G) (by decide)) (RE_Name rfl (by first | exact .inl rfl | exact .inr (.inl rfl) | exact .inr (.inr rfl)) (by decide) (by decide)) (RL_cons RE_str (RL_cons (RE_Name rfl (by first | exact .inl rfl | exact .inr (.inl rfl) | exact .inr (.inr rfl)) (by decide) (by decide)) RL_nil rfl) rfl) rfl rfl rfl) rfl rfl) RS_nil) (fun _ => rfl)) (RS_cons (RS_for ok subNone 100 (RE_tcall ok G.range.1 G.range.2 rfl (by decide) vRange (RL_cons RE_int RL_nil rfl) rfl rfl) (RTg_name ok rfl (by first | exact .inl ⟨rfl, by simp [fa]⟩ | exact .inr ⟨rfl, fun _ h => h⟩)) goOk_name (RS_cons (RS_assign ok rfl (by first | exact .inl rfl | exact .inr rfl) (RE_item (RE_meth0 ok pcA (by kernel_rfl) (by kernel_rfl) ⟨_, _, rfl, rfl⟩ (RF.up (RF_popA ok G) (by decide)) (RE_Name rfl (by first | exact .inl rfl | exact .inr (.inl rfl) | exact .inr (.inr rfl)) (by decide) (by decide)) rfl rfl) RE_int (fun _ _ => rfl)) rfl) (RS_cons (RS_augName ok rfl (by first | exact .inl rfl | exact .inr rfl) (RE_ite (RB_cmp (RE_Name rfl (by first | exact .inl rfl | exact .inr (.inl rfl) | exact .inr (.inr rfl)) (by decide) (by decide)) RE_str rEq) RE_str RE_str) rIAdd) (RS_cons (RS_if (RB_cmp (RE_Name rfl (by first | exact .inl rfl | exact .inr (.inl rfl) | exact .inr (.inr rfl)) (by decide) (by decide)) RE_str rNe) (RS_cons (RS_expr (RE_meth ok pcA (by kernel_rfl) (by kernel_rfl) ⟨_, _, rfl, rfl⟩ (RF.up (RF_push ok G) (by decide)) (RE_Name rfl (by first | exact .inl rfl | exact .inr (.inl rfl) | exact .inr (.inr rfl)) (by decide) (by decide)) (RL_cons RE_str (RL_cons RE_str RL_nil rfl) rfl) rfl rfl rfl) rfl rfl) (RS_cons (RS_for ok subNone 100 (RE_rev (RE_bmeth (gDict PySem.F.slot_dict_get PySem.F.type_dict_get) vDictGet (RE_Name rfl (by first | exact .inl rfl | exact .inr (.inl rfl) | exact .inr (.inr rfl)) (by decide) (by decide)) (RL_cons (RE_Name rfl (by first | exact .inl rfl | exact .inr (.inl rfl) | exact .inr (.inr rfl)) (by decide) (by decide)) (RL_cons RE_str RL_nil rfl) rfl) rfl rfl rfl rfl) (RE_neg RE_int)) (RTg_name ok rfl (by first | exact .inl ⟨rfl, by simp [fa]⟩ | exact .inr ⟨rfl, fun _ h => h⟩)) goOk_name (RS_cons (RS_expr (RE_meth ok pcA (by kernel_rfl) (by kernel_rfl) ⟨_, _, rfl, rfl⟩ (RF.up (RF_push ok G) (by decide)) (RE_Name rfl (by first | exact .inl rfl | exact .inr (.inl rfl) | exact .inr (.inr rfl)) (by decide) (by decide)) (RL_cons RE_str (RL_cons (RE_Name rfl (by first | exact .inl rfl | exact .inr (.inl rfl) | exact .inr (.inr rfl)) (by decide) (by decide)) RL_nil rfl) rfl) rfl rfl rfl) rfl rfl) RS_nil) (fun _ => rfl)) RS_nil)) RS_nil) RS_nil))) (fun _ => rfl)) (RS_cons (RS_ret (RE_Name rfl (by first | exact .inl rfl | exact .inr (.inl rfl) | exact .inr (.inr rfl)) (by decide) (by decide))) RS_nil))))))))
noncomputable def F_law : DS := (dSeq (dAsgT (tgT [19, 47]) (dTup (dL1 (dCall (dFn [17] F_law_numbers) (dL1 (dVar 17) dL0)) (dL1 (dCall (dFn [] F_law_names) dL0) dL0)))) (dSeq (dAsg 23 (dCall (dFn [19] F_law_drawn) (dL1 (dVar 19) dL0))) (dSeq (dAsg 26 (dCall (dFn [23, 19] F_law_sheet) (dL1 (dVar 23) (dL1 (dVar 19) dL0)))) (dSeq (dAsg 12 (dLstM (dL1 (dC (.int 0)) dL0))) (dSeq (dAsg 48 (dCall (fLexer (fMakeP 59 (dFn [0, 6] (F_ninit 59)))) (dL1 (dCall (fStrI 143 (dFn [0] (F_astr 143))) (dL1 (dVar 26) dL0)) (dL1 (dVar 12) dL0)))) (dSeq (dAsg 28 (dComp [20] none 100 (dCall fRange (dL1 (dC (.int 12)) dL0)) (tgV 20) dBt (aEmit (dMeth 59 "get_token" (dFn [0] (F_get_token 59 42)) (dVar 48) dL0)))) (dSeq (dIf (dTru (dOp2 oNe (dVar 28) (dComp [20] none 100 (dCall fRange (dL1 (dC (.int 12)) dL0)) (tgV 20) dBt (aEmit (dIte (dTru (dOp2 oEq (dOp2 oItem (dVar 23) (dVar 20)) (dC (.str "(")))) (dOp2 oItem (dVar 47) (dBMeth selStr fCount (dSliceS (dVar 23) none (some (dVar 20))) (dL1 (dC (.str "(")) dL0))) (dC (.str "."))))))) (dSeq (dRet (dC (.bool false))) dNil) dNil) (dSeq (dIf (dTru (dOp2 oNe (dTup (dL1 (dMeth 59 "get_token" (dFn [0] (F_get_token 59 42)) (dVar 48) dL0) (dL1 (dOp2 oItem (dVar 12) (dC (.int 0))) (dL1 (dOp1 (oAttr 59 "lineno") (dVar 48)) dL0)))) (dTup (dL1 (dC (.str "")) (dL1 (dCall (fLenX 143 (dFn [0] (F_alen 143))) (dL1 (dVar 26) dL0)) (dL1 (dOp2 oAdd (dC (.int 1)) (dBMeth selStr fCount (dCall (fStrI 143 (dFn [0] (F_astr 143))) (dL1 (dVar 26) dL0)) (dL1 (dC (.str "\n")) dL0))) dL0)))))) (dSeq (dRet (dC (.bool false))) dNil) dNil) (dSeq (dIf (dTru (dOp2 oNe (dCall (fStrI 143 (dFn [0] (F_astr 143))) (dL1 (dVar 26) dL0)) (dBMeth selStr fJoin (dC (.str "")) (dL1 (dComp [32, 27] (some 143) 100 (dVar 26) (tgT [32, 27]) dBt (aEmit (dOp2 oAdd (dVar 32) (dVar 27)))) dL0)))) (dSeq (dRet (dC (.bool false))) dNil) dNil) (dSeq (dAsgT (tgT [30, 31, 49]) (dCall (dFn [28] F_law_pile) (dL1 (dVar 28) dL0))) (dSeq (dIf (dOr (dTru (dOp2 oNe (dVar 49) (dC (.int 0)))) (dOr (dTru (dOp2 oNeR (dVar 31) (dComp [20] none 100 (dCall fRange (dL1 (dC (.int 12)) dL0)) (tgV 20) (dTru (dOp2 oEq (dOp2 oItem (dVar 23) (dVar 20)) (dC (.str "(")))) (aEmit (dOp2 oSub (dBMeth selStr fCount (dSliceS (dVar 23) none (some (dVar 20))) (dL1 (dC (.str "(")) dL0)) (dBMeth selStr fCount (dSliceS (dVar 23) none (some (dVar 20))) (dL1 (dC (.str ")")) dL0))))))) dBf)) (dSeq (dRet (dC (.bool false))) dNil) dNil) (dSeq (dAsgT (tgT [36, 37, 38, 39, 50]) (dCall (dFn [30] F_law_line) (dL1 (dVar 30) dL0))) (dSeq (dIf (dOr (dTru (dOp2 oNe (dVar 50) (dC (.str ".")))) (dOr (dTru (dOp2 oNeR (dVar 36) (dComp [51, 15] none 100 (dCall fRange (dL1 (dC (.int 6)) dL0)) (tgV 51) dBt (aLoop none 100 (dCall fRange (dL1 (dC (.int 6)) dL0)) (tgV 15) (dTru (dOp2 oEq (dOp2 oItem (dVar 31) (dVar 15)) (dVar 51))) (aEmit (dOp2 oItem (dVar 47) (dVar 15))))))) dBf)) (dSeq (dRet (dC (.bool false))) dNil) dNil) (dSeq (dIf (dTru (dOp2 oNe (dComp [51, 41] none 100 (dCall fRange (dL1 (dCall fLen (dL1 (dVar 37) dL0)) dL0)) (tgV 51) dBt (aLoop none 100 (dCall fRange (dL1 (dOp2 oItem (dVar 37) (dVar 51)) dL0)) (tgV 41) dBt (aEmit (dVar 51)))) (dCall fSorted (dL1 (dVar 31) dL0)))) (dSeq (dRet (dC (.bool false))) dNil) dNil) (dSeq (dIf (dTru (dOp2 oNe (dVar 39) (dCall fLen (dL1 (dComp [52, 15] none 100 (dCall fRange (dL1 (dC (.int 6)) dL0)) (tgV 52) dBt (aLoop none 100 (dCall fRange (dL1 (dVar 52) dL0)) (tgV 15) (dOr (dTru (dOp2 oEq (dOp2 oItem (dVar 31) (dVar 15)) (dOp2 oItem (dVar 31) (dVar 52)))) (dOr (dTru (dOp2 oEq (dOp2 oItem (dVar 31) (dVar 15)) (dOp2 oAdd (dOp2 oItem (dVar 31) (dVar 52)) (dC (.int 1))))) dBf)) (aEmit (dVar 15)))) dL0)))) (dSeq (dRet (dC (.bool false))) dNil) dNil) (dSeq (dRet (dOp2 oEq (dCall (dFn [38] F_law_back) (dL1 (dVar 38) dL0)) (dVar 23))) dNil))))))))))))))))
set_option maxHeartbeats 4000000 in
theorem RF_law (ok : (cx03 w base os mg mb).Ok) (G : G03 mg mb) : RF (cx03 w base os mg mb) 7 215 (dFn [17] F_law) := by
  refine' @RF_def (cx03 w base os mg mb) 6 ok _ _ _ _ _ _ _ _ _ _ _ _ _ _ _ _ [17] ["script"] _ ?hK ?_ (.cons rfl .nil) ?_ ?_ ?_ ?_ ?_ ?_ ?_ ?_ ?_
  case hK => exact rfl
  · kernel_rfl
  · decide
  · intro vs h; obtain ⟨a, rfl⟩ := len1 h; rfl
  · decide
  · decide
  · exact noFree (by decide)
  · rfl
  · rfl
  · rfl
  · intro L
    exact (RS_cons (RS_asgT (RE_tuple (RL_cons (RE_call ok G.law_numbers rfl (by decide) ⟨_, _, rfl, rfl⟩ (RF.up (RF_law_numbers ok G) (by decide)) (RL_cons (RE_Name rfl (by first | exact .inl rfl | exact .inr (.inl rfl) | exact .inr (.inr rfl)) (by decide) (by decide)) RL_nil rfl) rfl) (RL_cons (RE_call0 ok G.law_names rfl (by decide) ⟨_, _, rfl, rfl⟩ (RF.up (RF_law_names ok G) (by decide))) RL_nil rfl) rfl)) (RTg_tuple ok (.cons rfl (by first | exact .inl ⟨rfl, by simp [fa]⟩ | exact .inr ⟨rfl, fun _ h => h⟩) (.cons rfl (by first | exact .inl ⟨rfl, by simp [fa]⟩ | exact .inr ⟨rfl, fun _ h => h⟩) .nil))) rfl rfl) (RS_cons (RS_assign ok rfl (by first | exact .inl rfl | exact .inr rfl) (RE_call ok G.law_drawn rfl (by decide) ⟨_, _, rfl, rfl⟩ (RF.up (RF_law_drawn ok G) (by decide)) (RL_cons (RE_Name rfl (by first | exact .inl rfl | exact .inr (.inl rfl) | exact .inr (.inr rfl)) (by decide) (by decide)) RL_nil rfl) rfl) rfl) (RS_cons (RS_assign ok rfl (by first | exact .inl rfl | exact .inr rfl) (RE_call ok G.law_sheet rfl (by decide) ⟨_, _, rfl, rfl⟩ (RF.up (RF_law_sheet ok G) (by decide)) (RL_cons (RE_Name rfl (by first | exact .inl rfl | exact .inr (.inl rfl) | exact .inr (.inr rfl)) (by decide) (by decide)) (RL_cons (RE_Name rfl (by first | exact .inl rfl | exact .inr (.inl rfl) | exact .inr (.inr rfl)) (by decide) (by decide)) RL_nil rfl) rfl) rfl) rfl) (RS_cons (RS_assign ok rfl (by first | exact .inl rfl | exact .inr rfl) (RE_listM (RL_cons RE_int RL_nil rfl)) rfl) (RS_cons (RS_assign ok rfl (by first | exact .inl rfl | exact .inr rfl) (RE_call ok G.law_lexer rfl (by decide) ⟨_, _, rfl, rfl⟩ (RF.up (RF_lexerL ok G) (by decide)) (RL_cons (RE_tcall ok G.str.1 G.str.2 rfl (by decide) (vStrI ok (by kernel_rfl) (by kernel_rfl) (RF.up (RF_astr ok G) (by decide))) (RL_cons (RE_Name rfl (by first | exact .inl rfl | exact .inr (.inl rfl) | exact .inr (.inr rfl)) (by decide) (by decide)) RL_nil rfl) rfl rfl) (RL_cons (RE_Name rfl (by first | exact .inl rfl | exact .inr (.inl rfl) | exact .inr (.inr rfl)) (by decide) (by decide)) RL_nil rfl) rfl) rfl) rfl) (RS_cons (by first | exact RS_assignComp ok rfl rfl (RComp_one ok subNone 100 (compOk rfl rfl (by decide) rfl rfl) (RE_tcall ok G.range.1 G.range.2 rfl (by decide) vRange (RL_cons RE_int RL_nil rfl) rfl rfl) (fun _ => (RTg_name ok rfl (.inl ⟨rfl, by simp [compEnvC]⟩))) goOk_name (fun _ => RTests_nil) (fun _ => (RE_meth0 ok pcN (by kernel_rfl) (by kernel_rfl) ⟨_, _, rfl, rfl⟩ (RF.up (RF_get_token ok G) (by decide)) (RE_Name rfl (by first | exact .inl rfl | exact .inr (.inl rfl) | exact .inr (.inr rfl)) (by decide) (by decide)) rfl rfl)) (fun _ => rfl)) rfl rfl | exact RS_assign ok rfl (by first | exact .inl rfl | exact .inr rfl) (RE_comp (RComp_one ok subNone 100 (compOk rfl rfl (by decide) rfl rfl) (RE_tcall ok G.range.1 G.range.2 rfl (by decide) vRange (RL_cons RE_int RL_nil rfl) rfl rfl) (fun _ => (RTg_name ok rfl (.inl ⟨rfl, by simp [compEnvC]⟩))) goOk_name (fun _ => RTests_nil) (fun _ => (RE_meth0 ok pcN (by kernel_rfl) (by kernel_rfl) ⟨_, _, rfl, rfl⟩ (RF.up (RF_get_token ok G) (by decide)) (RE_Name rfl (by first | exact .inl rfl | exact .inr (.inl rfl) | exact .inr (.inr rfl)) (by decide) (by decide)) rfl rfl)) (fun _ => rfl)) rfl) rfl) (RS_cons (RS_if (RB_cmp (RE_Name rfl (by first | exact .inl rfl | exact .inr (.inl rfl) | exact .inr (.inr rfl)) (by decide) (by decide)) (RE_comp (RComp_one ok subNone 100 (compOk rfl rfl (by decide) rfl rfl) (RE_tcall ok G.range.1 G.range.2 rfl (by decide) vRange (RL_cons RE_int RL_nil rfl) rfl rfl) (fun _ => (RTg_name ok rfl (.inl ⟨rfl, by simp [compEnvC]⟩))) goOk_name (fun _ => RTests_nil) (fun _ => (RE_ite (RB_cmp (RE_item (RE_Name rfl (by first | exact .inl rfl | exact .inr (.inl rfl) | exact .inr (.inr rfl)) (by decide) (by decide)) (RE_Name rfl (by first | exact .inl rfl | exact .inr (.inl rfl) | exact .inr (.inr rfl)) (by decide) (by decide)) (fun _ _ => rfl)) RE_str rEq) (RE_item (RE_Name rfl (by first | exact .inl rfl | exact .inr (.inl rfl) | exact .inr (.inr rfl)) (by decide) (by decide)) (RE_bmeth (gStr PySem.F.slot_str_count PySem.F.type_str_count) vCount (RE_sliceS (RE_Name rfl (by first | exact .inl rfl | exact .inr (.inl rfl) | exact .inr (.inr rfl)) (by decide) (by decide)) RP_none (@RP_some _ _ _ _ _ (RE_Name rfl (by first | exact .inl rfl | exact .inr (.inl rfl) | exact .inr (.inr rfl)) (by decide) (by decide)))) (RL_cons RE_str RL_nil rfl) rfl rfl rfl rfl) (fun _ _ => rfl)) RE_str)) (fun _ => rfl)) rfl) rNe) (RS_cons (RS_ret RE_bool) RS_nil) RS_nil) (RS_cons (RS_if (RB_cmp (RE_tuple (RL_cons (RE_meth0 ok pcN (by kernel_rfl) (by kernel_rfl) ⟨_, _, rfl, rfl⟩ (RF.up (RF_get_token ok G) (by decide)) (RE_Name rfl (by first | exact .inl rfl | exact .inr (.inl rfl) | exact .inr (.inr rfl)) (by decide) (by decide)) rfl rfl) (RL_cons (RE_item (RE_Name rfl (by first | exact .inl rfl | exact .inr (.inl rfl) | exact .inr (.inr rfl)) (by decide) (by decide)) RE_int (fun _ _ => rfl)) (RL_cons (RE_attr (RE_Name rfl (by first | exact .inl rfl | exact .inr (.inl rfl) | exact .inr (.inr rfl)) (by decide) (by decide)) (rAttr ok pcN (by kernel_rfl) (by kernel_rfl))) RL_nil rfl) rfl) rfl)) (RE_tuple (RL_cons RE_str (RL_cons (RE_bcall ok G.len.1 G.len.2 rfl (by decide) (vLenX ok (by kernel_rfl) (by kernel_rfl) (RF.up (RF_alen ok G) (by decide))) (RL_cons (RE_Name rfl (by first | exact .inl rfl | exact .inr (.inl rfl) | exact .inr (.inr rfl)) (by decide) (by decide)) RL_nil rfl) rfl rfl) (RL_cons (RE_BinOp RE_int (RE_bmeth (gStr PySem.F.slot_str_count PySem.F.type_str_count) vCount (RE_tcall ok G.str.1 G.str.2 rfl (by decide) (vStrI ok (by kernel_rfl) (by kernel_rfl) (RF.up (RF_astr ok G) (by decide))) (RL_cons (RE_Name rfl (by first | exact .inl rfl | exact .inr (.inl rfl) | exact .inr (.inr rfl)) (by decide) (by decide)) RL_nil rfl) rfl rfl) (RL_cons RE_str RL_nil rfl) rfl rfl rfl rfl) rAdd) RL_nil rfl) rfl) rfl)) rNe) (RS_cons (RS_ret RE_bool) RS_nil) RS_nil) (RS_cons (RS_if (RB_cmp (RE_tcall ok G.str.1 G.str.2 rfl (by decide) (vStrI ok (by kernel_rfl) (by kernel_rfl) (RF.up (RF_astr ok G) (by decide))) (RL_cons (RE_Name rfl (by first | exact .inl rfl | exact .inr (.inl rfl) | exact .inr (.inr rfl)) (by decide) (by decide)) RL_nil rfl) rfl rfl) (RE_bmeth (gStr PySem.F.slot_str_join PySem.F.type_str_join) vJoin RE_str (RL_cons (RE_comp (RComp_one ok (@subIter (cx03 w base os mg mb) ok 143 subA) 100 (compOk rfl rfl (by decide) rfl rfl) (RE_Name rfl (by first | exact .inl rfl | exact .inr (.inl rfl) | exact .inr (.inr rfl)) (by decide) (by decide)) (fun _ => (RTg_tuple ok (.cons rfl (.inl ⟨rfl, by simp [compEnvC]⟩) (.cons rfl (.inl ⟨rfl, by simp [compEnvC]⟩) .nil)))) goOk_tuple (fun _ => RTests_nil) (fun _ => (RE_BinOp (RE_Name rfl (by first | exact .inl rfl | exact .inr (.inl rfl) | exact .inr (.inr rfl)) (by decide) (by decide)) (RE_Name rfl (by first | exact .inl rfl | exact .inr (.inl rfl) | exact .inr (.inr rfl)) (by decide) (by decide)) rAdd)) (fun _ => rfl)) rfl) RL_nil rfl) rfl rfl rfl rfl) rNe) (RS_cons (RS_ret RE_bool) RS_nil) RS_nil) (RS_cons (RS_asgT (RE_call ok G.law_pile rfl (by decide) ⟨_, _, rfl, rfl⟩ (RF.up (RF_law_pile ok G) (by decide)) (RL_cons (RE_Name rfl (by first | exact .inl rfl | exact .inr (.inl rfl) | exact .inr (.inr rfl)) (by decide) (by decide)) RL_nil rfl) rfl) (RTg_tuple ok (.cons rfl (by first | exact .inl ⟨rfl, by simp [fa]⟩ | exact .inr ⟨rfl, fun _ h => h⟩) (.cons rfl (by first | exact .inl ⟨rfl, by simp [fa]⟩ | exact .inr ⟨rfl, fun _ h => h⟩) (.cons rfl (by first | exact .inl ⟨rfl, by simp [fa]⟩ | exact .inr ⟨rfl, fun _ h => h⟩) .nil)))) rfl rfl) (RS_cons (RS_if (RB_or (RB_cmp (RE_Name rfl (by first | exact .inl rfl | exact .inr (.inl rfl) | exact .inr (.inr rfl)) (by decide) (by decide)) RE_int rNe) (RB_or (RB_cmp (RE_Name rfl (by first | exact .inl rfl | exact .inr (.inl rfl) | exact .inr (.inr rfl)) (by decide) (by decide)) (RE_comp (RComp_one ok subNone 100 (compOk rfl rfl (by decide) rfl rfl) (RE_tcall ok G.range.1 G.range.2 rfl (by decide) vRange (RL_cons RE_int RL_nil rfl) rfl rfl) (fun _ => (RTg_name ok rfl (.inl ⟨rfl, by simp [compEnvC]⟩))) goOk_name (fun _ => (RTests_one (RB_cmp (RE_item (RE_Name rfl (by first | exact .inl rfl | exact .inr (.inl rfl) | exact .inr (.inr rfl)) (by decide) (by decide)) (RE_Name rfl (by first | exact .inl rfl | exact .inr (.inl rfl) | exact .inr (.inr rfl)) (by decide) (by decide)) (fun _ _ => rfl)) RE_str rEq))) (fun _ => (RE_BinOp (RE_bmeth (gStr PySem.F.slot_str_count PySem.F.type_str_count) vCount (RE_sliceS (RE_Name rfl (by first | exact .inl rfl | exact .inr (.inl rfl) | exact .inr (.inr rfl)) (by decide) (by decide)) RP_none (@RP_some _ _ _ _ _ (RE_Name rfl (by first | exact .inl rfl | exact .inr (.inl rfl) | exact .inr (.inr rfl)) (by decide) (by decide)))) (RL_cons RE_str RL_nil rfl) rfl rfl rfl rfl) (RE_bmeth (gStr PySem.F.slot_str_count PySem.F.type_str_count) vCount (RE_sliceS (RE_Name rfl (by first | exact .inl rfl | exact .inr (.inl rfl) | exact .inr (.inr rfl)) (by decide) (by decide)) RP_none (@RP_some _ _ _ _ _ (RE_Name rfl (by first | exact .inl rfl | exact .inr (.inl rfl) | exact .inr (.inr rfl)) (by decide) (by decide)))) (RL_cons RE_str RL_nil rfl) rfl rfl rfl rfl) rSub)) (fun _ => rfl)) rfl) rNeR) RB_or_nil)) (RS_cons (RS_ret RE_bool) RS_nil) RS_nil) (RS_cons (RS_asgT (RE_call ok G.law_line rfl (by decide) ⟨_, _, rfl, rfl⟩ (RF.up (RF_law_line ok G) (by decide)) (RL_cons (RE_Name rfl (by first | exact .inl rfl | exact .inr (.inl rfl) | exact .inr (.inr rfl)) (by decide) (by decide)) RL_nil rfl) rfl) (RTg_tuple ok (.cons rfl (by first | exact .inl ⟨rfl, by simp [fa]⟩ | exact .inr ⟨rfl, fun _ h => h⟩) (.cons rfl (by first | exact .inl ⟨rfl, by simp [fa]⟩ | exact .inr ⟨rfl, fun _ h => h⟩) (.cons rfl (by first | exact .inl ⟨rfl, by simp [fa]⟩ | exact .inr ⟨rfl, fun _ h => h⟩) (.cons rfl (by first | exact .inl ⟨rfl, by simp [fa]⟩ | exact .inr ⟨rfl, fun _ h => h⟩) (.cons rfl (by first | exact .inl ⟨rfl, by simp [fa]⟩ | exact .inr ⟨rfl, fun _ h => h⟩) .nil)))))) rfl rfl) (RS_cons (RS_if (RB_or (RB_cmp (RE_Name rfl (by first | exact .inl rfl | exact .inr (.inl rfl) | exact .inr (.inr rfl)) (by decide) (by decide)) RE_str rNe) (RB_or (RB_cmp (RE_Name rfl (by first | exact .inl rfl | exact .inr (.inl rfl) | exact .inr (.inr rfl)) (by decide) (by decide)) (RE_comp (RComp_two ok subNone subNone 100 100 (compOk rfl rfl (by decide) rfl rfl) (RE_tcall ok G.range.1 G.range.2 rfl (by decide) vRange (RL_cons RE_int RL_nil rfl) rfl rfl) (fun _ => (RTg_name ok rfl (.inl ⟨rfl, by simp [compEnvC]⟩))) goOk_name (fun _ => RTests_nil) (fun _ => (RE_tcall ok G.range.1 G.range.2 rfl (by decide) vRange (RL_cons RE_int RL_nil rfl) rfl rfl)) (fun _ => (RTg_name ok rfl (.inl ⟨rfl, by simp [compEnvC]⟩))) goOk_name (fun _ => (RTests_one (RB_cmp (RE_item (RE_Name rfl (by first | exact .inl rfl | exact .inr (.inl rfl) | exact .inr (.inr rfl)) (by decide) (by decide)) (RE_Name rfl (by first | exact .inl rfl | exact .inr (.inl rfl) | exact .inr (.inr rfl)) (by decide) (by decide)) (fun _ _ => rfl)) (RE_Name rfl (by first | exact .inl rfl | exact .inr (.inl rfl) | exact .inr (.inr rfl)) (by decide) (by decide)) rEq))) (fun _ => (RE_item (RE_Name rfl (by first | exact .inl rfl | exact .inr (.inl rfl) | exact .inr (.inr rfl)) (by decide) (by decide)) (RE_Name rfl (by first | exact .inl rfl | exact .inr (.inl rfl) | exact .inr (.inr rfl)) (by decide) (by decide)) (fun _ _ => rfl))) (fun _ => rfl) (fun _ _ => rfl)) rfl) rNeR) RB_or_nil)) (RS_cons (RS_ret RE_bool) RS_nil) RS_nil) (RS_cons (RS_if (RB_cmp (RE_comp (RComp_two ok subNone subNone 100 100 (compOk rfl rfl (by decide) rfl rfl) (RE_tcall ok G.range.1 G.range.2 rfl (by decide) vRange (RL_cons (RE_bcall ok G.len.1 G.len.2 rfl (by decide) vLen (RL_cons (RE_Name rfl (by first | exact .inl rfl | exact .inr (.inl rfl) | exact .inr (.inr rfl)) (by decide) (by decide)) RL_nil rfl) rfl rfl) RL_nil rfl) rfl rfl) (fun _ => (RTg_name ok rfl (.inl ⟨rfl, by simp [compEnvC]⟩))) goOk_name (fun _ => RTests_nil) (fun _ => (RE_tcall ok G.range.1 G.range.2 rfl (by decide) vRange (RL_cons (RE_item (RE_Name rfl (by first | exact .inl rfl | exact .inr (.inl rfl) | exact .inr (.inr rfl)) (by decide) (by decide)) (RE_Name rfl (by first | exact .inl rfl | exact .inr (.inl rfl) | exact .inr (.inr rfl)) (by decide) (by decide)) (fun _ _ => rfl)) RL_nil rfl) rfl rfl)) (fun _ => (RTg_name ok rfl (.inl ⟨rfl, by simp [compEnvC]⟩))) goOk_name (fun _ => RTests_nil) (fun _ => (RE_Name rfl (by first | exact .inl rfl | exact .inr (.inl rfl) | exact .inr (.inr rfl)) (by decide) (by decide))) (fun _ => rfl) (fun _ _ => rfl)) rfl) (RE_bcall ok G.sorted.1 G.sorted.2 rfl (by decide) vSorted (RL_cons (RE_Name rfl (by first | exact .inl rfl | exact .inr (.inl rfl) | exact .inr (.inr rfl)) (by decide) (by decide)) RL_nil rfl) rfl rfl) rNe) (RS_cons (RS_ret RE_bool) RS_nil) RS_nil) (RS_cons (RS_if (RB_cmp (RE_Name rfl (by first | exact .inl rfl | exact .inr (.inl rfl) | exact .inr (.inr rfl)) (by decide) (by decide)) (RE_bcall ok G.len.1 G.len.2 rfl (by decide) vLen (RL_cons (RE_comp (RComp_two ok subNone subNone 100 100 (compOk rfl rfl (by decide) rfl rfl) (RE_tcall ok G.range.1 G.range.2 rfl (by decide) vRange (RL_cons RE_int RL_nil rfl) rfl rfl) (fun _ => (RTg_name ok rfl (.inl ⟨rfl, by simp [compEnvC]⟩))) goOk_name (fun _ => RTests_nil) (fun _ => (RE_tcall ok G.range.1 G.range.2 rfl (by decide) vRange (RL_cons (RE_Name rfl (by first | exact .inl rfl | exact .inr (.inl rfl) | exact .inr (.inr rfl)) (by decide) (by decide)) RL_nil rfl) rfl rfl)) (fun _ => (RTg_name ok rfl (.inl ⟨rfl, by simp [compEnvC]⟩))) goOk_name (fun _ => (RTests_one (RB_or (RB_cmp (RE_item (RE_Name rfl (by first | exact .inl rfl | exact .inr (.inl rfl) | exact .inr (.inr rfl)) (by decide) (by decide)) (RE_Name rfl (by first | exact .inl rfl | exact .inr (.inl rfl) | exact .inr (.inr rfl)) (by decide) (by decide)) (fun _ _ => rfl)) (RE_item (RE_Name rfl (by first | exact .inl rfl | exact .inr (.inl rfl) | exact .inr (.inr rfl)) (by decide) (by decide)) (RE_Name rfl (by first | exact .inl rfl | exact .inr (.inl rfl) | exact .inr (.inr rfl)) (by decide) (by decide)) (fun _ _ => rfl)) rEq) (RB_or (RB_cmp (RE_item (RE_Name rfl (by first | exact .inl rfl | exact .inr (.inl rfl) | exact .inr (.inr rfl)) (by decide) (by decide)) (RE_Name rfl (by first | exact .inl rfl | exact .inr (.inl rfl) | exact .inr (.inr rfl)) (by decide) (by decide)) (fun _ _ => rfl)) (RE_BinOp (RE_item (RE_Name rfl (by first | exact .inl rfl | exact .inr (.inl rfl) | exact .inr (.inr rfl)) (by decide) (by decide)) (RE_Name rfl (by first | exact .inl rfl | exact .inr (.inl rfl) | exact .inr (.inr rfl)) (by decide) (by decide)) (fun _ _ => rfl)) RE_int rAdd) rEq) RB_or_nil)))) (fun _ => (RE_Name rfl (by first | exact .inl rfl | exact .inr (.inl rfl) | exact .inr (.inr rfl)) (by decide) (by decide))) (fun _ => rfl) (fun _ _ => rfl)) rfl) RL_nil rfl) rfl rfl) rNe) (RS_cons (RS_ret RE_bool) RS_nil) RS_nil) (RS_cons (RS_ret (RE_Compare (RE_call ok G.law_back rfl (by decide) ⟨_, _, rfl, rfl⟩ (RF.up (RF_law_back ok G) (by decide)) (RL_cons (RE_Name rfl (by first | exact .inl rfl | exact .inr (.inl rfl) | exact .inr (.inr rfl)) (by decide) (by decide)) RL_nil rfl) rfl) (RE_Name rfl (by first | exact .inl rfl | exact .inr (.inl rfl) | exact .inr (.inr rfl)) (by decide) (by decide)) rEq)) RS_nil))))))))))))))))
end
end Mine

namespace Mine
/-! ## plain steps for the laws 03, 04, 01 -/
theorem fmod_nat (j m : Nat) : ((j : Int)).fmod (m : Int) = ((j % m : Nat) : Int) := by
  rw [Int.fmod_eq_emod_of_nonneg _ (Int.natCast_nonneg m)]
  rfl
theorem place_nat {k n : Nat} (h : k < n) (hl : n ≤ 1000) : place (k : Int) n = some k := by
  have h2 : (0 : Int) ≤ (k : Int) := Int.natCast_nonneg k
  have h3 : (k : Int) < n ∧ (k : Int) < 1000000000 := by omega
  simp only [place, h2, h3, and_self, if_true, Int.toNat_natCast]
theorem item_lst {vs : List MV} {k : Nat} {v : MV} {mh : MH} (h : vs[k]? = some v) (hl : vs.length ≤ 1000) : oItem (.lst vs) (.int (k : Int)) mh = some (v, mh) := by
  simp only [oItem, itemAt, place_nat (List.getElem?_eq_some_iff.mp h).1 hl, h]
theorem item_ref {vs : List MV} {i k : Nat} {v : MV} {mh : MH} (hi : mh[i]? = some (.list vs)) (h : vs[k]? = some v) (hl : vs.length ≤ 1000) : oItem (.ref i) (.int (k : Int)) mh = some (v, mh) := by
  simp only [oItem, hi, itemAt, place_nat (List.getElem?_eq_some_iff.mp h).1 hl, h]
theorem item_str {l : List Nat} {k c : Nat} {mh : MH} (h : l[k]? = some c) (hl : l.length ≤ 1000) : oItem (.str (txt l)) (.int (k : Int)) mh = some (.str (ch1 c), mh) := by
  have h1 : k < (txt l).length := (List.getElem?_eq_some_iff.mp h).1
  have h2 : (txt l).cps[k]? = some c := by simpa [txt] using h
  simp only [oItem, place_nat h1 hl, h2]
theorem set_ref {vs : List MV} {i k : Nat} {v : MV} {mh : MH} (hi : mh[i]? = some (.list vs)) (h : k < vs.length) (hl : vs.length ≤ 1000) : setI (.ref i) (.int (k : Int)) v mh = some (mh.set i (.list (vs.set k v))) := by
  have h2 : (0 : Int) ≤ (k : Int) ∧ (k : Int) < vs.length ∧ (k : Int) < 1000000000 := by omega
  simp only [setI, hi, h2, and_self, if_true, Int.toNat_natCast]
theorem mod_ev {j m : Nat} {mh : MH} (hm : 0 < m) : oMod (.int (j : Int)) (.int (m : Int)) mh = some (.int ((j % m : Nat) : Int), mh) := by
  have h : (0 : Int) < m := Int.ofNat_lt.mpr hm
  simp only [oMod, if_pos h, fmod_nat]
theorem loop_step {tg : Tg} {f : DS} {k : ItK} {n j : Nat} {me me1 me2 : ME} {mh mh2 : MH} {v : MV} (h1 : nextOf k mh j = some (some v)) (h2 : tg me mh v = some me1) (h3 : f me1 mh = some (.next, me2, mh2)) : dForLoop tg f k (n + 1) j me mh = dForLoop tg f k n (j + 1) me2 mh2 := by
  simp only [dForLoop, h1, h2, h3]
theorem loop_end {tg : Tg} {f : DS} {k : ItK} {n j : Nat} {me : ME} {mh : MH} (h1 : nextOf k mh j = some none) : dForLoop tg f k (n + 1) j me mh = some (.next, me, mh) := by
  simp only [dForLoop, h1]
theorem rng_in {j m : Nat} {mh : MH} (h : j < m) : nextOf (.rng 0 (m : Int)) mh j = some (some (.int (j : Int))) := by
  have h : (j : Int) < m := Int.ofNat_lt.mpr h
  simp only [nextOf, Int.zero_add, if_pos h]
theorem rng_out {j m : Nat} {mh : MH} (h : ¬ j < m) : nextOf (.rng 0 (m : Int)) mh j = some none := by
  have h : ¬ (j : Int) < m := fun q => h (Int.ofNat_lt.mp q)
  simp only [nextOf, Int.zero_add, if_neg h]
theorem lt_less {a j n : Nat} (h : a - j < n + 1) (hj : j < a) : a - (j + 1) < n := Nat.lt_of_lt_of_le (Nat.sub_succ_lt_self _ _ hj) (Nat.le_of_lt_succ h)
theorem filt_true {α : Type} (l : List α) : l.filter (fun _ => true) = l := List.filter_eq_self.mpr (by simp)
theorem meth_acc {A : Addr} {mh mh1 : MH} {i dd y : Nat} {vs : List MV} {name : Str} {den : DF} {me : ME} {g : DL} {vals : List MV} (hi : mh[i]? = some (.inst A dd (some vs))) (hd : mh[dd]? = some (.attrs accA)) (hn : accA.lookup name = none) (hy : me.lookup y = some (.ref i)) (hg : g me mh = some (vals, mh1)) :
    dMeth A name den (dVar y) g me mh = den (.ref i :: vals) mh1 := by
  simp only [dMeth, dVar, hy, hi, hd, if_true, hn, hg]
theorem count_ch {l : List Nat} {c : Nat} {mh : MH} : fCount [.str (txt l), .str (ch1 c)] mh = some (.int ((l.count c : Nat) : Int), mh) := by
  simp only [fCount]
  rw [count_cnt, cnt_count]
theorem bmeth_str {den : DF} {f : D} {g : DL} {me : ME} {mh mh1 : MH} {l : List Nat} {vs : List MV} (h : f me mh = some (.str (txt l), mh)) (hg : g me mh = some (vs, mh1)) : dBMeth selStr den f g me mh = den (.str (txt l) :: vs) mh1 := by
  have e : selStr (.str (txt l)) mh = true := rfl
  simp only [dBMeth, h, e, if_true, hg]
theorem and_t {a b : DB} {me : ME} {mh mh1 : MH} (h : a me mh = some (true, mh1)) : dAnd a b me mh = b me mh1 := by simp only [dAnd, h]
theorem and_f {a b : DB} {me : ME} {mh mh1 : MH} (h : a me mh = some (false, mh1)) : dAnd a b me mh = some (false, mh1) := by simp only [dAnd, h]
theorem or_f {a b : DB} {me : ME} {mh mh1 : MH} (h : a me mh = some (false, mh1)) : dOr a b me mh = b me mh1 := by simp only [dOr, h]
theorem or_t {a b : DB} {me : ME} {mh mh1 : MH} (h : a me mh = some (true, mh1)) : dOr a b me mh = some (true, mh1) := by simp only [dOr, h]
theorem ite_ev {c : DB} {f g : D} {me : ME} {mh mh1 : MH} {b : Bool} (h : c me mh = some (b, mh1)) : dIte c f g me mh = if b then f me mh1 else g me mh1 := by simp only [dIte, h]
theorem if_ev {c : DB} {f g : DS} {me : ME} {mh mh1 : MH} {b : Bool} (h : c me mh = some (b, mh1)) : dIf c f g me mh = if b then f me mh1 else g me mh1 := by simp only [dIf, h]
theorem asg_ev {x : Nat} {f : D} {me : ME} {mh mh1 : MH} {v : MV} (h : f me mh = some (v, mh1)) : dAsg x f me mh = some (.next, upd me x v, mh1) := by simp only [dAsg, h]
theorem c_ev {v : MV} {me : ME} {mh : MH} : dC v me mh = some (v, mh) := rfl
end Mine

namespace Mine

/-! ## the plain law 03: the numbers, the brackets -/
noncomputable def bNum : DS := (dSeq (dAugI (dVar 19) (dOp2 oMod (dVar 18) (dC (.int 3))) oIAdd (dOp2 oItem (dVar 17) (dVar 18))) dNil)
theorem num_loop (sc : List Int) (hl : sc.length ≤ 63) : ∀ (n j : Nat) (me : ME) (ns : List Int), sc.length - j < n → ns.length = 3 → me.lookup 17 = some (.lst (sc.map .int)) → me.lookup 19 = some (.ref 0) →
    ∃ (me' : ME) (ns' : List Int), ns'.length = 3 ∧ me'.lookup 19 = some (.ref 0) ∧ dForLoop (tgV 18) bNum (.rng 0 sc.length) n j me [.list (ns.map .int)] = some (.next, me', [.list (ns'.map .int)]) := by
  intro n
  induction n with
  | zero => intro j me ns h; exact absurd h (Nat.not_lt_zero _)
  | succ n ih =>
    intro j me ns hn h5 h17 h19
    by_cases hj : j < sc.length
    · have hx : (sc.map MV.int)[j]? = some (.int sc[j]) := by rw [List.getElem?_map, List.getElem?_eq_getElem hj]; rfl
      have hml : j % 3 < ns.length := by rw [h5]; exact Nat.mod_lt _ (by decide)
      have ho : (ns.map MV.int)[j % 3]? = some (.int (ns[j % 3]'hml)) := by
        rw [List.getElem?_map, List.getElem?_eq_getElem hml]; rfl
      have e1 : (upd me 18 (.int (j : Int))).lookup 19 = some (.ref 0) := (lk_ne (by decide)).trans h19
      have e2 : (upd me 18 (.int (j : Int))).lookup 17 = some (.lst (sc.map .int)) := (lk_ne (by decide)).trans h17
      have hb : bNum (upd me 18 (.int (j : Int))) [.list (ns.map .int)] = some (.next, upd me 18 (.int (j : Int)), [.list ((ns.set (j % 3) (ns[j % 3]'hml + sc[j])).map .int)]) := by
        have q1 : oMod (.int (j : Int)) (.int 3) [MO.list (ns.map MV.int)] = some (.int ((j % 3 : Nat) : Int), [MO.list (ns.map MV.int)]) := mod_ev (m := 3) (by decide)
        have q2 := item_ref (i := 0) (mh := [MO.list (ns.map MV.int)]) rfl ho (by rw [List.length_map, h5]; decide)
        have q3 := item_lst (mh := [MO.list (ns.map MV.int)]) hx (by rw [List.length_map]; exact Nat.le_trans hl (by decide))
        have q4 := set_ref (i := 0) (k := j % 3) (v := .int (ns[j % 3]'hml + sc[j])) (mh := [MO.list (ns.map MV.int)]) rfl (by rw [List.length_map]; exact hml) (by rw [List.length_map, h5]; decide)
        simp only [bNum, dSeq, dAugI, dVar, e1, dOp2, e2, lk_self, dC, q1, q2, q3, oIAdd, q4, dNil, List.set_cons_zero, List.map_set]
      obtain ⟨me', ns', h5', h19', e⟩ := ih (j + 1) (upd me 18 (.int (j : Int))) (ns.set (j % 3) (ns[j % 3]'hml + sc[j])) (lt_less hn hj) ((List.length_set ..).trans h5) e2 e1
      exact ⟨me', ns', h5', h19', (loop_step (rng_in hj) rfl hb).trans e⟩
    · exact ⟨me, ns, h5, h19, loop_end (rng_out hj)⟩
theorem num_for (sc : List Int) (hl : sc.length ≤ 63) : ∃ (me' : ME) (ns' : List Int), ns'.length = 3 ∧ me'.lookup 19 = some (.ref 0) ∧
    dFor none 100 (dCall fRange (dL1 (dCall fLen (dL1 (dVar 17) dL0)) dL0)) (tgV 18) bNum [(17, .lst (sc.map .int)), (19, .ref 0)] [.list [.int 4, .int 4, .int 3]] = some (.next, me', [.list (ns'.map .int)]) := by
  obtain ⟨me', ns', h5, h19, e⟩ := num_loop sc hl 100 0 [(17, .lst (sc.map .int)), (19, .ref 0)] [4, 4, 3] (by omega) rfl rfl rfl
  refine ⟨me', ns', h5, h19, ?_⟩
  have e1 : dCall fRange (dL1 (dCall fLen (dL1 (dVar 17) dL0)) dL0) [(17, .lst (sc.map .int)), (19, .ref 0)] [.list [.int 4, .int 4, .int 3]] = some (.rng 0 sc.length, [.list [.int 4, .int 4, .int 3]]) := by
    have q1 : dL1 (dVar 17) dL0 [(17, .lst (sc.map .int)), (19, .ref 0)] [.list [.int 4, .int 4, .int 3]] = some ([.lst (sc.map .int)], [.list [.int 4, .int 4, .int 3]]) := rfl
    have q2 := fLen_lst (vs := sc.map .int) (mh := [.list [.int 4, .int 4, .int 3]]) (by rw [List.length_map]; omega)
    rw [List.length_map] at q2
    exact (call_ev (l1 ((call_ev q1).trans q2) rfl)).trans rfl
  rw [for_rng e1 (by omega)]
  exact e
theorem numbers_ev (sc : List Int) (hl : sc.length ≤ 63) : ∃ a b c : Int, dFn [17] F_law_numbers [.lst (sc.map .int)] [] = some (.ref 0, [.list [.int a, .int b, .int c]]) := by
  obtain ⟨me', ns', h5, h19, e⟩ := num_for sc hl
  match ns', h5, e with
  | [a, b, c], _, e =>
    refine ⟨a, b, c, ?_⟩
    have e0 : F_law_numbers = (dSeq (dAsg 19 (dLstM (dL1 (dC (.int 4)) (dL1 (dC (.int 4)) (dL1 (dC (.int 3)) dL0))))) (dSeq (dFor none 100 (dCall fRange (dL1 (dCall fLen (dL1 (dVar 17) dL0)) dL0)) (tgV 18) bNum) (dSeq (dRet (dVar 19)) dNil))) := rfl
    have e1 : F_law_numbers [(17, .lst (sc.map .int))] [] = some (.ret (.ref 0), me', [.list [.int a, .int b, .int c]]) := by
      rw [e0, seq_asg (v := .ref 0) (mh1 := [.list [.int 4, .int 4, .int 3]]) rfl]
      rw [show upd [(17, .lst (sc.map .int))] 19 (.ref 0) = [(17, .lst (sc.map .int)), (19, .ref 0)] from rfl, seq_next e]
      exact seq_ret (me_dVar h19)
    simp only [dFn, List.length_cons, List.length_nil, if_true, zipE, e1]

/-! ### the brackets -/
noncomputable def textOf (w : List Bool) : MV := .str (txt (w.map fun b => if b then 40 else 41))
noncomputable def dstep (w : List Bool) (shut : Bool) : List Bool := w ++ [!(w.count true == 6 || (shut && Nat.blt w.length (2 * w.count true)))]
noncomputable def shutB (a b c : Int) (s : Nat) : Bool := (([a, b, c].getD (s % 3) 0).fdiv (2 ^ (s / 3))).fmod 2 == 1
noncomputable def dw (a b c : Int) : Nat → List Bool
  | 0 => []
  | s + 1 => dstep (dw a b c s) (shutB a b c s)
theorem dw_len (a b c : Int) : ∀ s, (dw a b c s).length = s
  | 0 => rfl
  | s + 1 => by simp [dw, dstep, dw_len a b c s]
noncomputable def two (w : List Bool) : List (List Bool) := if dstep w false = dstep w true then [dstep w false] else [dstep w false, dstep w true]
noncomputable def wordsN : Nat → List (List Bool)
  | 0 => [[]]
  | n + 1 => (wordsN n).flatMap two
theorem mem_two (w : List Bool) (b : Bool) : dstep w b ∈ two w := by
  unfold two
  split
  · rename_i h
    cases b with
    | false => simp
    | true => simp [h]
  · cases b <;> simp
theorem dw_mem (a b c : Int) : ∀ s, dw a b c s ∈ wordsN s
  | 0 => by simp [dw, wordsN]
  | s + 1 => List.mem_flatMap.mpr ⟨_, dw_mem a b c s, mem_two _ _⟩
theorem cnt_open (w : List Bool) : (w.map fun b => if b then 40 else 41).count 40 = w.count true := by
  induction w with
  | nil => rfl
  | cons x r ih => cases x <;> simp [ih]
theorem s_open : ("(" : Str) = ch1 40 := by kernel_rfl
theorem s_shut : (")" : Str) = ch1 41 := by kernel_rfl
theorem s_dot : ("." : Str) = ch1 46 := by kernel_rfl
noncomputable def dShut : D := (dOp2 oEq (dOp2 oMod (dOp2 oDiv (dOp2 oItem (dVar 19) (dOp2 oMod (dVar 20) (dC (.int 3)))) (dOp2 oPow (dC (.int 2)) (dOp2 oDiv (dVar 20) (dC (.int 3))))) (dC (.int 2))) (dC (.int 1)))
noncomputable def dShutV (v19 v20 : D) : D := (dOp2 oEq (dOp2 oMod (dOp2 oDiv (dOp2 oItem v19 (dOp2 oMod v20 (dC (.int 3)))) (dOp2 oPow (dC (.int 2)) (dOp2 oDiv v20 (dC (.int 3))))) (dC (.int 2))) (dC (.int 1)))
theorem lt12 {k : Nat} (h : k < 12) : k = 0 ∨ k = 1 ∨ k = 2 ∨ k = 3 ∨ k = 4 ∨ k = 5 ∨ k = 6 ∨ k = 7 ∨ k = 8 ∨ k = 9 ∨ k = 10 ∨ k = 11 := (by decide : ∀ k : Fin 12, k.1 = 0 ∨ k.1 = 1 ∨ k.1 = 2 ∨ k.1 = 3 ∨ k.1 = 4 ∨ k.1 = 5 ∨ k.1 = 6 ∨ k.1 = 7 ∨ k.1 = 8 ∨ k.1 = 9 ∨ k.1 = 10 ∨ k.1 = 11) ⟨k, h⟩
theorem shut_fin (a b c : Int) {s : Nat} (hs : s < 12) (me : ME) : dShutV (dC (.ref 0)) (dC (.int (s : Int))) me [.list [.int a, .int b, .int c]] = some (.bool (shutB a b c s), [.list [.int a, .int b, .int c]]) := by
  rcases lt12 hs with rfl | rfl | rfl | rfl | rfl | rfl | rfl | rfl | rfl | rfl | rfl | rfl <;> kernel_rfl
theorem op2_congr {o : Op2} {f f' g g' : D} {me me' : ME} (hf : ∀ mh, f me mh = f' me' mh) (hg : ∀ mh, g me mh = g' me' mh) : ∀ mh, dOp2 o f g me mh = dOp2 o f' g' me' mh := fun mh => by simp only [dOp2, hf, hg]
theorem shut_ev {a b c : Int} {s : Nat} (hs : s < 12) {me : ME} (h19 : me.lookup 19 = some (.ref 0)) (h20 : me.lookup 20 = some (.int (s : Int))) : dShut me [.list [.int a, .int b, .int c]] = some (.bool (shutB a b c s), [.list [.int a, .int b, .int c]]) := by
  have c19 : ∀ mh, dVar 19 me mh = dC (.ref 0) me mh := fun mh => me_dVar h19
  have c20 : ∀ mh, dVar 20 me mh = dC (.int (s : Int)) me mh := fun mh => me_dVar h20
  have e : dShut me [.list [.int a, .int b, .int c]] = dShutV (dC (.ref 0)) (dC (.int (s : Int))) me [.list [.int a, .int b, .int c]] :=
    op2_congr (op2_congr (op2_congr (op2_congr c19 (op2_congr c20 fun _ => rfl)) (op2_congr (fun _ => rfl) (op2_congr c20 fun _ => rfl))) fun _ => rfl) (fun _ => rfl) _
  rw [e, shut_fin a b c hs]
noncomputable def dNext : D := (dIte (dOr (dTru (dOp2 oEq (dVar 21) (dC (.int 6)))) (dOr (dAnd (dTru (dVar 22)) (dAnd (dTru (dOp2 oGt (dOp2 oMul (dC (.int 2)) (dVar 21)) (dVar 20))) dBt)) dBf)) (dC (.str ")")) (dC (.str "(")))
noncomputable def bDrawn : DS := (dSeq (dAsg 21 (dBMeth selStr fCount (dVar 23) (dL1 (dC (.str "(")) dL0))) (dSeq (dAsg 22 dShut) (dSeq (dAugV 23 oIAdd dNext) dNil)))
theorem next_ev {me : ME} {mh : MH} {k s : Nat} {b : Bool} (hk : k ≤ 12) (hs : s < 12) (h21 : me.lookup 21 = some (.int (k : Int))) (h22 : me.lookup 22 = some (.bool b)) (h20 : me.lookup 20 = some (.int (s : Int))) :
    dNext me mh = some (.str (ch1 (if k == 6 || (b && Nat.blt s (2 * k)) then 41 else 40)), mh) := by
  have t1 : dTru (dOp2 oEq (dVar 21) (dC (.int 6))) me mh = some (k == 6, mh) := by
    refine tru_bool ((op2_ev (me_dVar h21) c_ev).trans ((Good.eq (k := 0) (k' := 0) .int .int).trans ?_))
    rw [eqv_int]
    congr 3
    by_cases e : k = 6
    · subst e; rfl
    · have : (k == 6) = false := by simpa using e
      rw [this]
      have : ((k : Int) == 6) = false := by
        simp
        omega
      rw [this]
  have t2 : dTru (dVar 22) me mh = some (b, mh) := tru_bool (me_dVar h22)
  have t3 : dTru (dOp2 oGt (dOp2 oMul (dC (.int 2)) (dVar 21)) (dVar 20)) me mh = some (Nat.blt s (2 * k), mh) := by
    have q1 : dOp2 oMul (dC (.int 2)) (dVar 21) me mh = some (.int ((2 * k : Nat) : Int), mh) := (op2_ev c_ev (me_dVar h21)).trans rfl
    refine tru_bool ((op2_ev q1 (me_dVar h20)).trans ?_)
    by_cases e : s < 2 * k
    · have h2 : Nat.blt s (2 * k) = true := by simpa [Nat.blt_eq] using e
      rw [h2]
      simp [oGt]
      omega
    · have h2 : Nat.blt s (2 * k) = false := by
        cases hb : Nat.blt s (2 * k) with
        | false => rfl
        | true => exact absurd (Nat.blt_eq.mp hb) e
      rw [h2]
      simp [oGt]
      omega
  have t : (dOr (dTru (dOp2 oEq (dVar 21) (dC (.int 6)))) (dOr (dAnd (dTru (dVar 22)) (dAnd (dTru (dOp2 oGt (dOp2 oMul (dC (.int 2)) (dVar 21)) (dVar 20))) dBt)) dBf)) me mh = some (k == 6 || (b && Nat.blt s (2 * k)), mh) := by
    cases e1 : (k == 6) with
    | true => rw [e1] at t1; rw [or_t t1]; rfl
    | false =>
      rw [e1] at t1
      rw [or_f t1]
      cases b with
      | false => rw [or_f (and_f t2)]; rfl
      | true =>
        cases e3 : Nat.blt s (2 * k) with
        | true => rw [e3] at t3; rw [or_t ((and_t t2).trans ((and_t t3).trans rfl))]; rfl
        | false => rw [e3] at t3; rw [or_f ((and_t t2).trans (and_f t3))]; rfl
  unfold dNext
  rw [ite_ev t]
  cases k == 6 || (b && Nat.blt s (2 * k)) with
  | true => rw [if_pos rfl, if_pos rfl, ← s_shut]; rfl
  | false => rw [if_neg Bool.false_ne_true, if_neg Bool.false_ne_true, ← s_open]; rfl
theorem drawn_turn {a b c : Int} {s : Nat} (hs : s < 12) {me : ME} (h19 : me.lookup 19 = some (.ref 0)) (h23 : me.lookup 23 = some (textOf (dw a b c s))) :
    ∃ me2, bDrawn (upd me 20 (.int (s : Int))) [.list [.int a, .int b, .int c]] = some (.next, me2, [.list [.int a, .int b, .int c]]) ∧ me2.lookup 19 = some (.ref 0) ∧ me2.lookup 23 = some (textOf (dw a b c (s + 1))) := by
  have hl := dw_len a b c s
  have hk : (dw a b c s).count true ≤ 12 := Nat.le_trans List.count_le_length (by omega)
  have e1 : dBMeth selStr fCount (dVar 23) (dL1 (dC (.str "(")) dL0) (upd me 20 (.int (s : Int))) [.list [.int a, .int b, .int c]] = some (.int (((dw a b c s).count true : Nat) : Int), [.list [.int a, .int b, .int c]]) := by
    rw [bmeth_str (me_dVar ((lk_ne (by decide)).trans h23)) (l1 c_ev l0), s_open, count_ch, cnt_open]
  have e2 := shut_ev (a := a) (b := b) (c := c) hs (me := upd (upd me 20 (.int (s : Int))) 21 (.int (((dw a b c s).count true : Nat) : Int))) (by rw [lk_ne (by decide), lk_ne (by decide)]; exact h19) (by rw [lk_ne (by decide)]; exact lk_self)
  have e3 := next_ev (mh := [.list [.int a, .int b, .int c]]) (me := upd (upd (upd me 20 (.int (s : Int))) 21 (.int (((dw a b c s).count true : Nat) : Int))) 22 (.bool (shutB a b c s))) hk hs (by rw [lk_ne (by decide)]; exact lk_self) lk_self (by rw [lk_ne (by decide), lk_ne (by decide)]; exact lk_self)
  have e4 := op2_ev (o := oIAdd) (me_dVar (mh := [.list [.int a, .int b, .int c]]) (show (upd (upd (upd me 20 (.int (s : Int))) 21 (.int (((dw a b c s).count true : Nat) : Int))) 22 (.bool (shutB a b c s))).lookup 23 = some (textOf (dw a b c s)) by rw [lk_ne (by decide), lk_ne (by decide), lk_ne (by decide)]; exact h23)) e3
  have e5 := tok_add (mh := [.list [.int a, .int b, .int c]]) (tok := (dw a b c s).map fun b => if b then 40 else 41) (c := (if (dw a b c s).count true == 6 || (shutB a b c s && Nat.blt s (2 * (dw a b c s).count true)) then 41 else 40)) (by rw [List.length_map, hl]; omega)
  refine ⟨upd (upd (upd (upd me 20 (.int (s : Int))) 21 (.int (((dw a b c s).count true : Nat) : Int))) 22 (.bool (shutB a b c s))) 23 (textOf (dw a b c (s + 1))), ?_, ?_, lk_self⟩
  · unfold bDrawn
    rw [seq_asg e1, seq_asg e2, seq_next (s := dAugV 23 oIAdd dNext) (asg_ev (e4.trans e5))]
    simp only [dNil]
    have : textOf (dw a b c (s + 1)) = .str (txt ((dw a b c s).map (fun b => if b then 40 else 41) ++ [if (dw a b c s).count true == 6 || (shutB a b c s && Nat.blt s (2 * (dw a b c s).count true)) then 41 else 40])) := by
      rw [show dw a b c (s + 1) = dw a b c s ++ [!((dw a b c s).count true == 6 || (shutB a b c s && Nat.blt s (2 * (dw a b c s).count true)))] by
        show dstep (dw a b c s) (shutB a b c s) = _
        unfold dstep
        rw [hl]]
      generalize dw a b c s = w
      generalize (w.count true == 6 || (shutB a b c s && Nat.blt s (2 * w.count true))) = x
      unfold textOf
      rw [List.map_append]
      cases x <;> rfl
    rw [this]
  · rw [lk_ne (by decide), lk_ne (by decide), lk_ne (by decide), lk_ne (by decide)]; exact h19
theorem drawn_ev (a b c : Int) : dFn [19] F_law_drawn [.ref 0] [.list [.int a, .int b, .int c]] = some (textOf (dw a b c 12), [.list [.int a, .int b, .int c]]) := by
  obtain ⟨me', ⟨_, h23⟩, e⟩ := forLoop_ix (tg := tgV 20) (f := bDrawn) (k := .rng 0 12) (items := rngI 12) (fun _ => [.list [.int a, .int b, .int c]]) (fun s me => me.lookup 19 = some (.ref 0) ∧ me.lookup 23 = some (textOf (dw a b c s))) (fun j _ => nx_rng (n := 12) j)
    (fun j it me hj P => by
      obtain ⟨hj', rfl⟩ := rngI_get hj
      obtain ⟨me2, e, p1, p2⟩ := drawn_turn (a := a) (b := b) (c := c) hj' P.1 P.2
      exact ⟨_, me2, rfl, .inl e, p1, p2⟩) 100 0 [(19, .ref 0), (23, .str ("" : Str))] (by rw [rngI_len]; decide) (Nat.zero_le _) ⟨rfl, by rw [s_nil]; rfl⟩
  rw [rngI_len] at h23
  have e0 : F_law_drawn = (dSeq (dAsg 23 (dC (.str ""))) (dSeq (dFor none 100 (dCall fRange (dL1 (dC (.int 12)) dL0)) (tgV 20) bDrawn) (dSeq (dRet (dVar 23)) dNil))) := rfl
  have e1 : F_law_drawn [(19, .ref 0)] [.list [.int a, .int b, .int c]] = some (.ret (textOf (dw a b c 12)), me', [.list [.int a, .int b, .int c]]) := by
    rw [e0, seq_asg (c_ev), show upd [(19, MV.ref 0)] 23 (.str ("" : Str)) = [(19, .ref 0), (23, .str ("" : Str))] from rfl]
    rw [seq_next ((for_rng (a := 0) (b := 12) rfl (by decide)).trans e), seq_ret (me_dVar h23)]
  simp only [dFn, List.length_cons, List.length_nil, if_true, zipE, e1]
end Mine

namespace Mine

/-! ## the sheet -/
noncomputable def nm3 : List Nat := [9, 32, 34, 35, 92, 97]
noncomputable def names3 : MV := .lst (nm3.map fun c => .str (txt [c]))
/-- names ahead of place s -/
noncomputable def kat (w : List Bool) (s : Nat) : Nat := (w.take s).count true
/-- the sign at place s -/
noncomputable def ltr (w : List Bool) (s : Nat) : Nat := if w.getD s false then nm3.getD (kat w s) 0 else 46
noncomputable def wr (c m : Nat) : List Nat := if m < 2 then [92, c, if m = 0 then 32 else 10] else if m = 3 ∧ c ≠ 34 ∧ c ≠ 92 then [34, c, 34] else [34, 92, c, 34]
noncomputable def mI (a b c : Int) (s : Nat) : Int := (([a, b, c].getD (s % 3) 0).fdiv 16 + s).fmod 4
noncomputable def mann (a b c : Int) (s : Nat) : Nat := (mI a b c s).toNat
theorem mann_i (a b c : Int) (s : Nat) : mI a b c s = ((mann a b c s : Nat) : Int) := (Int.toNat_of_nonneg (Int.fmod_nonneg_of_pos _ (by decide))).symm
theorem mann_lt (a b c : Int) (s : Nat) : mann a b c s < 4 := by
  have h := Int.fmod_lt_of_pos (([a, b, c].getD (s % 3) 0).fdiv 16 + s) (show (0 : Int) < 4 by decide)
  have h2 : mI a b c s < 4 := h
  rw [mann_i] at h2
  exact Int.ofNat_lt.mp h2
noncomputable def bl (s : Nat) : Nat := if s % 2 = 0 then 32 else 10
noncomputable def wrd (w : List Bool) (a b c : Int) (s : Nat) : List Nat := if w.getD s false then wr (ltr w s) (mann a b c s) else [46]
noncomputable def rowS (w : List Bool) (a b c : Int) (s : Nat) : List Nat × List Nat := ([bl s], wrd w a b c s)
noncomputable def rowsW (w : List Bool) (a b c : Int) : List (List Nat × List Nat) := (List.range 12).map (rowS w a b c)
noncomputable def okW (w : List Bool) : Bool := w.length == 12 && (List.range 12).all fun s => !(w.getD s false) || Nat.blt (kat w s) 6
theorem words_ok : ∀ w ∈ wordsN 12, okW w = true := by decide +kernel
structure OkW (w : List Bool) : Prop where
  len : w.length = 12
  lt : ∀ s, s < 12 → w.getD s false = true → kat w s < 6
theorem okW_of {w : List Bool} (h : w ∈ wordsN 12) : OkW w := by
  have := words_ok w h
  unfold okW at this
  rw [Bool.and_eq_true, List.all_eq_true] at this
  refine ⟨by simpa using this.1, fun s hs hw => ?_⟩
  have h2 := this.2 s (List.mem_range.mpr hs)
  rw [hw] at h2
  simpa [Nat.blt_eq] using h2
theorem lt6 {k : Nat} (h : k < 6) : k = 0 ∨ k = 1 ∨ k = 2 ∨ k = 3 ∨ k = 4 ∨ k = 5 := (by decide : ∀ k : Fin 6, k.1 = 0 ∨ k.1 = 1 ∨ k.1 = 2 ∨ k.1 = 3 ∨ k.1 = 4 ∨ k.1 = 5) ⟨k, h⟩
theorem lt4 {k : Nat} (h : k < 4) : k = 0 ∨ k = 1 ∨ k = 2 ∨ k = 3 := (by decide : ∀ k : Fin 4, k.1 = 0 ∨ k.1 = 1 ∨ k.1 = 2 ∨ k.1 = 3) ⟨k, h⟩
theorem written_ev {k m : Nat} (hk : k < 6) (hm : m < 4) (mh : MH) : dFn [24, 25] F_law_written [.str (txt [nm3.getD k 0]), .int (m : Int)] mh = some (.str (txt (wr (nm3.getD k 0) m)), mh) := by
  rcases lt6 hk with rfl | rfl | rfl | rfl | rfl | rfl <;> rcases lt4 hm with rfl | rfl | rfl | rfl <;> kernel_rfl
theorem names_ev (mh : MH) : dFn [] F_law_names [] mh = some (names3, mh) := by kernel_rfl
theorem blank_ev {s : Nat} (hs : s < 12) (mh : MH) : dOp2 oItem (dC (.str " \n")) (dOp2 oMod (dC (.int (s : Int))) (dC (.int 2))) [] mh = some (.str (txt [bl s]), mh) := by
  rcases lt12 hs with rfl | rfl | rfl | rfl | rfl | rfl | rfl | rfl | rfl | rfl | rfl | rfl <;> kernel_rfl
noncomputable def dManV (v19 v20 : D) : D := (dOp2 oMod (dOp2 oAdd (dOp2 oDiv (dOp2 oItem v19 (dOp2 oMod v20 (dC (.int 3)))) (dC (.int 16))) v20) (dC (.int 4)))
theorem man_fin (a b c : Int) {s : Nat} (hs : s < 12) (x y : MO) (me : ME) : dManV (dC (.ref 0)) (dC (.int (s : Int))) me [.list [.int a, .int b, .int c], x, y] = some (.int (mI a b c s), [.list [.int a, .int b, .int c], x, y]) := by
  rcases lt12 hs with rfl | rfl | rfl | rfl | rfl | rfl | rfl | rfl | rfl | rfl | rfl | rfl <;> kernel_rfl
noncomputable def dBlank : D := (dOp2 oItem (dC (.str " \n")) (dOp2 oMod (dVar 20) (dC (.int 2))))
noncomputable def dIs : DB := (dTru (dOp2 oEq (dOp2 oItem (dVar 23) (dVar 20)) (dC (.str "("))))
noncomputable def dWr : D := (dCall (dFn [24, 25] F_law_written) (dL1 (dOp2 oItem (dCall (dFn [] F_law_names) dL0) (dVar 21)) (dL1 (dManV (dVar 19) (dVar 20)) dL0)))
noncomputable def bSheet : DS := (dSeq (dAsg 27 (dC (.str "."))) (dSeq (dIf dIs (dSeq (dAsg 27 dWr) (dSeq (dAugV 21 oIAdd (dC (.int 1))) dNil)) dNil) (dSeq (dExprN (dMeth 143 "push" (dFn [0, 2, 3] (F_push 143)) (dVar 26) (dL1 dBlank (dL1 (dVar 27) dL0)))) dNil)))
section
variable {w : List Bool} {a b c : Int} {s : Nat} (W : OkW w) (hs : s < 12)
include W hs
theorem get_b : w[s]? = some (w.getD s false) := by
  have : s < w.length := by rw [W.len]; exact hs
  rw [List.getD_eq_getElem?_getD, List.getElem?_eq_getElem this]; rfl
theorem kat_succ : kat w (s + 1) = kat w s + if w.getD s false then 1 else 0 := by
  have h := get_b W hs
  unfold kat
  rw [List.take_succ, h]
  cases w.getD s false <;> simp
theorem is_ev {me : ME} {mh : MH} (h23 : me.lookup 23 = some (textOf w)) (h20 : me.lookup 20 = some (.int (s : Int))) : dIs me mh = some (w.getD s false, mh) := by
  have h := get_b W hs
  have e1 : (w.map fun b => if b then 40 else 41)[s]? = some (if w.getD s false then 40 else 41) := by rw [List.getElem?_map, h]; rfl
  have e2 := (op2_ev (o := oItem) (me_dVar (mh := mh) h23) (me_dVar (mh := mh) h20)).trans (item_str e1 (by rw [List.length_map, W.len]; decide))
  have e3 := op2_ev (o := oEq) e2 (c_ev (v := .str "(") (mh := mh))
  rw [s_open] at e3
  refine tru_bool (e3.trans ?_)
  cases w.getD s false with
  | true => exact (Good.eq (k := 0) (k' := 0) (.str (l := [40]) (by decide)) (.str (l := [40]) (by decide))).trans (by rw [eqv_str]; rfl)
  | false => exact (Good.eq (k := 0) (k' := 0) (.str (l := [41]) (by decide)) (.str (l := [40]) (by decide))).trans (by rw [eqv_str]; rfl)
theorem wr_ev {me : ME} {x y : MO} (hw : w.getD s false = true) (h19 : me.lookup 19 = some (.ref 0)) (h20 : me.lookup 20 = some (.int (s : Int))) (h21 : me.lookup 21 = some (.int (kat w s : Nat))) : dWr me [.list [.int a, .int b, .int c], x, y] = some (.str (txt (wrd w a b c s)), [.list [.int a, .int b, .int c], x, y]) := by
  have hk := W.lt s hs hw
  have e1 : dOp2 oItem (dCall (dFn [] F_law_names) dL0) (dVar 21) me [.list [.int a, .int b, .int c], x, y] = some (.str (txt [nm3.getD (kat w s) 0]), [.list [.int a, .int b, .int c], x, y]) := by
    refine (op2_ev ((call_ev (l0 (me := me))).trans (names_ev _)) (me_dVar h21)).trans (item_lst ?_ (by decide))
    have : kat w s < nm3.length := hk
    rw [List.getElem?_map, List.getD_eq_getElem?_getD, List.getElem?_eq_getElem this]; rfl
  have e2 : dManV (dVar 19) (dVar 20) me [.list [.int a, .int b, .int c], x, y] = some (.int (mann a b c s : Nat), [.list [.int a, .int b, .int c], x, y]) := by
    have c19 : ∀ mh, dVar 19 me mh = dC (.ref 0) me mh := fun mh => me_dVar h19
    have c20 : ∀ mh, dVar 20 me mh = dC (.int (s : Int)) me mh := fun mh => me_dVar h20
    have e : dManV (dVar 19) (dVar 20) me [.list [.int a, .int b, .int c], x, y] = dManV (dC (.ref 0)) (dC (.int (s : Int))) me [.list [.int a, .int b, .int c], x, y] :=
      op2_congr (op2_congr (op2_congr (op2_congr c19 (op2_congr c20 fun _ => rfl)) fun _ => rfl) c20) (fun _ => rfl) _
    rw [e, man_fin a b c hs, mann_i]
  have e3 := (call_ev (den := dFn [24, 25] F_law_written) (l1 e1 (l1 e2 l0))).trans (written_ev hk (mann_lt a b c s) _)
  unfold dWr wrd ltr
  rw [e3, hw]
  rfl
theorem sheet_turn {A : MO} {me : ME} {rs : List MV} (hrs : rs.length = s) (hA : A = .list [.int a, .int b, .int c]) (h23 : me.lookup 23 = some (textOf w)) (h19 : me.lookup 19 = some (.ref 0)) (h26 : me.lookup 26 = some (.ref 2)) (h21 : me.lookup 21 = some (.int (kat w s : Nat))) :
    ∃ me2, bSheet (upd me 20 (.int (s : Int))) [A, .attrs accA, .inst 143 1 (some rs)] = some (.next, me2, [A, .attrs accA, .inst 143 1 (some (rs ++ [rowM (rowS w a b c s)]))]) ∧
      me2.lookup 23 = some (textOf w) ∧ me2.lookup 19 = some (.ref 0) ∧ me2.lookup 26 = some (.ref 2) ∧ me2.lookup 21 = some (.int (kat w (s + 1) : Nat)) := by
  subst hA
  have push : ∀ me3 : ME, me3.lookup 20 = some (.int (s : Int)) → me3.lookup 26 = some (.ref 2) → me3.lookup 27 = some (.str (txt (wrd w a b c s))) →
      dSeq (dExprN (dMeth 143 "push" (dFn [0, 2, 3] (F_push 143)) (dVar 26) (dL1 dBlank (dL1 (dVar 27) dL0)))) dNil me3 [.list [.int a, .int b, .int c], .attrs accA, .inst 143 1 (some rs)] = some (.next, me3, [.list [.int a, .int b, .int c], .attrs accA, .inst 143 1 (some (rs ++ [rowM (rowS w a b c s)]))]) := fun me3 p20 p26 p27 => by
    have b1 : dBlank me3 [.list [.int a, .int b, .int c], .attrs accA, .inst 143 1 (some rs)] = some (.str (txt [bl s]), [.list [.int a, .int b, .int c], .attrs accA, .inst 143 1 (some rs)]) :=
      (op2_congr (o := oItem) (me := me3) (me' := []) (f := dC (.str " \n")) (f' := dC (.str " \n")) (g := dOp2 oMod (dVar 20) (dC (.int 2))) (g' := dOp2 oMod (dC (.int (s : Int))) (dC (.int 2))) (fun _ => rfl) (op2_congr (fun mh => me_dVar p20) fun _ => rfl) _).trans (blank_ev hs _)
    have e2 := push_ev (A := 143) (mh := [.list [.int a, .int b, .int c], .attrs accA, .inst 143 1 (some rs)]) (i := 2) (dd := 1) (a := .str (txt [bl s])) (b := .str (txt (wrd w a b c s))) rfl rfl (by rw [hrs]; omega)
    have e5 := (meth_acc (name := "push") (den := dFn [0, 2, 3] (F_push 143)) rfl rfl accA_push p26 (l1 b1 (l1 (me_dVar p27) l0))).trans e2
    simp only [dSeq, dExprN, e5, dNil]
    rfl
  have q20 : ∀ {x : Nat} {v : MV} {me1 : ME}, x ≠ 20 → me1.lookup 20 = some (.int (s : Int)) → (upd me1 x v).lookup 20 = some (.int (s : Int)) := fun hx h => (lk_ne (Ne.symm hx)).trans h
  cases hw : w.getD s false with
  | true =>
    have i1 := is_ev W hs (me := upd (upd me 20 (.int (s : Int))) 27 (.str ".")) (mh := [.list [.int a, .int b, .int c], .attrs accA, .inst 143 1 (some rs)]) (by rw [lk_ne (by decide), lk_ne (by decide)]; exact h23) (by rw [lk_ne (by decide)]; exact lk_self)
    rw [hw] at i1
    have i2 := wr_ev (a := a) (b := b) (c := c) W hs (me := upd (upd me 20 (.int (s : Int))) 27 (.str ".")) (x := .attrs accA) (y := .inst 143 1 (some rs)) hw (by rw [lk_ne (by decide), lk_ne (by decide)]; exact h19) (by rw [lk_ne (by decide)]; exact lk_self) (by rw [lk_ne (by decide), lk_ne (by decide)]; exact h21)
    have i3 : dAugV 21 oIAdd (dC (.int 1)) (upd (upd (upd me 20 (.int (s : Int))) 27 (.str ".")) 27 (.str (txt (wrd w a b c s)))) [.list [.int a, .int b, .int c], .attrs accA, .inst 143 1 (some rs)] = some (.next, upd (upd (upd (upd me 20 (.int (s : Int))) 27 (.str ".")) 27 (.str (txt (wrd w a b c s)))) 21 (.int ((kat w s + 1 : Nat) : Int)), [.list [.int a, .int b, .int c], .attrs accA, .inst 143 1 (some rs)]) :=
      asg_ev ((op2_ev (me_dVar (by rw [lk_ne (by decide), lk_ne (by decide), lk_ne (by decide)]; exact h21)) c_ev).trans rfl)
    refine ⟨upd (upd (upd (upd me 20 (.int (s : Int))) 27 (.str ".")) 27 (.str (txt (wrd w a b c s)))) 21 (.int ((kat w s + 1 : Nat) : Int)), ?_, ?_, ?_, ?_, ?_⟩
    · unfold bSheet
      rw [seq_asg c_ev]
      have j1 : dIf dIs (dSeq (dAsg 27 dWr) (dSeq (dAugV 21 oIAdd (dC (.int 1))) dNil)) dNil (upd (upd me 20 (.int (s : Int))) 27 (.str ".")) [.list [.int a, .int b, .int c], .attrs accA, .inst 143 1 (some rs)] = some (.next, upd (upd (upd (upd me 20 (.int (s : Int))) 27 (.str ".")) 27 (.str (txt (wrd w a b c s)))) 21 (.int ((kat w s + 1 : Nat) : Int)), [.list [.int a, .int b, .int c], .attrs accA, .inst 143 1 (some rs)]) := by
        rw [if_ev i1, if_pos rfl, seq_asg i2, seq_next i3]
        rfl
      rw [seq_next j1]
      exact push _ (by rw [lk_ne (by decide), lk_ne (by decide), lk_ne (by decide)]; exact lk_self) (by rw [lk_ne (by decide), lk_ne (by decide), lk_ne (by decide), lk_ne (by decide)]; exact h26) (by rw [lk_ne (by decide)]; exact lk_self)
    · rw [lk_ne (by decide), lk_ne (by decide), lk_ne (by decide), lk_ne (by decide)]; exact h23
    · rw [lk_ne (by decide), lk_ne (by decide), lk_ne (by decide), lk_ne (by decide)]; exact h19
    · rw [lk_ne (by decide), lk_ne (by decide), lk_ne (by decide), lk_ne (by decide)]; exact h26
    · rw [lk_self, kat_succ W hs, hw, if_pos rfl]
  | false =>
    have i1 := is_ev W hs (me := upd (upd me 20 (.int (s : Int))) 27 (.str ".")) (mh := [.list [.int a, .int b, .int c], .attrs accA, .inst 143 1 (some rs)]) (by rw [lk_ne (by decide), lk_ne (by decide)]; exact h23) (by rw [lk_ne (by decide)]; exact lk_self)
    rw [hw] at i1
    have hd : wrd w a b c s = [46] := by unfold wrd; rw [hw]; rfl
    refine ⟨upd (upd me 20 (.int (s : Int))) 27 (.str "."), ?_, ?_, ?_, ?_, ?_⟩
    · unfold bSheet
      rw [seq_asg c_ev]
      have j1 : dIf dIs (dSeq (dAsg 27 dWr) (dSeq (dAugV 21 oIAdd (dC (.int 1))) dNil)) dNil (upd (upd me 20 (.int (s : Int))) 27 (.str ".")) [.list [.int a, .int b, .int c], .attrs accA, .inst 143 1 (some rs)] = some (.next, upd (upd me 20 (.int (s : Int))) 27 (.str "."), [.list [.int a, .int b, .int c], .attrs accA, .inst 143 1 (some rs)]) := by
        rw [if_ev i1]
        rfl
      rw [seq_next j1]
      exact push _ (by rw [lk_ne (by decide)]; exact lk_self) (by rw [lk_ne (by decide), lk_ne (by decide)]; exact h26) (by rw [lk_self, hd, s_dot])
    · rw [lk_ne (by decide), lk_ne (by decide)]; exact h23
    · rw [lk_ne (by decide), lk_ne (by decide)]; exact h19
    · rw [lk_ne (by decide), lk_ne (by decide)]; exact h26
    · rw [lk_ne (by decide), lk_ne (by decide), kat_succ W hs, hw]; exact h21
end
theorem take_rows {w : List Bool} {a b c : Int} {s : Nat} (hs : s < 12) : ((rowsW w a b c).map rowM).take s ++ [rowM (rowS w a b c s)] = ((rowsW w a b c).map rowM).take (s + 1) := by
  have h : ((rowsW w a b c).map rowM)[s]? = some (rowM (rowS w a b c s)) := by
    unfold rowsW
    rw [List.getElem?_map, List.getElem?_map, List.getElem?_range hs]; rfl
  rw [List.take_add_one, h]; rfl
theorem rowsW_len (w : List Bool) (a b c : Int) : (rowsW w a b c).length = 12 := by unfold rowsW; rw [List.length_map, List.length_range]
theorem sheet_ev {w : List Bool} {a b c : Int} (W : OkW w) : dFn [23, 19] F_law_sheet [textOf w, .ref 0] [.list [.int a, .int b, .int c]] = some (.ref 2, [.list [.int a, .int b, .int c], .attrs accA, .inst 143 1 (some ((rowsW w a b c).map rowM))]) := by
  obtain ⟨me', P, e⟩ := forLoop_ix (tg := tgV 20) (f := bSheet) (k := .rng 0 12) (items := rngI 12) (fun s => [.list [.int a, .int b, .int c], .attrs accA, .inst 143 1 (some (((rowsW w a b c).map rowM).take s))])
    (fun s me => me.lookup 23 = some (textOf w) ∧ me.lookup 19 = some (.ref 0) ∧ me.lookup 26 = some (.ref 2) ∧ me.lookup 21 = some (.int (kat w s : Nat))) (fun j _ => nx_rng (n := 12) j)
    (fun j it me hj P => by
      obtain ⟨hj', rfl⟩ := rngI_get hj
      obtain ⟨me2, e, p⟩ := sheet_turn W hj' (a := a) (b := b) (c := c) (rs := ((rowsW w a b c).map rowM).take j) (by rw [List.length_take, List.length_map, rowsW_len]; omega) rfl P.1 P.2.1 P.2.2.1 P.2.2.2
      rw [take_rows hj'] at e
      exact ⟨_, me2, rfl, .inl e, p⟩) 100 0 [(23, textOf w), (19, .ref 0), (21, .int 0), (26, .ref 2)] (by rw [rngI_len]; decide) (Nat.zero_le _) ⟨rfl, rfl, rfl, rfl⟩
  rw [rngI_len] at P e
  have e0 : F_law_sheet = (dSeq (dAsgT (tgTR [26, 21]) (dTup (dL1 (dCall (fMakeL 143 (fInitAcc 143)) dL0) (dL1 (dC (.int 0)) dL0)))) (dSeq (dFor none 100 (dCall fRange (dL1 (dC (.int 12)) dL0)) (tgV 20) bSheet) (dSeq (dRet (dVar 26)) dNil))) := rfl
  have a1 : dAsgT (tgTR [26, 21]) (dTup (dL1 (dCall (fMakeL 143 (fInitAcc 143)) dL0) (dL1 (dC (.int 0)) dL0))) [(23, textOf w), (19, .ref 0)] [.list [.int a, .int b, .int c]] =
      some (.next, [(23, textOf w), (19, .ref 0), (21, .int 0), (26, .ref 2)], [.list [.int a, .int b, .int c], .attrs accA, .inst 143 1 (some [])]) := by
    have b2 := (call_ev (den := fMakeL 143 (fInitAcc 143)) (l0 (me := [(23, textOf w), (19, .ref 0)]) (mh := [.list [.int a, .int b, .int c]]))).trans makeA_ev
    have b3 := tup_ev (l1 b2 (l1 (c_ev (v := .int 0)) l0)) (by simp)
    simp only [dAsgT, b3]
    rfl
  have full : ((rowsW w a b c).map rowM).take 12 = (rowsW w a b c).map rowM := List.take_of_length_le (by rw [List.length_map, rowsW_len]; decide)
  rw [full] at e
  have e1 : F_law_sheet [(23, textOf w), (19, .ref 0)] [.list [.int a, .int b, .int c]] = some (.ret (.ref 2), me', [.list [.int a, .int b, .int c], .attrs accA, .inst 143 1 (some ((rowsW w a b c).map rowM))]) := by
    rw [e0, seq_next a1, seq_next ((for_rng (a := 0) (b := 12) rfl (by decide)).trans e)]
    exact seq_ret (me_dVar P.2.2.1)
  simp only [dFn, List.length_cons, List.length_nil, if_true, zipE, e1]
end Mine

namespace Mine

/-! ## the reading of the sheet -/
/-- words read off one after the other, the last one perhaps at the text's end -/
inductive Lexes (tail : List Nat) : List (List Nat × List Nat) → Prop where
  | nil : Lexes tail []
  | cons {p : List Nat × List Nat} {ps : List (List Nat × List Nat)} : LexT (p.1 ++ ((ps.map (·.1)).flatten ++ tail)) p.2 ((ps.map (·.1)).flatten ++ tail) → Lexes tail ps → Lexes tail (p :: ps)
theorem lex_comp2 {N rc : Addr} {mh : MH} {i dd t pb p0 : Nat} {l0 : List Nat} {L0 : Int} (h : LexAt N mh i dd t pb (txt l0) p0 L0) (h1 : pb ≠ dd) (h2 : pb ≠ t) (hT : l0.length ≤ 900) (hc : ∀ c ∈ l0, c < 128) (hpb : mh[pb]? = some (.list [])) {x y m : Nat} (hxy : y ≠ x) (tail : List Nat)
    {ps : List (List Nat × List Nat)} (hp : Lexes tail ps) : ∀ (n j : Nat) (acc : List MV) (me : ME) (junk : MH) (L : Int), ((ps.map (·.1)).flatten ++ tail) <:+ l0 → ps.length < n → j + ps.length = m → acc.length + ps.length ≤ 1000 → me.lookup y = some (.ref i) →
      ∃ me' junk', dCompLoop (tgV x) dBt (aEmit (dMeth N "get_token" (dFn [0] (F_get_token N rc)) (dVar y) dL0)) (.rng 0 (m : Int)) n j acc me (lexSet mh dd t pb (txt l0) (l0.length - ((ps.map (·.1)).flatten ++ tail).length) L ++ junk) =
        some (acc ++ ps.map (fun p => .str (txt p.2)), me', lexSet mh dd t pb (txt l0) (l0.length - tail.length) (L + nls ((ps.map (·.1)).flatten ++ tail) - nls tail) ++ (junk ++ junk')) ∧ ∃ css : List (Option Nat), junk' = css.map (MO.citer rc) ∧ css.length = ps.length := by
  induction hp with
  | nil =>
    intro n j acc me junk L hs hn hj hl hy
    cases n with
    | zero => omega
    | succ n =>
      refine ⟨me, [], ?_, [], rfl, rfl⟩
      have hjm : j = m := hj
      simp only [dCompLoop, rng_out (show ¬ j < m by omega)]
      simp only [List.map_nil, List.flatten_nil, List.nil_append, List.append_nil]
      rw [show L + nls tail - nls tail = L by omega]
  | @cons p ps hx _ ih =>
    intro n j acc me junk L hs hn hj hl hy
    cases n with
    | zero => omega
    | succ n =>
      simp only [List.map_cons, List.flatten_cons, List.append_assoc, List.length_cons] at hs hj hn hl ⊢
      obtain ⟨q, cs, e⟩ := get_token_at (rc := rc) (junk := junk) (L := L) h h1 h2 hT hc hs hpb hx
      have hy' : (upd me x (.int (j : Int))).lookup y = some (.ref i) := by rw [lk_ne hxy]; exact hy
      obtain ⟨me', junk', e2, css, e3, e4⟩ := ih n (j + 1) (acc ++ [.str (txt p.2)]) (upd me x (.int (j : Int))) (junk ++ [.citer rc cs]) (L + nls (p.1 ++ ((ps.map (·.1)).flatten ++ tail)) - nls ((ps.map (·.1)).flatten ++ tail)) q (by omega) (by omega) (by rw [List.length_append]; show acc.length + 1 + ps.length ≤ 1000; omega) hy'
      refine ⟨me', .citer rc cs :: junk', ?_, cs :: css, by simp [e3], by simp [e4]⟩
      have hg := meth_gt (rc := rc) ((h.set (l0.length - (p.1 ++ ((ps.map (·.1)).flatten ++ tail)).length) L).app junk) hy'
      have hA : acc.length ≤ 100000 := by omega
      simp only [dCompLoop, rng_in (show j < m by omega), tgV, dBt, aEmit, hg, e, hA, if_true]
      rw [e2]
      have e5 : L + nls (p.1 ++ ((ps.map (·.1)).flatten ++ tail)) - nls ((ps.map (·.1)).flatten ++ tail) + nls ((ps.map (·.1)).flatten ++ tail) - nls tail = L + nls (p.1 ++ ((ps.map (·.1)).flatten ++ tail)) - nls tail := by omega
      rw [e5]
      simp

noncomputable def hdB : List Nat → List Nat
  | [] => []
  | s :: _ => [bl s]
/-- what each get_token takes off the text: a plain full stop takes the next blank with it -/
noncomputable def segs (w : List Bool) (a b c : Int) : Bool → List Nat → List (List Nat × List Nat)
  | _, [] => []
  | e, s :: r => ((if e then [] else [bl s]) ++ (wrd w a b c s ++ (if w.getD s false then [] else hdB r)), [ltr w s]) :: segs w a b c (!(w.getD s false)) r
theorem segs_flat (w : List Bool) (a b c : Int) : ∀ (l : List Nat) (e : Bool), (if e then hdB l else []) ++ ((segs w a b c e l).map (·.1)).flatten = (l.map fun s => bl s :: wrd w a b c s).flatten
  | [], e => by cases e <;> rfl
  | s :: r, e => by
    have ih := segs_flat w a b c r (!(w.getD s false))
    simp only [segs, List.map_cons, List.flatten_cons]
    rw [← ih]
    cases w.getD s false <;> cases e <;> simp [hdB]
theorem segs_tok (w : List Bool) (a b c : Int) : ∀ (l : List Nat) (e : Bool), (segs w a b c e l).map (fun p => MV.str (txt p.2)) = l.map fun s => .str (txt [ltr w s])
  | [], _ => rfl
  | s :: r, e => by simp only [segs, List.map_cons, segs_tok w a b c r]
theorem segs_len (w : List Bool) (a b c : Int) : ∀ (l : List Nat) (e : Bool), (segs w a b c e l).length = l.length
  | [], _ => rfl
  | s :: r, e => by simp only [segs, List.length_cons, segs_len w a b c r]
theorem bl_ws (s : Nat) : isWs (bl s) = true := by unfold bl; split <;> rfl
theorem wr_lex (c m : Nat) (r : List Nat) : LexT (wr c m ++ r) [c] r := by
  unfold wr
  split
  · refine .esc (b := false) (.close ?_)
    split <;> rfl
  · split
    · rename_i h
      exact .quote (.plain h.2.1 h.2.2 .close)
    · exact .quote (.esc .close)
theorem segs_lex (w : List Bool) (a b c : Int) : ∀ (l : List Nat) (e : Bool), Lexes [] (segs w a b c e l)
  | [], _ => .nil
  | s :: r, e => by
    refine .cons ?_ (segs_lex w a b c r _)
    have key : LexT (wrd w a b c s ++ (if w.getD s false then [] else hdB r) ++ (((segs w a b c (!(w.getD s false)) r).map (·.1)).flatten ++ [])) [ltr w s] (((segs w a b c (!(w.getD s false)) r).map (·.1)).flatten ++ []) := by
      unfold wrd ltr
      cases w.getD s false with
      | true =>
        rw [if_pos rfl, if_pos rfl, if_pos rfl, List.append_nil]
        exact wr_lex _ _ _
      | false =>
        rw [if_neg Bool.false_ne_true, if_neg Bool.false_ne_true, if_neg Bool.false_ne_true]
        cases r with
        | nil => exact .word rfl (by decide) (by decide) .eof
        | cons s' r' => exact .word rfl (by decide) (by decide) (.close (bl_ws s'))
    cases e with
    | true =>
      show LexT (([] ++ (wrd w a b c s ++ (if w.getD s false then [] else hdB r))) ++ _) [ltr w s] _
      rw [List.nil_append]
      exact key
    | false =>
      show LexT (([bl s] ++ (wrd w a b c s ++ (if w.getD s false then [] else hdB r))) ++ _) [ltr w s] _
      rw [List.append_assoc]
      exact .ws (bl_ws s) key
/-- the text -/
noncomputable def textW (w : List Bool) (a b c : Int) : List Nat := rowsT (rowsW w a b c)
theorem textW_eq (w : List Bool) (a b c : Int) : ((segs w a b c false (List.range 12)).map (·.1)).flatten = textW w a b c := by
  have h := segs_flat w a b c (List.range 12) false
  rw [if_neg Bool.false_ne_true, List.nil_append] at h
  rw [h]
  unfold textW rowsT rowsW
  rw [List.map_map]
  rfl
theorem wr_len (c m : Nat) : (wr c m).length ≤ 4 := by
  unfold wr
  split
  · simp
  · split <;> simp
theorem wrd_len (w : List Bool) (a b c : Int) (s : Nat) : (wrd w a b c s).length ≤ 4 := by
  unfold wrd
  split
  · exact wr_len _ _
  · simp
theorem flat_len {f : Nat → List Nat × List Nat} (h : ∀ s, ((f s).1 ++ (f s).2).length ≤ 5) : ∀ l : List Nat, (rowsT (l.map f)).length ≤ 5 * l.length
  | [] => by simp [rowsT]
  | s :: r => by
    have := flat_len h r
    have h1 := h s
    simp only [rowsT, List.map_cons, List.flatten_cons, List.length_append, List.length_cons] at this h1 ⊢
    omega
theorem textW_len (w : List Bool) (a b c : Int) : (textW w a b c).length ≤ 60 := flat_len (f := rowS w a b c) (fun s => by
  show ([bl s] ++ wrd w a b c s).length ≤ 5
  have := wrd_len w a b c s
  rw [List.length_append]
  show 1 + _ ≤ 5
  omega) (List.range 12)
theorem nm3_ok {k : Nat} (h : k < 6) : nm3.getD k 0 < 128 := by
  rcases lt6 h with rfl | rfl | rfl | rfl | rfl | rfl <;> decide
theorem wr_ok {c m : Nat} (hc : c < 128) : ∀ x ∈ wr c m, x < 128 := by
  intro x hx
  unfold wr at hx
  split at hx
  · simp only [List.mem_cons, List.not_mem_nil, or_false] at hx
    rcases hx with rfl | rfl | rfl
    · decide
    · exact hc
    · split <;> decide
  · split at hx
    · simp only [List.mem_cons, List.not_mem_nil, or_false] at hx
      rcases hx with rfl | rfl | rfl
      · decide
      · exact hc
      · decide
    · simp only [List.mem_cons, List.not_mem_nil, or_false] at hx
      rcases hx with rfl | rfl | rfl | rfl
      · decide
      · decide
      · exact hc
      · decide
theorem row_ok {w : List Bool} (W : OkW w) {a b c : Int} {s : Nat} (hs : s < 12) : ∀ x ∈ (rowS w a b c s).1 ++ (rowS w a b c s).2, x < 128 := by
  intro x hx
  rcases List.mem_append.mp hx with hx | hx
  · rw [List.mem_singleton.mp hx]
    unfold bl
    split <;> decide
  · have hx : x ∈ wrd w a b c s := hx
    unfold wrd ltr at hx
    cases hw : w.getD s false with
    | true =>
      rw [hw, if_pos rfl, if_pos rfl] at hx
      exact wr_ok (nm3_ok (W.lt s hs hw)) x hx
    | false =>
      rw [hw, if_neg Bool.false_ne_true] at hx
      rw [List.mem_singleton.mp hx]
      decide
theorem textW_ok {w : List Bool} (W : OkW w) (a b c : Int) : ∀ x ∈ textW w a b c, x < 128 := by
  intro x hx
  unfold textW rowsT at hx
  obtain ⟨l, hl, hx⟩ := List.mem_flatten.mp hx
  obtain ⟨ab, hab, rfl⟩ := List.mem_map.mp hl
  obtain ⟨s, hs, rfl⟩ := List.mem_map.mp hab
  exact row_ok W (List.mem_range.mp hs) x hx
noncomputable def wordsM (w : List Bool) : MV := .lst ((List.range 12).map fun s => .str (txt [ltr w s]))
noncomputable def dWords : D := (dComp [20] none 100 (dCall fRange (dL1 (dC (.int 12)) dL0)) (tgV 20) dBt (aEmit (dMeth 59 "get_token" (dFn [0] (F_get_token 59 42)) (dVar 48) dL0)))
theorem words_ev {w : List Bool} (W : OkW w) (a b c : Int) {mh : MH} {i dd t pb : Nat} (h : LexAt 59 mh i dd t pb (txt (textW w a b c)) 0 1) (h1 : pb ≠ dd) (h2 : pb ≠ t) (hpb : mh[pb]? = some (.list [])) {me : ME} (h48 : me.lookup 48 = some (.ref i)) :
    ∃ css : List (Option Nat), css.length = 12 ∧ dWords me mh = some (wordsM w, lexSet mh dd t pb (txt (textW w a b c)) (textW w a b c).length (1 + nls (textW w a b c)) ++ css.map (MO.citer 42)) := by
  have hT := textW_len w a b c
  have hl := segs_len w a b c (List.range 12) false
  rw [List.length_range] at hl
  obtain ⟨me', junk', e, css, rfl, hc⟩ := lex_comp2 (rc := 42) (x := 20) (y := 48) (m := 12) h h1 h2 (by omega) (textW_ok W a b c) hpb (by decide) [] (segs_lex w a b c (List.range 12) false) 100 0 [] (dropV [20] me) [] 1 (by rw [textW_eq, List.append_nil]; exact List.suffix_refl _) (by rw [hl]; decide) (by rw [hl]) (by rw [hl]; decide) (by rw [lookup_dropV' (by decide)]; exact h48)
  rw [textW_eq, segs_tok] at e
  simp only [List.append_nil, List.nil_append, Nat.sub_self, List.length_nil, Nat.sub_zero] at e
  rw [h.same] at e
  refine ⟨css, by rw [hc, hl], ?_⟩
  have hi : dCall fRange (dL1 (dC (.int 12)) dL0) me mh = some (.rng 0 12, mh) := rfl
  have hit : itOf none (.rng 0 12) mh = some (.rng 0 12) := it_rng (by decide)
  unfold dWords
  simp only [dComp, hi, hit]
  have e' : dCompLoop (tgV 20) dBt (aEmit (dMeth 59 "get_token" (dFn [0] (F_get_token 59 42)) (dVar 48) dL0)) (.rng 0 12) 100 0 [] (dropV [20] me) mh = _ := e
  rw [e']
  have : (1 : Int) + nls (textW w a b c) - nls [] = 1 + nls (textW w a b c) := by
    have : nls [] = 0 := rfl
    omega
  rw [this]
  rfl
end Mine

namespace Mine

/-! ## law: its parts -/
noncomputable def dC1 : DB := (dTru (dOp2 oNe (dVar 28) (dComp [20] none 100 (dCall fRange (dL1 (dC (.int 12)) dL0)) (tgV 20) dBt (aEmit (dIte (dTru (dOp2 oEq (dOp2 oItem (dVar 23) (dVar 20)) (dC (.str "(")))) (dOp2 oItem (dVar 47) (dBMeth selStr fCount (dSliceS (dVar 23) none (some (dVar 20))) (dL1 (dC (.str "(")) dL0))) (dC (.str ".")))))))
noncomputable def dC2 : DB := (dTru (dOp2 oNe (dTup (dL1 (dMeth 59 "get_token" (dFn [0] (F_get_token 59 42)) (dVar 48) dL0) (dL1 (dOp2 oItem (dVar 12) (dC (.int 0))) (dL1 (dOp1 (oAttr 59 "lineno") (dVar 48)) dL0)))) (dTup (dL1 (dC (.str "")) (dL1 (dCall (fLenX 143 (dFn [0] (F_alen 143))) (dL1 (dVar 26) dL0)) (dL1 (dOp2 oAdd (dC (.int 1)) (dBMeth selStr fCount (dCall (fStrI 143 (dFn [0] (F_astr 143))) (dL1 (dVar 26) dL0)) (dL1 (dC (.str "\n")) dL0))) dL0))))))
noncomputable def dC3 : DB := (dTru (dOp2 oNe (dCall (fStrI 143 (dFn [0] (F_astr 143))) (dL1 (dVar 26) dL0)) (dBMeth selStr fJoin (dC (.str "")) (dL1 (dComp [32, 27] (some 143) 100 (dVar 26) (tgT [32, 27]) dBt (aEmit (dOp2 oAdd (dVar 32) (dVar 27)))) dL0))))
noncomputable def dStr : D := (dCall (fStrI 143 (dFn [0] (F_astr 143))) (dL1 (dVar 26) dL0))
noncomputable def drest : List DS := [(dAsgT (tgT [30, 31, 49]) (dCall (dFn [28] F_law_pile) (dL1 (dVar 28) dL0))), (dIf (dOr (dTru (dOp2 oNe (dVar 49) (dC (.int 0)))) (dOr (dTru (dOp2 oNeR (dVar 31) (dComp [20] none 100 (dCall fRange (dL1 (dC (.int 12)) dL0)) (tgV 20) (dTru (dOp2 oEq (dOp2 oItem (dVar 23) (dVar 20)) (dC (.str "(")))) (aEmit (dOp2 oSub (dBMeth selStr fCount (dSliceS (dVar 23) none (some (dVar 20))) (dL1 (dC (.str "(")) dL0)) (dBMeth selStr fCount (dSliceS (dVar 23) none (some (dVar 20))) (dL1 (dC (.str ")")) dL0))))))) dBf)) (dSeq (dRet (dC (.bool false))) dNil) dNil), (dAsgT (tgT [36, 37, 38, 39, 50]) (dCall (dFn [30] F_law_line) (dL1 (dVar 30) dL0))), (dIf (dOr (dTru (dOp2 oNe (dVar 50) (dC (.str ".")))) (dOr (dTru (dOp2 oNeR (dVar 36) (dComp [51, 15] none 100 (dCall fRange (dL1 (dC (.int 6)) dL0)) (tgV 51) dBt (aLoop none 100 (dCall fRange (dL1 (dC (.int 6)) dL0)) (tgV 15) (dTru (dOp2 oEq (dOp2 oItem (dVar 31) (dVar 15)) (dVar 51))) (aEmit (dOp2 oItem (dVar 47) (dVar 15))))))) dBf)) (dSeq (dRet (dC (.bool false))) dNil) dNil), (dIf (dTru (dOp2 oNe (dComp [51, 41] none 100 (dCall fRange (dL1 (dCall fLen (dL1 (dVar 37) dL0)) dL0)) (tgV 51) dBt (aLoop none 100 (dCall fRange (dL1 (dOp2 oItem (dVar 37) (dVar 51)) dL0)) (tgV 41) dBt (aEmit (dVar 51)))) (dCall fSorted (dL1 (dVar 31) dL0)))) (dSeq (dRet (dC (.bool false))) dNil) dNil), (dIf (dTru (dOp2 oNe (dVar 39) (dCall fLen (dL1 (dComp [52, 15] none 100 (dCall fRange (dL1 (dC (.int 6)) dL0)) (tgV 52) dBt (aLoop none 100 (dCall fRange (dL1 (dVar 52) dL0)) (tgV 15) (dOr (dTru (dOp2 oEq (dOp2 oItem (dVar 31) (dVar 15)) (dOp2 oItem (dVar 31) (dVar 52)))) (dOr (dTru (dOp2 oEq (dOp2 oItem (dVar 31) (dVar 15)) (dOp2 oAdd (dOp2 oItem (dVar 31) (dVar 52)) (dC (.int 1))))) dBf)) (aEmit (dVar 15)))) dL0)))) (dSeq (dRet (dC (.bool false))) dNil) dNil), (dRet (dOp2 oEq (dCall (dFn [38] F_law_back) (dL1 (dVar 38) dL0)) (dVar 23)))]
noncomputable def seqs : List DS → DS
  | [] => dNil
  | f :: r => dSeq f (seqs r)
noncomputable def dFail : DS := (dSeq (dRet (dC (.bool false))) dNil)
theorem law_split : F_law = (dSeq (dAsgT (tgT [19, 47]) (dTup (dL1 (dCall (dFn [17] F_law_numbers) (dL1 (dVar 17) dL0)) (dL1 (dCall (dFn [] F_law_names) dL0) dL0)))) (dSeq (dAsg 23 (dCall (dFn [19] F_law_drawn) (dL1 (dVar 19) dL0))) (dSeq (dAsg 26 (dCall (dFn [23, 19] F_law_sheet) (dL1 (dVar 23) (dL1 (dVar 19) dL0)))) (dSeq (dAsg 12 (dLstM (dL1 (dC (.int 0)) dL0))) (dSeq (dAsg 48 (dCall (fLexer (fMakeP 59 (dFn [0, 6] (F_ninit 59)))) (dL1 dStr (dL1 (dVar 12) dL0)))) (dSeq (dAsg 28 dWords) (dSeq (dIf dC1 dFail dNil) (dSeq (dIf dC2 dFail dNil) (dSeq (dIf dC3 dFail dNil) (seqs drest)))))))))) := rfl

noncomputable def meOf (sc : MV) (w : List Bool) : ME := [(17, sc), (19, .ref 0), (47, names3), (23, textOf w), (26, .ref 2), (12, .ref 3), (48, .ref 5), (28, wordsM w)]
noncomputable def HH (w : List Bool) (a b c : Int) (p : Nat) (L : Int) (junk : MH) : MH :=
  [.list [.int a, .int b, .int c], .attrs accA, .inst 143 1 (some ((rowsW w a b c).map rowM)), .list [.int (p : Int)], .attrs (lexA (txt (textW w a b c)) 3 6 L), .inst 59 4 none, .list []] ++ junk
theorem HH_at (w : List Bool) (a b c : Int) (p : Nat) (L : Int) (junk : MH) : LexAt 59 (HH w a b c p L junk) 5 4 3 6 (txt (textW w a b c)) p L := ⟨rfl, rfl, rfl, by decide, by decide, by decide⟩
theorem HH_set (w : List Bool) (a b c : Int) (p p' : Nat) (L L' : Int) : lexSet (HH w a b c p L []) 4 3 6 (txt (textW w a b c)) p' L' = HH w a b c p' L' [] := rfl
theorem HH_app (w : List Bool) (a b c : Int) (p : Nat) (L : Int) (j j' : MH) : HH w a b c p L j ++ j' = HH w a b c p L (j ++ j') := by simp only [HH, List.append_assoc]
theorem rows_le (w : List Bool) (a b c : Int) : (rowsW w a b c).length ≤ 1000 ∧ (rowsT (rowsW w a b c)).length ≤ 1000 := ⟨by rw [rowsW_len]; decide, Nat.le_trans (textW_len w a b c) (by decide)⟩
theorem str_ev {w : List Bool} {a b c : Int} {mh : MH} (i1 : mh[2]? = some (.inst 143 1 (some ((rowsW w a b c).map rowM)))) (i2 : mh[1]? = some (.attrs accA)) {me : ME} (h26 : me.lookup 26 = some (.ref 2)) : dStr me mh = some (.str (txt (textW w a b c)), mh) :=
  (call_ev (l1 (me_dVar h26) l0)).trans (astr_ev i1 i2 (rows_le w a b c).1 (rows_le w a b c).2)
theorem c2_raw {w : List Bool} (W : OkW w) {a b c : Int} {mh mh' : MH} {p0 : Nat} {L0 : Int} (h0 : LexAt 59 mh 5 4 3 6 (txt (textW w a b c)) p0 L0) (h : LexAt 59 mh' 5 4 3 6 (txt (textW w a b c)) (textW w a b c).length (1 + nls (textW w a b c)))
    (i1 : mh'[2]? = some (.inst 143 1 (some ((rowsW w a b c).map rowM)))) (i2 : mh'[1]? = some (.attrs accA)) (e : dFn [0] (F_get_token 59 42) [.ref 5] mh = some (.str (txt []), mh'))
    {me : ME} (h26 : me.lookup 26 = some (.ref 2)) (h48 : me.lookup 48 = some (.ref 5)) (h12 : me.lookup 12 = some (.ref 3)) : dC2 me mh = some (false, mh') := by
  have t1 := (meth_gt (rc := 42) h0 h48).trans e
  have t2 : dOp2 oItem (dVar 12) (dC (.int 0)) me mh' = some (.int ((textW w a b c).length : Int), mh') :=
    (op2_ev (me_dVar h12) (show dC (.int 0) me mh' = some (.int 0, mh') from rfl)).trans (item_ref (k := 0) (vs := [.int ((textW w a b c).length : Int)]) h.at_ rfl (by simp))
  have t3 : dOp1 (oAttr 59 "lineno") (dVar 48) me mh' = some (.int (1 + nls (textW w a b c)), mh') := by
    simp only [dOp1, dVar, h48]
    exact attr_ev h lexA_lineno
  have t4 := tup_ev (l1 t1 (l1 t2 (l1 t3 l0))) (by simp)
  have s1 : dC (.str ("" : Str)) me mh' = some (.str (txt []), mh') := by rw [s_nil]; rfl
  have s2 := (call_ev (den := fLenX 143 (dFn [0] (F_alen 143))) (l1 (me_dVar (mh := mh') h26) l0)).trans (alen_ev i1 i2 (rows_le w a b c).1 (rows_le w a b c).2)
  have s3 : dBMeth selStr fCount dStr (dL1 (dC (.str "\n")) dL0) me mh' = some (.int (nls (textW w a b c)), mh') :=
    (bmeth_str (str_ev i1 i2 h26) (l1 c_ev l0)).trans count_ev
  have s4 := (op2_ev (o := oAdd) (show dC (.int 1) me mh' = some (.int 1, mh') from rfl) s3).trans (show oAdd (.int 1) (.int (nls (textW w a b c))) mh' = some (.int (1 + nls (textW w a b c)), mh') from rfl)
  have s5 := tup_ev (l1 s1 (l1 s2 (l1 s4 l0))) (by simp)
  have g : Good (.tup [.str (txt []), .int ((textW w a b c).length : Int), .int (1 + nls (textW w a b c))]) (.tuple [.str (txt []), .int ((textW w a b c).length : Int), .int (1 + nls (textW w a b c))]) 1 := .tup (.cons (.str (by simp)) (.cons .int (.cons .int .nil)))
  exact tru_bool ((op2_ev (o := oNe) t4 s5).trans g.ne_self)
theorem c2_ev {w : List Bool} (W : OkW w) {a b c : Int} {junk : MH} {me : ME} (h26 : me.lookup 26 = some (.ref 2)) (h48 : me.lookup 48 = some (.ref 5)) (h12 : me.lookup 12 = some (.ref 3)) :
    ∃ cs, dC2 me (HH w a b c (textW w a b c).length (1 + nls (textW w a b c)) junk) = some (false, HH w a b c (textW w a b c).length (1 + nls (textW w a b c)) (junk ++ [.citer 42 cs])) := by
  obtain ⟨_, cs, e⟩ := get_token_at (rc := 42) (junk := junk) (L := 1 + nls (textW w a b c)) (l := []) (tok := []) (l' := []) (HH_at w a b c 0 1 []) (by decide) (by decide) (Nat.le_trans (textW_len w a b c) (by decide)) (textW_ok W a b c) List.nil_suffix rfl .eof
  simp only [HH_set, HH_app, List.nil_append, List.length_nil, Nat.sub_zero] at e
  have hz : (1 : Int) + nls (textW w a b c) + nls [] - nls [] = 1 + nls (textW w a b c) := by omega
  rw [hz] at e
  exact ⟨cs, c2_raw W (HH_at w a b c _ _ junk) (HH_at w a b c _ _ _) rfl rfl e h26 h48 h12⟩
theorem join_rows {rs : List (List Nat × List Nat)} (hl : rs.length ≤ 50) (hT : (rowsT rs).length ≤ 500) {me : ME} {mh : MH} {v : MV} (h26 : me.lookup 26 = some v) (hk : itOf (some 143) v mh = some k) (hn : ∀ j, nextOf k mh j = some (rs.map rowM)[j]?) :
    dBMeth selStr fJoin (dC (.str "")) (dL1 (dComp [32, 27] (some 143) 100 (dVar 26) (tgT [32, 27]) dBt (aEmit (dOp2 oAdd (dVar 32) (dVar 27)))) dL0) me mh = some (.str (txt (rowsT rs)), mh) := by
  have c1 := comp_pure (own := [32, 27]) (c0 := some 143) (N := 100) (tg := tgT [32, 27]) (cond := dBt) (elt := dOp2 oAdd (dVar 32) (dVar 27)) (me := me) (mh := mh) (mh0 := mh) (it := dVar 26) (me_dVar h26) (k := k) hk (items := rs.map rowM) hn
    (fun _ => true) (fun v => match v with | .tup [.str a, .str b] => .str (a ++ b) | _ => .none) (Sees [32, 27] me) (Sees.drop me (by simp)) (by rw [List.length_map]; omega) (by rw [List.length_map]; omega) (fun j it me1 hj P => by
      rw [List.getElem?_map] at hj
      obtain ⟨ab, hab, rfl⟩ := Option.map_eq_some_iff.mp hj
      have hle := row_le (List.mem_of_getElem? hab)
      refine ⟨upd (upd me1 32 (.str (txt ab.1))) 27 (.str (txt ab.2)), rfl, (P.upd (by simp)).upd (by simp), rfl, fun _ => ?_⟩
      have e := op2_ev (o := oAdd) (me_dVar (mh := mh) (show (upd (upd me1 32 (.str (txt ab.1))) 27 (.str (txt ab.2))).lookup 32 = some (.str (txt ab.1)) by rw [lk_ne (by decide)]; exact lk_self)) (me_dVar lk_self)
      rw [e, oAdd_str (by omega)]
      show _ = some (MV.str (txt ab.1 ++ txt ab.2), mh)
      rw [str_app])
  rw [filt_true] at c1
  have e1 : (rs.map rowM).map (fun v => match v with | .tup [.str a, .str b] => MV.str (a ++ b) | _ => .none) = (rs.map fun ab => ab.1 ++ ab.2).map fun l => .str (txt l) := by
    rw [List.map_map, List.map_map]
    apply List.map_congr_left
    intro ab _
    show MV.str (txt ab.1 ++ txt ab.2) = .str (txt (ab.1 ++ ab.2))
    rw [str_app]
  rw [e1] at c1
  have e2 := l1 c1 (l0 (me := me))
  have e3 : selStr (.str ("" : Str)) mh = true := rfl
  have e4 := join_ev (ls := rs.map fun ab => ab.1 ++ ab.2) (mh := mh) (by have : (rs.map fun ab => ab.1 ++ ab.2).flatten = rowsT rs := rfl; rw [this]; omega)
  simp only [dBMeth, dC, e3, if_true, e2, e4]
  rfl
theorem c3_ev {w : List Bool} (W : OkW w) {a b c : Int} {mh : MH} (i1 : mh[2]? = some (.inst 143 1 (some ((rowsW w a b c).map rowM)))) (i2 : mh[1]? = some (.attrs accA)) {me : ME} (h26 : me.lookup 26 = some (.ref 2)) : dC3 me mh = some (false, mh) := by
  have t1 := str_ev i1 i2 h26
  have t2 := join_rows (rs := rowsW w a b c) (by rw [rowsW_len]; decide) (Nat.le_trans (textW_len w a b c) (by decide)) (mh := mh) h26 (k := .list 2) (by simp only [itOf, i1, if_true]) (fun j => by simp only [nextOf, i1])
  have g : Good (.str (txt (textW w a b c))) (.str (txt (textW w a b c))) 0 := .str (textW_ok W a b c)
  exact tru_bool ((op2_ev (o := oNe) t1 t2).trans g.ne_self)

/-! ## law, when the words tell the rest -/
noncomputable def isT : Option (Fl × ME × MH) → Bool
  | some (.ret (.bool true), _, _) => true
  | _ => false
theorem isT_ok {r : Option (Fl × ME × MH)} (h : isT r = true) : ∃ me' mh', r = some (.ret (.bool true), me', mh') := by
  unfold isT at h
  split at h
  · exact ⟨_, _, rfl⟩
  · cases h
noncomputable def chk (sc : MV) (w : List Bool) (p : MH) : Bool := isT (seqs drest (meOf sc w) p)
theorem law_of (h1 : ∀ w ∈ wordsN 12, ∀ sc mh, dC1 (meOf sc w) mh = some (false, mh))
    (h2 : ∀ w ∈ wordsN 12, ∀ sc x0 x1 x2 x3 x4 x5 x6 x7 x8 x9 x10 x11 x12 x13 x14 x15 x16 x17 x18 x19, chk sc w [x0, x1, x2, x3, x4, x5, x6, x7, x8, x9, x10, x11, x12, x13, x14, x15, x16, x17, x18, x19] = true)
    (sc : List Int) (hl : sc.length ≤ 63) : ∃ mh', dFn [17] F_law [.lst (sc.map .int)] [] = some (.bool true, mh') := by
  obtain ⟨a, b, c, en⟩ := numbers_ev sc hl
  have hw := dw_mem a b c 12
  have ed := drawn_ev a b c
  generalize dw a b c 12 = w at hw ed
  have W := okW_of hw
  have a1 : dAsgT (tgT [19, 47]) (dTup (dL1 (dCall (dFn [17] F_law_numbers) (dL1 (dVar 17) dL0)) (dL1 (dCall (dFn [] F_law_names) dL0) dL0))) [(17, .lst (sc.map .int))] [] = some (.next, [(17, .lst (sc.map .int)), (19, .ref 0), (47, names3)], [.list [.int a, .int b, .int c]]) := by
    have b1 := (call_ev (den := dFn [17] F_law_numbers) (l1 (me_dVar (me := [(17, .lst (sc.map .int))]) (mh := []) (x := 17) rfl) l0)).trans en
    have b2 := (call_ev (den := dFn [] F_law_names) (l0 (me := [(17, .lst (sc.map .int))]) (mh := [.list [.int a, .int b, .int c]]))).trans (names_ev _)
    have b3 := tup_ev (l1 b1 (l1 b2 l0)) (by simp)
    simp only [dAsgT, b3]
    rfl
  have a2 := (call_ev (den := dFn [19] F_law_drawn) (l1 (me_dVar (me := [(17, .lst (sc.map .int)), (19, .ref 0), (47, names3)]) (mh := [.list [.int a, .int b, .int c]]) (x := 19) rfl) l0)).trans ed
  have a3 := (call_ev (den := dFn [23, 19] F_law_sheet) (l1 (me_dVar (me := [(17, .lst (sc.map .int)), (19, .ref 0), (47, names3), (23, textOf w)]) (mh := [.list [.int a, .int b, .int c]]) (x := 23) rfl) (l1 (me_dVar (x := 19) rfl) l0))).trans (sheet_ev W)
  have a4 : dLstM (dL1 (dC (.int 0)) dL0) [(17, .lst (sc.map .int)), (19, .ref 0), (47, names3), (23, textOf w), (26, .ref 2)] [.list [.int a, .int b, .int c], .attrs accA, .inst 143 1 (some ((rowsW w a b c).map rowM))] = some (.ref 3, [.list [.int a, .int b, .int c], .attrs accA, .inst 143 1 (some ((rowsW w a b c).map rowM)), .list [.int 0]]) := rfl
  have a5 : dCall (fLexer (fMakeP 59 (dFn [0, 6] (F_ninit 59)))) (dL1 dStr (dL1 (dVar 12) dL0)) [(17, .lst (sc.map .int)), (19, .ref 0), (47, names3), (23, textOf w), (26, .ref 2), (12, .ref 3)] [.list [.int a, .int b, .int c], .attrs accA, .inst 143 1 (some ((rowsW w a b c).map rowM)), .list [.int 0]] = some (.ref 5, HH w a b c 0 1 []) := by
    have b1 := str_ev (w := w) (a := a) (b := b) (c := c) (mh := [.list [.int a, .int b, .int c], .attrs accA, .inst 143 1 (some ((rowsW w a b c).map rowM)), .list [.int 0]]) rfl rfl (me := [(17, .lst (sc.map .int)), (19, .ref 0), (47, names3), (23, textOf w), (26, .ref 2), (12, .ref 3)]) rfl
    exact (call_ev (l1 b1 (l1 (me_dVar rfl) l0))).trans lexer_ev
  obtain ⟨css, hcs, a6⟩ := words_ev W a b c (HH_at w a b c 0 1 []) (by decide) (by decide) rfl (me := [(17, .lst (sc.map .int)), (19, .ref 0), (47, names3), (23, textOf w), (26, .ref 2), (12, .ref 3), (48, .ref 5)]) rfl
  rw [HH_set, HH_app, List.nil_append] at a6
  obtain ⟨cs, a8⟩ := c2_ev W (a := a) (b := b) (c := c) (junk := css.map (MO.citer 42)) (me := meOf (.lst (sc.map .int)) w) rfl rfl rfl
  have a9 := c3_ev W (a := a) (b := b) (c := c) (mh := HH w a b c (textW w a b c).length (1 + nls (textW w a b c)) (css.map (MO.citer 42) ++ [.citer 42 cs])) rfl rfl (me := meOf (.lst (sc.map .int)) w) rfl
  have a7 := h1 w hw (.lst (sc.map .int)) (HH w a b c (textW w a b c).length (1 + nls (textW w a b c)) (css.map (MO.citer 42)))
  have a10 : ∃ me' mh', seqs drest (meOf (.lst (sc.map .int)) w) (HH w a b c (textW w a b c).length (1 + nls (textW w a b c)) (css.map (MO.citer 42) ++ [.citer 42 cs])) = some (.ret (.bool true), me', mh') := by
    match css, hcs with
    | [c0, c1, c2, c3, c4, c5, c6, c7, c8, c9, c10, c11], _ => exact isT_ok (h2 w hw (.lst (sc.map .int)) _ _ _ _ _ _ _ _ _ _ _ _ _ _ _ _ _ _ _ _)
  obtain ⟨me', mh', a10⟩ := a10
  refine ⟨mh', ?_⟩
  have key : F_law [(17, .lst (sc.map .int))] [] = some (.ret (.bool true), me', mh') := by
    rw [law_split, seq_next a1, seq_asg a2]
    rw [show upd [(17, MV.lst (sc.map .int)), (19, .ref 0), (47, names3)] 23 (textOf w) = [(17, .lst (sc.map .int)), (19, .ref 0), (47, names3), (23, textOf w)] from rfl, seq_asg a3]
    rw [show upd [(17, MV.lst (sc.map .int)), (19, .ref 0), (47, names3), (23, textOf w)] 26 (.ref 2) = [(17, .lst (sc.map .int)), (19, .ref 0), (47, names3), (23, textOf w), (26, .ref 2)] from rfl, seq_asg a4]
    rw [show upd [(17, MV.lst (sc.map .int)), (19, .ref 0), (47, names3), (23, textOf w), (26, .ref 2)] 12 (.ref 3) = [(17, .lst (sc.map .int)), (19, .ref 0), (47, names3), (23, textOf w), (26, .ref 2), (12, .ref 3)] from rfl, seq_asg a5]
    rw [show upd [(17, MV.lst (sc.map .int)), (19, .ref 0), (47, names3), (23, textOf w), (26, .ref 2), (12, .ref 3)] 48 (.ref 5) = [(17, .lst (sc.map .int)), (19, .ref 0), (47, names3), (23, textOf w), (26, .ref 2), (12, .ref 3), (48, .ref 5)] from rfl, seq_asg a6]
    rw [show upd [(17, MV.lst (sc.map .int)), (19, .ref 0), (47, names3), (23, textOf w), (26, .ref 2), (12, .ref 3), (48, .ref 5)] 28 (wordsM w) = meOf (.lst (sc.map .int)) w from rfl, seq_if_f (g := dNil) a7, seq_if_f (g := dNil) a8, seq_if_f (g := dNil) a9]
    exact a10
  simp only [dFn, List.length_cons, List.length_nil, if_true, zipE, key]
end Mine

namespace Mine

/-! ## the same steps, made for the kernel's evaluation -/
noncomputable def updQ (me : ME) (x : Nat) (v : MV) : ME := List.rec (motive := fun _ => ME) [(x, v)] (fun p r ih => Bool.rec (motive := fun _ => ME) (p :: ih) ((p.1, v) :: r) (Nat.beq p.1 x)) me
noncomputable def lookQ (me : ME) (x : Nat) : Option MV := List.rec (motive := fun _ => Option MV) none (fun p r ih => Bool.rec (motive := fun _ => Option MV) ih (some p.2) (Nat.beq x p.1)) me
noncomputable def elemQ (x : Nat) (l : List Nat) : Bool := List.rec (motive := fun _ => Bool) false (fun y _ ih => Bool.rec (motive := fun _ => Bool) ih true (Nat.beq x y)) l
noncomputable def dropQ (own : List Nat) (me : ME) : ME := List.rec (motive := fun _ => ME) [] (fun p _ ih => Bool.rec (motive := fun _ => ME) (p :: ih) ih (elemQ p.1 own)) me
noncomputable def qVar (x : Nat) : D := fun me mh => match lookQ me x with | some v => some (v, mh) | none => none
noncomputable def qAsg (x : Nat) (f : D) : DS := fun me mh => match f me mh with | some (v, mh1) => some (.next, updQ me x v, mh1) | none => none
noncomputable def qV (x : Nat) : Tg := fun me _ v => some (updQ me x v)
noncomputable def updsQ : ME → List Nat → List MV → ME
  | me, x :: xs, v :: vs => updsQ (updQ me x v) xs vs
  | me, _, _ => me
noncomputable def qT (xs : List Nat) : Tg := fun me _ v => match v with
  | .tup vs => if vs.length = xs.length then some (updsQ me xs vs) else none
  | _ => none
noncomputable def qTR (xs : List Nat) : Tg := fun me _ v => match v with
  | .tup vs => if vs.length = xs.length then some (updsQ me xs.reverse vs.reverse) else none
  | _ => none
noncomputable def qAugV (x : Nat) (o : Op2) (f : D) : DS := qAsg x (dOp2 o (qVar x) f)
noncomputable def qComp (own : List Nat) (c0 : Option Addr) (N : Nat) (it : D) (tg : Tg) (cond : DB) (act : DA) : D := fun me mh => match it me mh with
  | some (v, mh1) => (match itOf c0 v mh1 with
    | some k => (match dCompLoop tg cond act k N 0 [] (dropQ own me) mh1 with
      | some (l, _, mh2) => some (.lst l, mh2)
      | none => none)
    | none => none)
  | none => none
theorem beq_q (x y : Nat) : (x == y) = Nat.beq x y := by
  cases h : Nat.beq x y with
  | true => exact beq_iff_eq.mpr (Nat.eq_of_beq_eq_true h)
  | false => exact beq_eq_false_iff_ne.mpr (Nat.ne_of_beq_eq_false h)
theorem updQ_eq (me : ME) (x : Nat) (v : MV) : updQ me x v = upd me x v := by
  induction me with
  | nil => rfl
  | cons p r ih =>
    show Bool.rec (motive := fun _ => ME) (p :: updQ r x v) ((p.1, v) :: r) (Nat.beq p.1 x) = if (p.1 == x) = true then (p.1, v) :: r else p :: upd r x v
    rw [beq_q, ih]
    cases Nat.beq p.1 x <;> rfl
theorem lookQ_eq (me : ME) (x : Nat) : lookQ me x = me.lookup x := by
  induction me with
  | nil => rfl
  | cons p r ih =>
    show Bool.rec (motive := fun _ => Option MV) (lookQ r x) (some p.2) (Nat.beq x p.1) = _
    rw [List.lookup_cons, beq_q, ih]
    cases Nat.beq x p.1 <;> rfl
theorem elemQ_eq (x : Nat) (l : List Nat) : elemQ x l = l.contains x := by
  induction l with
  | nil => rfl
  | cons y r ih =>
    show Bool.rec (motive := fun _ => Bool) (elemQ x r) true (Nat.beq x y) = _
    rw [List.contains_cons, beq_q, ih]
    cases Nat.beq x y <;> rfl
theorem dropQ_eq (own : List Nat) (me : ME) : dropQ own me = dropV own me := by
  induction me with
  | nil => rfl
  | cons p r ih =>
    show Bool.rec (motive := fun _ => ME) (p :: dropQ own r) (dropQ own r) (elemQ p.1 own) = _
    unfold dropV at ih ⊢
    rw [List.filter_cons, elemQ_eq, ih]
    cases own.contains p.1 <;> rfl
theorem qVar_eq : qVar = dVar := by
  funext x me mh
  simp only [qVar, dVar, lookQ_eq]
  all_goals rfl
theorem qAsg_eq : qAsg = dAsg := by
  funext x f me mh
  simp only [qAsg, dAsg, updQ_eq]
  all_goals rfl
theorem qV_eq : qV = tgV := by
  funext x me mh v
  simp only [qV, tgV, updQ_eq]
theorem updsQ_eq : ∀ (xs : List Nat) (vs : List MV) (me : ME), updsQ me xs vs = upds me xs vs
  | [], _, _ => by simp only [updsQ, upds]
  | _ :: _, [], _ => by simp only [updsQ, upds]
  | x :: xs, v :: vs, me => by simp only [updsQ, upds, updQ_eq, updsQ_eq xs vs]
theorem qT_eq : qT = tgT := by
  funext xs me mh v
  simp only [qT, tgT, updsQ_eq]
  all_goals rfl
theorem qTR_eq : qTR = tgTR := by
  funext xs me mh v
  simp only [qTR, tgTR, updsQ_eq]
  all_goals rfl
theorem qAugV_eq : qAugV = dAugV := by
  funext x o f
  simp only [qAugV, dAugV, qAsg_eq, qVar_eq]
theorem qComp_eq : qComp = dComp := by
  funext own c0 N it tg cond act me mh
  simp only [qComp, dComp, dropQ_eq]
  all_goals rfl
noncomputable def F_pushP (V : Nat → D) (A : Nat → D → DS) (TV : Nat → Tg) (T TR : List Nat → Tg) (AV : Nat → Op2 → D → DS) (CP : List Nat → Option Addr → Nat → D → Tg → DB → DA → D) (A : Addr) : DS := (dSeq (dExprN (dBMeth (selInst A "append") (fAppendI A) (V 0) (dL1 (dTup (dL1 (V 2) (dL1 (V 3) dL0))) dL0))) dNil)
noncomputable def F_push_tokenP (V : Nat → D) (A : Nat → D → DS) (TV : Nat → Tg) (T TR : List Nat → Tg) (AV : Nat → Op2 → D → DS) (CP : List Nat → Option Addr → Nat → D → Tg → DB → DA → D) (N : Addr) : DS := (dSeq (dExprN (dBMeth selList fAppend (dOp1 (oAttr N "pushback") (V 0)) (dL1 (V 8) dL0))) dNil)
noncomputable def F_get_tokenP (V : Nat → D) (A : Nat → D → DS) (TV : Nat → Tg) (T TR : List Nat → Tg) (AV : Nat → Op2 → D → DS) (CP : List Nat → Option Addr → Nat → D → Tg → DB → DA → D) (N rc : Addr) : DS := (dSeq (dIf (dTru (dOp1 (oAttr N "pushback") (V 0))) (dSeq (dRet (dBMeth selList fLpop (dOp1 (oAttr N "pushback") (V 0)) (dL1 (dC (.int 0)) dL0))) dNil) dNil) (dSeq (A 8 (dC (.str ""))) (dSeq (A 9 (dIter N rc "_read_char" (V 0))) (dSeq (dForC rc (dFn [0] (F_read_char N)) 1000 (V 9) (TV 7) (dSeq (dIf (dTru (dOp2 oIn (V 7) (dOp1 (oAttr N "whitespace") (V 0)))) (dSeq dCont dNil) dNil) (dSeq (dIf (dTru (dOp2 oEq (V 7) (dC (.str "\"")))) (dSeq (dForC rc (dFn [0] (F_read_char N)) 1000 (V 9) (TV 7) (dSeq (dIf (dTru (dOp2 oEq (V 7) (dC (.str "\"")))) (dSeq (dRet (V 8)) dNil) (dSeq (dIf (dTru (dOp2 oEq (V 7) (dC (.str "\\")))) (dSeq (A 7 (dMeth N "_read_char" (dFn [0] (F_read_char N)) (V 0) dL0)) dNil) dNil) dNil)) (dSeq (AV 8 oIAdd (V 7)) dNil))) dNil) (dSeq (dIf (dTru (dOp2 oEq (V 7) (dC (.str "\\")))) (dSeq (A 7 (dMeth N "_read_char" (dFn [0] (F_read_char N)) (V 0) dL0)) dNil) dNil) (dSeq (AV 8 oIAdd (V 7)) (dSeq (dForC rc (dFn [0] (F_read_char N)) 1000 (V 9) (TV 7) (dSeq (dIf (dTru (dOp2 oIn (V 7) (dOp1 (oAttr N "whitespace") (V 0)))) (dSeq (dRet (V 8)) dNil) (dSeq (dIf (dTru (dOp2 oEq (V 7) (dC (.str "\\")))) (dSeq (A 7 (dMeth N "_read_char" (dFn [0] (F_read_char N)) (V 0) dL0)) dNil) dNil) dNil)) (dSeq (AV 8 oIAdd (V 7)) dNil))) dNil)))) dNil))) (dSeq (dRet (V 8)) dNil)))))
noncomputable def F_law_pileP (V : Nat → D) (A : Nat → D → DS) (TV : Nat → Tg) (T TR : List Nat → Tg) (AV : Nat → Op2 → D → DS) (CP : List Nat → Option Addr → Nat → D → Tg → DB → DA → D) : DS := (dSeq (dAsgT (TR [29, 30, 31]) (dTup (dL1 (dCall (fMakeL 143 (fInitAcc 143)) dL0) (dL1 dDict0 (dL1 (dLstM dL0) dL0))))) (dSeq (dFor none 100 (V 28) (TV 27) (dSeq (A 10 (dMeth 143 "part_count" (fPartCount 143) (V 29) dL0)) (dSeq (dAsgT (T [32, 33]) (dMeth 143 "pop" (fPop 143) (V 29) dL0)) (dSeq (dIf (dTru (dOp2 oNe (V 27) (dC (.str ".")))) (dSeq (dExprN (dBMeth selList fAppend (V 31) (dL1 (dIte (dTru (dOp2 oEq (V 32) (dOp2 oMul (dC (.str " ")) (V 10)))) (V 10) (dC (.int 9))) dL0))) (dSeq (dAsgItemD (dOp2 oAdd (dBMeth selDict fDictGet (V 30) (dL1 (V 33) (dL1 (dLst dL0) dL0))) (dLst (dL1 (V 27) dL0))) (V 30) (V 33)) (dSeq (dIf (dTru (dOp2 oNe (V 33) (dC (.str "")))) (dSeq (dExprN (dMeth 143 "push" (dFn [0, 2, 3] (F_pushP V A TV T TR AV CP 143)) (V 29) (dL1 (V 32) (dL1 (V 33) dL0)))) dNil) dNil) (dSeq (dExprN (dMeth 143 "push" (dFn [0, 2, 3] (F_pushP V A TV T TR AV CP 143)) (V 29) (dL1 (dOp2 oMul (dC (.str " ")) (dOp2 oAdd (V 10) (dC (.int 1)))) (dL1 (V 27) dL0)))) dNil)))) dNil) dNil)))) (dSeq (dRet (dTup (dL1 (V 30) (dL1 (V 31) (dL1 (dMeth 143 "part_count" (fPartCount 143) (V 29) dL0) dL0))))) dNil)))
noncomputable def F_law_lineP (V : Nat → D) (A : Nat → D → DS) (TV : Nat → Tg) (T TR : List Nat → Tg) (AV : Nat → Op2 → D → DS) (CP : List Nat → Option Addr → Nat → D → Tg → DB → DA → D) : DS := (dSeq (A 34 (dCall (fLexer (fMakeP 59 (dFn [0, 6] (F_ninit 59)))) (dL1 (dC (.str ".")) (dL1 (dLstM (dL1 (dC (.int 0)) dL0)) dL0)))) (dSeq (dFor none 100 (dBMeth selDict fDictGet (V 30) (dL1 (dC (.str "")) (dL1 (dLst dL0) dL0))) (TV 35) (dSeq (dExprN (dMeth 59 "push_token" (dFn [0, 8] (F_push_tokenP V A TV T TR AV CP 59)) (V 34) (dL1 (V 35) dL0))) dNil)) (dSeq (dAsgT (TR [36, 37, 38]) (dTup (dL1 (dLstM dL0) (dL1 (dLstM dL0) (dL1 (dLstM (dL1 (dCall fLen (dL1 (dOp1 (oAttr 59 "pushback") (V 34)) dL0)) dL0)) dL0))))) (dSeq (dAsgT (T [39, 40]) (dTup (dL1 (dC (.int 0)) (dL1 (dC (.int 0)) dL0)))) (dSeq (dFor none 100 (dCall fRange (dL1 (dC (.int 6)) dL0)) (TV 41) (dSeq (dIf (dTru (dOp2 oEq (V 40) (dC (.int 0)))) (dSeq (A 40 (dCall fLen (dL1 (dOp1 (oAttr 59 "pushback") (V 34)) dL0))) (dSeq (dExprN (dBMeth selList fAppend (V 37) (dL1 (dC (.int 0)) dL0))) dNil)) dNil) (dSeq (A 35 (dMeth 59 "get_token" (dFn [0] (F_get_tokenP V A TV T TR AV CP 59 42)) (V 34) dL0)) (dSeq (AV 40 oISub (dC (.int 1))) (dSeq (dAugIN (V 37) (dOp1 oNeg (dC (.int 1))) oIAdd (dC (.int 1))) (dSeq (dExprN (dBMeth selList fAppend (V 36) (dL1 (V 35) dL0))) (dSeq (AV 39 oIAdd (dCall fLen (dL1 (dOp1 (oAttr 59 "pushback") (V 34)) dL0))) (dSeq (dExprN (dBMeth selList fAppend (V 38) (dL1 (dCall fLen (dL1 (dBMeth selDict fDictGet (V 30) (dL1 (V 35) (dL1 (dLst dL0) dL0))) dL0)) dL0))) (dSeq (dFor none 100 (dBMeth selDict fDictGet (V 30) (dL1 (V 35) (dL1 (dLst dL0) dL0))) (TV 42) (dSeq (dExprN (dMeth 59 "push_token" (dFn [0, 8] (F_push_tokenP V A TV T TR AV CP 59)) (V 34) (dL1 (V 42) dL0))) dNil)) dNil))))))))) (dSeq (dRet (dTup (dL1 (V 36) (dL1 (V 37) (dL1 (V 38) (dL1 (V 39) (dL1 (dMeth 59 "get_token" (dFn [0] (F_get_tokenP V A TV T TR AV CP 59 42)) (V 34) dL0) dL0))))))) dNil))))))
noncomputable def F_law_backP (V : Nat → D) (A : Nat → D → DS) (TV : Nat → Tg) (T TR : List Nat → Tg) (AV : Nat → Op2 → D → DS) (CP : List Nat → Option Addr → Nat → D → Tg → DB → DA → D) : DS := (dSeq (dAsgT (TR [34, 43]) (dTup (dL1 (dCall (fLexer (fMakeP 59 (dFn [0, 6] (F_ninit 59)))) (dL1 (dC (.str ".")) (dL1 (dLstM (dL1 (dC (.int 0)) dL0)) dL0))) (dL1 (dOp2 oItem (V 38) (dC (.int 0))) dL0)))) (dSeq (A 30 (dDict1 (dC (.str "")) (dSliceS (dC (.str "ABCDEF")) none (some (V 43))))) (dSeq (dFor none 100 (dOp2 oItemD (V 30) (dC (.str ""))) (TV 44) (dSeq (dExprN (dMeth 59 "push_token" (dFn [0, 8] (F_push_tokenP V A TV T TR AV CP 59)) (V 34) (dL1 (V 44) dL0))) dNil)) (dSeq (dFor none 100 (dSliceL (V 38) (some (dC (.int 1))) none) (TV 45) (dSeq (A 44 (dMeth 59 "get_token" (dFn [0] (F_get_tokenP V A TV T TR AV CP 59 42)) (V 34) dL0)) (dSeq (dAsgItemD (dSliceS (dC (.str "ABCDEF")) (some (V 43)) (some (dOp2 oAdd (V 43) (V 45)))) (V 30) (V 44)) (dSeq (AV 43 oIAdd (V 45)) (dSeq (dFor none 100 (dOp2 oItemD (V 30) (V 44)) (TV 42) (dSeq (dExprN (dMeth 59 "push_token" (dFn [0, 8] (F_push_tokenP V A TV T TR AV CP 59)) (V 34) (dL1 (V 42) dL0))) dNil)) dNil))))) (dSeq (dAsgT (TR [29, 46]) (dTup (dL1 (dCall (fMakeL 143 (fInitAcc 143)) dL0) (dL1 (dC (.str "")) dL0)))) (dSeq (dFor none 100 (dRev (dOp2 oItemD (V 30) (dC (.str "")))) (TV 44) (dSeq (dExprN (dMeth 143 "push" (dFn [0, 2, 3] (F_pushP V A TV T TR AV CP 143)) (V 29) (dL1 (dC (.str " ")) (dL1 (V 44) dL0)))) dNil)) (dSeq (dFor none 100 (dCall fRange (dL1 (dC (.int 12)) dL0)) (TV 41) (dSeq (A 44 (dOp2 oItem (dMeth 143 "pop" (fPop 143) (V 29) dL0) (dC (.int 1)))) (dSeq (AV 46 oIAdd (dIte (dTru (dOp2 oEq (V 44) (dC (.str ".")))) (dC (.str ")")) (dC (.str "(")))) (dSeq (dIf (dTru (dOp2 oNe (V 44) (dC (.str ".")))) (dSeq (dExprN (dMeth 143 "push" (dFn [0, 2, 3] (F_pushP V A TV T TR AV CP 143)) (V 29) (dL1 (dC (.str " ")) (dL1 (dC (.str ".")) dL0)))) (dSeq (dFor none 100 (dRev (dBMeth selDict fDictGet (V 30) (dL1 (V 44) (dL1 (dC (.str "")) dL0)))) (TV 42) (dSeq (dExprN (dMeth 143 "push" (dFn [0, 2, 3] (F_pushP V A TV T TR AV CP 143)) (V 29) (dL1 (dC (.str " ")) (dL1 (V 42) dL0)))) dNil)) dNil)) dNil) dNil)))) (dSeq (dRet (V 46)) dNil))))))))
noncomputable def drestP (V : Nat → D) (A : Nat → D → DS) (TV : Nat → Tg) (T TR : List Nat → Tg) (AV : Nat → Op2 → D → DS) (CP : List Nat → Option Addr → Nat → D → Tg → DB → DA → D) : List DS := [(dAsgT (T [30, 31, 49]) (dCall (dFn [28] (F_law_pileP V A TV T TR AV CP)) (dL1 (V 28) dL0))), (dIf (dOr (dTru (dOp2 oNe (V 49) (dC (.int 0)))) (dOr (dTru (dOp2 oNeR (V 31) (CP [20] none 100 (dCall fRange (dL1 (dC (.int 12)) dL0)) (TV 20) (dTru (dOp2 oEq (dOp2 oItem (V 23) (V 20)) (dC (.str "(")))) (aEmit (dOp2 oSub (dBMeth selStr fCount (dSliceS (V 23) none (some (V 20))) (dL1 (dC (.str "(")) dL0)) (dBMeth selStr fCount (dSliceS (V 23) none (some (V 20))) (dL1 (dC (.str ")")) dL0))))))) dBf)) (dSeq (dRet (dC (.bool false))) dNil) dNil), (dAsgT (T [36, 37, 38, 39, 50]) (dCall (dFn [30] (F_law_lineP V A TV T TR AV CP)) (dL1 (V 30) dL0))), (dIf (dOr (dTru (dOp2 oNe (V 50) (dC (.str ".")))) (dOr (dTru (dOp2 oNeR (V 36) (CP [51, 15] none 100 (dCall fRange (dL1 (dC (.int 6)) dL0)) (TV 51) dBt (aLoop none 100 (dCall fRange (dL1 (dC (.int 6)) dL0)) (TV 15) (dTru (dOp2 oEq (dOp2 oItem (V 31) (V 15)) (V 51))) (aEmit (dOp2 oItem (V 47) (V 15))))))) dBf)) (dSeq (dRet (dC (.bool false))) dNil) dNil), (dIf (dTru (dOp2 oNe (CP [51, 41] none 100 (dCall fRange (dL1 (dCall fLen (dL1 (V 37) dL0)) dL0)) (TV 51) dBt (aLoop none 100 (dCall fRange (dL1 (dOp2 oItem (V 37) (V 51)) dL0)) (TV 41) dBt (aEmit (V 51)))) (dCall fSorted (dL1 (V 31) dL0)))) (dSeq (dRet (dC (.bool false))) dNil) dNil), (dIf (dTru (dOp2 oNe (V 39) (dCall fLen (dL1 (CP [52, 15] none 100 (dCall fRange (dL1 (dC (.int 6)) dL0)) (TV 52) dBt (aLoop none 100 (dCall fRange (dL1 (V 52) dL0)) (TV 15) (dOr (dTru (dOp2 oEq (dOp2 oItem (V 31) (V 15)) (dOp2 oItem (V 31) (V 52)))) (dOr (dTru (dOp2 oEq (dOp2 oItem (V 31) (V 15)) (dOp2 oAdd (dOp2 oItem (V 31) (V 52)) (dC (.int 1))))) dBf)) (aEmit (V 15)))) dL0)))) (dSeq (dRet (dC (.bool false))) dNil) dNil), (dRet (dOp2 oEq (dCall (dFn [38] (F_law_backP V A TV T TR AV CP)) (dL1 (V 38) dL0)) (V 23)))]
noncomputable def dC1P (V : Nat → D) (A : Nat → D → DS) (TV : Nat → Tg) (T TR : List Nat → Tg) (AV : Nat → Op2 → D → DS) (CP : List Nat → Option Addr → Nat → D → Tg → DB → DA → D) : DB := (dTru (dOp2 oNe (V 28) (CP [20] none 100 (dCall fRange (dL1 (dC (.int 12)) dL0)) (TV 20) dBt (aEmit (dIte (dTru (dOp2 oEq (dOp2 oItem (V 23) (V 20)) (dC (.str "(")))) (dOp2 oItem (V 47) (dBMeth selStr fCount (dSliceS (V 23) none (some (V 20))) (dL1 (dC (.str "(")) dL0))) (dC (.str ".")))))))
theorem drest_q : drest = drestP qVar qAsg qV qT qTR qAugV qComp := by
  rw [qVar_eq, qAsg_eq, qV_eq, qT_eq, qTR_eq, qAugV_eq, qComp_eq]
  rfl
theorem dC1_q : dC1 = dC1P qVar qAsg qV qT qTR qAugV qComp := by
  rw [qVar_eq, qAsg_eq, qV_eq, qT_eq, qTR_eq, qAugV_eq, qComp_eq]
  rfl
noncomputable def bitsOf : Nat → Nat → List Bool
  | 0, _ => []
  | n + 1, k => (k % 2 == 1) :: bitsOf n (k / 2)
noncomputable def ws0 : List Nat := [63, 95, 159, 287, 543, 1055]
noncomputable def ws1 : List Nat := [111, 175, 303, 559, 1071, 207]
noncomputable def ws2 : List Nat := [335, 591, 1103, 399, 655, 1167]
noncomputable def ws3 : List Nat := [783, 1295, 119, 183, 311, 567]
noncomputable def ws4 : List Nat := [1079, 215, 343, 599, 1111, 407]
noncomputable def ws5 : List Nat := [663, 1175, 791, 1303, 231, 359]
noncomputable def ws6 : List Nat := [615, 1127, 423, 679, 1191, 807]
noncomputable def ws7 : List Nat := [1319, 455, 711, 1223, 839, 1351]
noncomputable def ws8 : List Nat := [123, 187, 315, 571, 1083, 219]
noncomputable def ws9 : List Nat := [347, 603, 1115, 411, 667, 1179]
noncomputable def ws10 : List Nat := [795, 1307, 235, 363, 619, 1131]
noncomputable def ws11 : List Nat := [427, 683, 1195, 811, 1323, 459]
noncomputable def ws12 : List Nat := [715, 1227, 843, 1355, 243, 371]
noncomputable def ws13 : List Nat := [627, 1139, 435, 691, 1203, 819]
noncomputable def ws14 : List Nat := [1331, 467, 723, 1235, 851, 1363]
noncomputable def ws15 : List Nat := [125, 189, 317, 573, 1085, 221]
noncomputable def ws16 : List Nat := [349, 605, 1117, 413, 669, 1181]
noncomputable def ws17 : List Nat := [797, 1309, 237, 365, 621, 1133]
noncomputable def ws18 : List Nat := [429, 685, 1197, 813, 1325, 461]
noncomputable def ws19 : List Nat := [717, 1229, 845, 1357, 245, 373]
noncomputable def ws20 : List Nat := [629, 1141, 437, 693, 1205, 821]
noncomputable def ws21 : List Nat := [1333, 469, 725, 1237, 853, 1365]
theorem words_eq : wordsN 12 = (ws0 ++ ws1 ++ ws2 ++ ws3 ++ ws4 ++ ws5 ++ ws6 ++ ws7 ++ ws8 ++ ws9 ++ ws10 ++ ws11 ++ ws12 ++ ws13 ++ ws14 ++ ws15 ++ ws16 ++ ws17 ++ ws18 ++ ws19 ++ ws20 ++ ws21).map (bitsOf 12) := by decide +kernel
noncomputable def P1 (n : Nat) : Prop := ∀ sc mh, dC1 (meOf sc (bitsOf 12 n)) mh = some (false, mh)
noncomputable def P2 (n : Nat) : Prop := ∀ sc x0 x1 x2 x3 x4 x5 x6 x7 x8 x9 x10 x11 x12 x13 x14 x15 x16 x17 x18 x19, chk sc (bitsOf 12 n) [x0, x1, x2, x3, x4, x5, x6, x7, x8, x9, x10, x11, x12, x13, x14, x15, x16, x17, x18, x19] = true
theorem p1_of {l : List Nat} (h : ∀ sc mh, l.map (fun n => dC1P qVar qAsg qV qT qTR qAugV qComp (meOf sc (bitsOf 12 n)) mh) = l.map fun _ => some (false, mh)) : ∀ n ∈ l, P1 n := fun n hn sc mh => by
  have := List.map_inj_left.mp (h sc mh) n hn
  rw [dC1_q]
  exact this
theorem p2_of {l : List Nat} (h : ∀ sc x0 x1 x2 x3 x4 x5 x6 x7 x8 x9 x10 x11 x12 x13 x14 x15 x16 x17 x18 x19, l.all (fun n => isT (seqs (drestP qVar qAsg qV qT qTR qAugV qComp) (meOf sc (bitsOf 12 n)) [x0, x1, x2, x3, x4, x5, x6, x7, x8, x9, x10, x11, x12, x13, x14, x15, x16, x17, x18, x19])) = true) : ∀ n ∈ l, P2 n := fun n hn sc x0 x1 x2 x3 x4 x5 x6 x7 x8 x9 x10 x11 x12 x13 x14 x15 x16 x17 x18 x19 => by
  unfold chk
  rw [drest_q]
  exact List.all_eq_true.mp (h sc x0 x1 x2 x3 x4 x5 x6 x7 x8 x9 x10 x11 x12 x13 x14 x15 x16 x17 x18 x19) n hn
theorem all_app {Q : Nat → Prop} {a b : List Nat} (h : ∀ n ∈ a, Q n) (k : ∀ n ∈ b, Q n) : ∀ n ∈ a ++ b, Q n := fun n hn => (List.mem_append.mp hn).elim (h n) (k n)
theorem q1_0 : ∀ n ∈ ws0, P1 n := p1_of fun sc mh => by kernel_rfl
theorem q2_0 : ∀ n ∈ ws0, P2 n := p2_of fun sc x0 x1 x2 x3 x4 x5 x6 x7 x8 x9 x10 x11 x12 x13 x14 x15 x16 x17 x18 x19 => by kernel_rfl
theorem q1_1 : ∀ n ∈ ws1, P1 n := p1_of fun sc mh => by kernel_rfl
theorem q2_1 : ∀ n ∈ ws1, P2 n := p2_of fun sc x0 x1 x2 x3 x4 x5 x6 x7 x8 x9 x10 x11 x12 x13 x14 x15 x16 x17 x18 x19 => by kernel_rfl
theorem q1_2 : ∀ n ∈ ws2, P1 n := p1_of fun sc mh => by kernel_rfl
theorem q2_2 : ∀ n ∈ ws2, P2 n := p2_of fun sc x0 x1 x2 x3 x4 x5 x6 x7 x8 x9 x10 x11 x12 x13 x14 x15 x16 x17 x18 x19 => by kernel_rfl
theorem q1_3 : ∀ n ∈ ws3, P1 n := p1_of fun sc mh => by kernel_rfl
theorem q2_3 : ∀ n ∈ ws3, P2 n := p2_of fun sc x0 x1 x2 x3 x4 x5 x6 x7 x8 x9 x10 x11 x12 x13 x14 x15 x16 x17 x18 x19 => by kernel_rfl
theorem q1_4 : ∀ n ∈ ws4, P1 n := p1_of fun sc mh => by kernel_rfl
theorem q2_4 : ∀ n ∈ ws4, P2 n := p2_of fun sc x0 x1 x2 x3 x4 x5 x6 x7 x8 x9 x10 x11 x12 x13 x14 x15 x16 x17 x18 x19 => by kernel_rfl
theorem q1_5 : ∀ n ∈ ws5, P1 n := p1_of fun sc mh => by kernel_rfl
theorem q2_5 : ∀ n ∈ ws5, P2 n := p2_of fun sc x0 x1 x2 x3 x4 x5 x6 x7 x8 x9 x10 x11 x12 x13 x14 x15 x16 x17 x18 x19 => by kernel_rfl
theorem q1_6 : ∀ n ∈ ws6, P1 n := p1_of fun sc mh => by kernel_rfl
theorem q2_6 : ∀ n ∈ ws6, P2 n := p2_of fun sc x0 x1 x2 x3 x4 x5 x6 x7 x8 x9 x10 x11 x12 x13 x14 x15 x16 x17 x18 x19 => by kernel_rfl
theorem q1_7 : ∀ n ∈ ws7, P1 n := p1_of fun sc mh => by kernel_rfl
theorem q2_7 : ∀ n ∈ ws7, P2 n := p2_of fun sc x0 x1 x2 x3 x4 x5 x6 x7 x8 x9 x10 x11 x12 x13 x14 x15 x16 x17 x18 x19 => by kernel_rfl
theorem q1_8 : ∀ n ∈ ws8, P1 n := p1_of fun sc mh => by kernel_rfl
theorem q2_8 : ∀ n ∈ ws8, P2 n := p2_of fun sc x0 x1 x2 x3 x4 x5 x6 x7 x8 x9 x10 x11 x12 x13 x14 x15 x16 x17 x18 x19 => by kernel_rfl
theorem q1_9 : ∀ n ∈ ws9, P1 n := p1_of fun sc mh => by kernel_rfl
theorem q2_9 : ∀ n ∈ ws9, P2 n := p2_of fun sc x0 x1 x2 x3 x4 x5 x6 x7 x8 x9 x10 x11 x12 x13 x14 x15 x16 x17 x18 x19 => by kernel_rfl
theorem q1_10 : ∀ n ∈ ws10, P1 n := p1_of fun sc mh => by kernel_rfl
theorem q2_10 : ∀ n ∈ ws10, P2 n := p2_of fun sc x0 x1 x2 x3 x4 x5 x6 x7 x8 x9 x10 x11 x12 x13 x14 x15 x16 x17 x18 x19 => by kernel_rfl
theorem q1_11 : ∀ n ∈ ws11, P1 n := p1_of fun sc mh => by kernel_rfl
theorem q2_11 : ∀ n ∈ ws11, P2 n := p2_of fun sc x0 x1 x2 x3 x4 x5 x6 x7 x8 x9 x10 x11 x12 x13 x14 x15 x16 x17 x18 x19 => by kernel_rfl
theorem q1_12 : ∀ n ∈ ws12, P1 n := p1_of fun sc mh => by kernel_rfl
theorem q2_12 : ∀ n ∈ ws12, P2 n := p2_of fun sc x0 x1 x2 x3 x4 x5 x6 x7 x8 x9 x10 x11 x12 x13 x14 x15 x16 x17 x18 x19 => by kernel_rfl
theorem q1_13 : ∀ n ∈ ws13, P1 n := p1_of fun sc mh => by kernel_rfl
theorem q2_13 : ∀ n ∈ ws13, P2 n := p2_of fun sc x0 x1 x2 x3 x4 x5 x6 x7 x8 x9 x10 x11 x12 x13 x14 x15 x16 x17 x18 x19 => by kernel_rfl
theorem q1_14 : ∀ n ∈ ws14, P1 n := p1_of fun sc mh => by kernel_rfl
theorem q2_14 : ∀ n ∈ ws14, P2 n := p2_of fun sc x0 x1 x2 x3 x4 x5 x6 x7 x8 x9 x10 x11 x12 x13 x14 x15 x16 x17 x18 x19 => by kernel_rfl
theorem q1_15 : ∀ n ∈ ws15, P1 n := p1_of fun sc mh => by kernel_rfl
theorem q2_15 : ∀ n ∈ ws15, P2 n := p2_of fun sc x0 x1 x2 x3 x4 x5 x6 x7 x8 x9 x10 x11 x12 x13 x14 x15 x16 x17 x18 x19 => by kernel_rfl
theorem q1_16 : ∀ n ∈ ws16, P1 n := p1_of fun sc mh => by kernel_rfl
theorem q2_16 : ∀ n ∈ ws16, P2 n := p2_of fun sc x0 x1 x2 x3 x4 x5 x6 x7 x8 x9 x10 x11 x12 x13 x14 x15 x16 x17 x18 x19 => by kernel_rfl
theorem q1_17 : ∀ n ∈ ws17, P1 n := p1_of fun sc mh => by kernel_rfl
theorem q2_17 : ∀ n ∈ ws17, P2 n := p2_of fun sc x0 x1 x2 x3 x4 x5 x6 x7 x8 x9 x10 x11 x12 x13 x14 x15 x16 x17 x18 x19 => by kernel_rfl
theorem q1_18 : ∀ n ∈ ws18, P1 n := p1_of fun sc mh => by kernel_rfl
theorem q2_18 : ∀ n ∈ ws18, P2 n := p2_of fun sc x0 x1 x2 x3 x4 x5 x6 x7 x8 x9 x10 x11 x12 x13 x14 x15 x16 x17 x18 x19 => by kernel_rfl
theorem q1_19 : ∀ n ∈ ws19, P1 n := p1_of fun sc mh => by kernel_rfl
theorem q2_19 : ∀ n ∈ ws19, P2 n := p2_of fun sc x0 x1 x2 x3 x4 x5 x6 x7 x8 x9 x10 x11 x12 x13 x14 x15 x16 x17 x18 x19 => by kernel_rfl
theorem q1_20 : ∀ n ∈ ws20, P1 n := p1_of fun sc mh => by kernel_rfl
theorem q2_20 : ∀ n ∈ ws20, P2 n := p2_of fun sc x0 x1 x2 x3 x4 x5 x6 x7 x8 x9 x10 x11 x12 x13 x14 x15 x16 x17 x18 x19 => by kernel_rfl
theorem q1_21 : ∀ n ∈ ws21, P1 n := p1_of fun sc mh => by kernel_rfl
theorem q2_21 : ∀ n ∈ ws21, P2 n := p2_of fun sc x0 x1 x2 x3 x4 x5 x6 x7 x8 x9 x10 x11 x12 x13 x14 x15 x16 x17 x18 x19 => by kernel_rfl
theorem all1 : ∀ w ∈ wordsN 12, ∀ sc mh, dC1 (meOf sc w) mh = some (false, mh) := by
  rw [words_eq]
  intro w hw
  obtain ⟨n, hn, rfl⟩ := List.mem_map.mp hw
  exact (all_app (all_app (all_app (all_app (all_app (all_app (all_app (all_app (all_app (all_app (all_app (all_app (all_app (all_app (all_app (all_app (all_app (all_app (all_app (all_app (all_app q1_0 q1_1) q1_2) q1_3) q1_4) q1_5) q1_6) q1_7) q1_8) q1_9) q1_10) q1_11) q1_12) q1_13) q1_14) q1_15) q1_16) q1_17) q1_18) q1_19) q1_20) q1_21) n hn
theorem all2 : ∀ w ∈ wordsN 12, ∀ sc x0 x1 x2 x3 x4 x5 x6 x7 x8 x9 x10 x11 x12 x13 x14 x15 x16 x17 x18 x19, chk sc w [x0, x1, x2, x3, x4, x5, x6, x7, x8, x9, x10, x11, x12, x13, x14, x15, x16, x17, x18, x19] = true := by
  rw [words_eq]
  intro w hw
  obtain ⟨n, hn, rfl⟩ := List.mem_map.mp hw
  exact (all_app (all_app (all_app (all_app (all_app (all_app (all_app (all_app (all_app (all_app (all_app (all_app (all_app (all_app (all_app (all_app (all_app (all_app (all_app (all_app (all_app q2_0 q2_1) q2_2) q2_3) q2_4) q2_5) q2_6) q2_7) q2_8) q2_9) q2_10) q2_11) q2_12) q2_13) q2_14) q2_15) q2_16) q2_17) q2_18) q2_19) q2_20) q2_21) n hn
theorem law_ev (sc : List Int) (hl : sc.length ≤ 63) : ∃ mh', dFn [17] F_law [.lst (sc.map .int)] [] = some (.bool true, mh') := law_of all1 all2 sc hl
end Mine

namespace Mine

/-! ## from the head of an open law to the plain law -/
theorem ints_of {R : WRecords} : ∀ xs : List WData, WShape.hasItems R xs .int = true → ∃ ns : List Int, xs = ns.map .int
  | [], _ => ⟨[], rfl⟩
  | x :: r, h => by
    have h' : WShape.has R x .int = true ∧ WShape.hasItems R r .int = true := Bool.and_eq_true_iff.mp h
    obtain ⟨ns, rfl⟩ := ints_of r h'.2
    cases x <;> first | exact ⟨_ :: ns, rfl⟩ | exact Bool.noConfusion (show false = true from h'.1)
theorem law_args {l : OpenLaw} (hm : l.most = some 63) (hb : l.bound = none) {args : List WData} (hpre : l.row.claim.pre args = true) : ∃ ns : List Int, args = [.list (ns.map .int)] ∧ ns.length ≤ 63 := by
  obtain ⟨h1, h2⟩ := pre_splitW hpre
  obtain ⟨d, r, rfl, h3, h4⟩ := hasAllW_cons h1
  have := hasAllW_nil h4
  subst this
  obtain ⟨xs, rfl, h5⟩ := hasW_list h3
  obtain ⟨ns, rfl⟩ := ints_of xs h5
  refine ⟨ns, rfl, ?_⟩
  have h6 : l.pre.holds [] { args := [.list (ns.map .int)] } = true := h2
  unfold OpenLaw.pre at h6
  rw [hm, hb] at h6
  have h7 := (holds_andW h6).1
  simp [WTm.holds, WTm.value, less?, Num.less?] at h7
  cases hq : decide (63 < (ns.length : Int)) with
  | true => simp [hq] at h7
  | false => have := of_decide_eq_false hq; omega
theorem ints_well {P : Params} {h : Heap} {ρ : Wd} : ∀ (ns : List Int) (vs : List Value), WellAll P h vs (ns.map .int) → VRs ρ (ns.map .int) vs
  | [], vs, w => by cases w; exact .nil
  | n :: r, vs, w => by
    cases w with
    | cons w1 w2 =>
      cases w1
      exact .cons .int' (ints_well r _ w2)
theorem Aok.caller {d : Nat} (hd : d ≤ 50) : Aok d callerA := by
  refine ⟨?_, ?_, rfl⟩
  · show (1 + claimMargin) + 2 * d ≤ 900
    have : claimMargin ≤ 700 := by decide
    omega
  · show 4 + 16 * d ≤ 9000
    omega
theorem law_done {l : OpenLaw} {C : Cx} {den : DF} {d : Nat} {fA : Addr} {s1 : Shared} {cl : Str → Option Addr} {mean : ExcName → Option Value} {args : List WData} {vals : List Value} {E : Value → Shared → Prop}
    (hm : l.most = some 63) (hb : l.bound = none) (ok : C.Ok) (hC : C.base = s1.heap) (hos : C.os = s1.os) (hgens : s1.gens = #[]) (hT : ∀ p ∈ C.T, CodeTab s1.heap p.1 p.2 #[]) (hd : d ≤ 50) (hr : RF C d fA den)
    (hev : ∀ sc : List Int, sc.length ≤ 63 → ∃ mh', den [.lst (sc.map .int)] [] = some (.bool true, mh')) (hpre : l.row.claim.pre args = true) (hwell : WellAll C.w.params s1.heap vals args) :
    wpAny C.M callerA (call (.ref fA) vals) (fun v s' => GoodWG l.row.claim cl mean args s1 (.ok (.ret v)) s') E s1 := by
  obtain ⟨ns, rfl, hlen⟩ := law_args hm hb hpre
  obtain ⟨mh', he⟩ := hev ns hlen
  cases hwell with
  | cons w1 w2 =>
    cases w2
    cases w1 with
    | @list la vs _ hla wv =>
      have hx : ∀ p ∈ C.T, s1.heap.get? p.2 = some { cls := .none, data := .fields #[] } := fun p hp => (hT p hp).2.2
      have hnx : la ∉ C.X := fun hm => by
        obtain ⟨p, hp, e⟩ := List.mem_map.mp hm
        have := hx p hp
        rw [e, hla] at this
        cases this
      have I : Inv C ⟨[], [(la, listO vs 0)], [], (C.prog, C.w)⟩ [] s1.heap := by
        refine ⟨rfl, List.nodup_nil, fun i mo hi => by simp at hi, fun p hp => ?_, fun p hp => by simp, fun p hp => by simp at hp, fun a ha => by simp at ha, fun p hp => ?_, fun b o e hb => by rw [← hC]; exact e, fun p hp => ⟨#[], hT p hp, fun pos q _ cv hc => by simp [codeAmong] at hc⟩, fun p hp => ⟨?_, ?_, ?_⟩, rfl⟩
        · simp at hp; subst hp; exact hla
        · simp at hp; subst hp; exact hnx
        · obtain ⟨⟨o, vs', h1, h2⟩, _⟩ := (hT p hp).2
          exact ⟨o, by rw [hC]; exact h1⟩
        · exact ⟨_, by rw [hC]; exact hx p hp⟩
        · intro hm
          obtain ⟨q, hq, e⟩ := List.mem_map.mp hm
          obtain ⟨⟨o, vs', h1, h2, _⟩, _⟩ := (hT p hp).2
          have := hx q hq
          rw [e, h1] at this
          cases this
          cases h2
      have so : SOk C s1 := ⟨hos.symm, by rw [hgens]; exact AllBare.empty⟩
      refine wpAny_call (hr he (Aok.caller hd) I so (.cons (.lst' (List.mem_singleton.mpr rfl) (ints_well ns vs wv)) .nil) fun v ρ' s' x I' so' hv => ?_)
      have := hv.bool_
      subst this
      refine ⟨.inl ⟨.bool true, .bool true, [], rfl, fun cls => rfl, .bool true, postW_of (X := same (.bool true) (.bool true)) (by simp [WShape.has, WShape.arms, OpenLaw.row]) rfl (same_self _), fun _ => ⟨List.nodup_nil, fun a ha => by simp at ha⟩⟩, ⟨fun b o e => ?_, fun b o e => x.live b o e⟩, so'.os.trans hos, so'.gens⟩
      by_cases hbx : b ∈ C.X
      · obtain ⟨p, hp, rfl⟩ := List.mem_map.mp hbx
        obtain ⟨ps, hc, _⟩ := I'.tab p hp
        have h0 := hx p hp
        rw [h0] at e
        cases e
        exact .inr (.inl ⟨(hT p hp).2.isCodeTable, rfl, #[], ps, rfl, by rw [hc.2.2]; simp⟩)
      · exact .inl (I'.keep b o (by rw [hC]; exact e) hbx)
end Mine

namespace Mine
theorem said03 : PySem.Challenge.rw_ph0056_03.wellSaid = true := by kernel_rfl
theorem tbl03_nd : tbl03.Nodup := by decide +kernel
set_option maxHeartbeats 4000000 in
theorem ok03 {w : World} {s1 : Shared} {mg mb : Str → Option Value} {p : Program} {loose : List Str} {mean : ExcName → Option Value} (T : Top p loose mean mg mb s1.heap) (X : Frag.In (K03 w.params) s1.heap) (hx : ∀ P ∈ [105, 112, 184], s1.heap.get? P = some (tabObj #[])) : (cx03 w s1.heap s1.os mg mb).Ok where
  g := T.g
  b := T.b
  nolimit := T.nolimit
  builtins := T.builtins
  k := X
  kx := fun a ha => by
    have : a = 105 ∨ a = 112 ∨ a = 184 := by simpa [cx03, Cx.X] using ha
    rcases this with rfl | rfl | rfl <;> kernel_rfl
  gx := by show mainGlobals ∉ [105, 112, 184]; decide
  bx := by show builtinsNs ∉ [105, 112, 184]; decide
  sx := by show cStatics ∉ [105, 112, 184]; decide
  nd := tbl03_nd
  tu := by show ∀ p ∈ [(109, 105), (116, 112), (188, 184)], ∀ q ∈ [(109, 105), (116, 112), (188, 184)], q.2 = p.2 → q = p; decide
  mod := by
    obtain ⟨bm, ob, h1, h2, h3, h4, h5, h6⟩ := T.bmain
    refine ⟨bm, ob, h1, h2, h3, h4, h5, h6, fun hm => ?_⟩
    have := hx bm hm
    rw [h3] at this
    cases this
    cases h4
set_option maxHeartbeats 4000000 in
theorem g03 {w : World} {s1 : Shared} {mg mb : Str → Option Value} {p : Program} {loose : List Str} {mean : ExcName → Option Value} (T : Top p loose mean mg mb s1.heap) (X : Frag.In (K03 w.params) s1.heap) : G03 mg mb where
  range := ⟨mg_none_of X T.g (by kernel_rfl), (T.builtins _ (by decide)).trans (by kernel_rfl)⟩
  len := ⟨mg_none_of X T.g (by kernel_rfl), (T.builtins _ (by decide)).trans (by kernel_rfl)⟩
  sum := ⟨mg_none_of X T.g (by kernel_rfl), (T.builtins _ (by decide)).trans (by kernel_rfl)⟩
  iter := ⟨mg_none_of X T.g (by kernel_rfl), (T.builtins _ (by decide)).trans (by kernel_rfl)⟩
  sorted := ⟨mg_none_of X T.g (by kernel_rfl), (T.builtins _ (by decide)).trans (by kernel_rfl)⟩
  super := ⟨mg_none_of X T.g (by kernel_rfl), (T.builtins _ (by decide)).trans (by kernel_rfl)⟩
  str := ⟨mg_none_of X T.g (by kernel_rfl), (T.builtins _ (by decide)).trans (by kernel_rfl)⟩
  empty := ⟨_, mg_of X T.g rfl⟩
  acc := mg_of X T.g (by kernel_rfl)
  nrc := mg_of X T.g (by kernel_rfl)
  law_names := mg_of X T.g (by kernel_rfl)
  law_numbers := mg_of X T.g (by kernel_rfl)
  law_drawn := mg_of X T.g (by kernel_rfl)
  law_written := mg_of X T.g (by kernel_rfl)
  law_sheet := mg_of X T.g (by kernel_rfl)
  law_lexer := mg_of X T.g (by kernel_rfl)
  law_pile := mg_of X T.g (by kernel_rfl)
  law_line := mg_of X T.g (by kernel_rfl)
  law_back := mg_of X T.g (by kernel_rfl)
theorem tab03 {w : World} {s1 : Shared} {mg mb : Str → Option Value} (X : Frag.In (K03 w.params) s1.heap) (hx : ∀ P ∈ [105, 112, 184], s1.heap.get? P = some (tabObj #[])) : ∀ p ∈ (cx03 w s1.heap s1.os mg mb).T, CodeTab s1.heap p.1 p.2 #[] := by
  have key : ∀ c P, codeHdIn (K03 w.params) c P = true → P ∈ [105, 112, 184] → CodeTab s1.heap c P #[] := fun c P h hP => by
    obtain ⟨o, vs, f, tf, fl, tg, b, n, tt, h1, h2, h3, h4, h5, h6, h7, h8, h9, h10⟩ := codeHd_of_K X h
    exact ⟨⟨o, vs, f, tf, fl, tg, b, n, tt, _, h1, h3, h5, h6, h7, h8, h9, hx P hP, rfl, trivial, h10⟩, ⟨o, vs, h1, h2, h3, h4⟩, hx P hP⟩
  intro p hp
  have : p = (109, 105) ∨ p = (116, 112) ∨ p = (188, 184) := by simpa [cx03] using hp
  rcases this with rfl | rfl | rfl
  · exact key _ _ (by kernel_rfl) (by decide)
  · exact key _ _ (by kernel_rfl) (by decide)
  · exact key _ _ (by kernel_rfl) (by decide)
noncomputable def lawV03 : Program := keepB PySem.Challenge.pw_ph0056_03 [16]
noncomputable def hook03 : Hook := kmHook K03 [2, 3, 20, 21, 34, 35, 41, 42, 48, 49, 55, 56, 58, 59, 67, 72, 79, 80, 86, 87, 88, 94, 95, 102, 103, 109, 110, 116, 117, 118, 124, 125, 131, 132, 139, 140, 142, 143, 153, 154, 160, 161, 167, 168, 174, 175, 181, 182, 188, 189, 195, 196, 202, 203, 209, 210, 214, 215] (fun _ => by kernel_rfl) [105, 112, 184]
end Mine
set_option maxHeartbeats 8000000 in
theorem PySem.Challenge.cw_ph0056_03_holds : PySem.Challenge.rw_ph0056_03.Holds := by
  w_on
  refine holds_law Mine.said03 fun said => ?_
  refine holds_open (q := Mine.lawV03) (loose := ["_wall", "_netrclex", "EMPTYSTRING", "_Accumulator", "_law_names", "_law_numbers", "_law_drawn", "_law_written", "_law_sheet", "_law_lexer", "_law_pile", "_law_line", "_law_back"]) (Xt := fun s => xlAt Mine.lawV03 [] s && recOk (RowW.records PySem.Challenge.rw_ph0056_03.row.toRowW) s) (XP := XL Mine.lawV03 []) (Yf := Hook.obs Mine.hook03) (Ya := Hook.val Mine.hook03) (YP := Hook.says Mine.hook03) (N := 1500) ?hl (Hook.of Mine.hook03) (Hook.keeps Mine.hook03) (fun s e => xl_of s (Bool.and_eq_true_iff.mp e).1) XL.keeps (by rfl) (by rfl) (by rfl) (fun s e => recFacts_of (Bool.and_eq_true_iff.mp e).2) (by rfl) (by first | assumption | decide +kernel) (by decide +kernel) ⟨rfl, rfl, rfl, rfl, rfl, by decide +kernel⟩ ?hw ?hc
  case hw => w_witness2
  case hl => intro w; kernel_rfl
  intro w s0 s1 mg mb G Y a o pm cd doc dV kV ho hd hcd hdf hmg hgens args vals as hpre hlay hrd hwell hlow
  have X : Frag.In (Mine.K03 w.params) s1.heap := km_in_of Y
  have hx : ∀ P ∈ [105, 112, 184], s1.heap.get? P = some (tabObj #[]) := km_tabs_of Y
  have e : mg "law" = some (.ref 215) := mg_of X G.T.g (by kernel_rfl)
  have ea : a = 215 := by
    have h : mg "law" = some (.ref a) := hmg
    rw [e] at h
    cases h; rfl
  subst ea
  clear hd hcd hdf hmg ho hlay hrd hlow
  exact Mine.law_done rfl rfl (Mine.ok03 G.T X hx) rfl rfl hgens (Mine.tab03 X hx) (by decide) (Mine.RF_law (Mine.ok03 G.T X hx) (Mine.g03 G.T X)) Mine.law_ev hpre hwell

