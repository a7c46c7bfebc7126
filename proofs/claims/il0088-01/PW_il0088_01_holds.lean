import PyProof.Rows.All
import Wide.All
import OpenK.AllK
import Wide.FinOn
import KE.KLam
import PyProof.Rows.CellsFrame
import PySem.Builtin.Re_Pattern.W2All
import Lean
import PySem.Challenge.RW_il0088_01

section
open PySem PySem.W PySem.Calls PyProof.Rows
namespace Mine
set_option linter.unusedVariables false

/-- what the walk knows of a place's content -/
abbrev PH := Addr → Option Obj
def PH.le (z z' : PH) : Prop := ∀ a o, z a = some o → z' a = some o
theorem PH.le.refl (z : PH) : z.le z := fun _ _ h => h
theorem PH.le.trans {a b c : PH} (x : a.le b) (y : b.le c) : a.le c := fun q o h => y q o (x q o h)
def PH.inH (z : PH) (h : Heap) : Prop := ∀ a o, z a = some o → h.get? a = some o
def HK (h h' : Heap) : Prop := ∀ a o, h.get? a = some o → h'.get? a = some o
theorem HK.refl (h : Heap) : HK h h := fun _ _ e => e
theorem HK.trans {a b c : Heap} (x : HK a b) (y : HK b c) : HK a c := fun q o h => y q o (x q o h)

/-- the data of the walk -/
inductive D where
  | val (v : Value)
  | int (i : Int)
  | str (x : List Nat)
  | list (ds : List D)
  | tup (ds : List D)
  | dict (kvs : List (List Nat × D))
  | bnd (a : Addr)
  | fn
abbrev D.bool (b : Bool) : D := .val (.bool b)
abbrev D.none : D := .val .none
/-- the append of a list, bound to it -/
def bndObj (a : Addr) : Obj := { cls := .type "builtin_function_or_method", data := .fields #[.builtin "list.append", .ref a] }

mutual
inductive Rep (P : Params) (z : PH) : Value → D → Prop
  | val (v : Value) : Rep P z v (.val v)
  | int (i : Int) (t : Tok) : Rep P z (.int i t) (.int i)
  | str (x : Str) (t : Tok) : Rep P z (.str x t) (.str x.cps.toList)
  | list {a : Addr} {vs : List Value} {n : Nat} {ds : List D} : z a = some (W.listOf vs.toArray n) → RepAll P z vs ds → Rep P z (.ref a) (.list ds)
  | tup {a : Addr} {vs : List Value} {n : Nat} {ds : List D} : z a = some { cls := .type "tuple", data := .seq vs.toArray n } → RepAll P z vs ds → Rep P z (.ref a) (.tup ds)
  | dict {a : Addr} {o : Obj} {es : Array DictEntry} {n : Nat} {kvs : List (List Nat × D)} : z a = some o → (a == sysModules) = false → o.ExactDict → o.data = .dict es n → RepKv P z es.toList kvs → (kvs.map (·.1)).Nodup → Rep P z (.ref a) (.dict kvs)
  | bnd {b a : Addr} : z b = some (bndObj a) → Rep P z (.ref b) (.bnd a)
  | fn {b : Addr} {fd : FuncData} : z b = some { cls := .type "function", data := .func fd } → Rep P z (.ref b) .fn
inductive RepAll (P : Params) (z : PH) : List Value → List D → Prop
  | nil : RepAll P z [] []
  | cons {v : Value} {vs : List Value} {d : D} {ds : List D} : Rep P z v d → RepAll P z vs ds → RepAll P z (v :: vs) (d :: ds)
inductive RepKv (P : Params) (z : PH) : List DictEntry → List (List Nat × D) → Prop
  | nil : RepKv P z [] []
  | cons {k : Str} {t : Tok} {v : Value} {es : List DictEntry} {d : D} {kvs : List (List Nat × D)} : Rep P z v d → RepKv P z es kvs → RepKv P z (⟨PyData.keyHash P k, .str k t, v⟩ :: es) ((k.cps.toList, d) :: kvs)
end
/-! what a datum tells of its value -/
theorem Rep.strE {P : Params} {z : PH} {motive : ∀ {v : Value} {l : List Nat}, Rep P z v (.str l) → Prop} (str : ∀ (x : Str) (t : Tok), motive (.str x t)) {v : Value} {l : List Nat} (h : Rep P z v (.str l)) : motive h := by
  cases h with | str x t => exact str x t
theorem Rep.intE {P : Params} {z : PH} {motive : ∀ {v : Value} {i : Int}, Rep P z v (.int i) → Prop} (int : ∀ (i : Int) (t : Tok), motive (.int i t)) {v : Value} {i : Int} (h : Rep P z v (.int i)) : motive h := by
  cases h with | int i t => exact int i t
theorem Rep.valE {P : Params} {z : PH} {motive : ∀ {v u : Value}, Rep P z v (.val u) → Prop} (val : ∀ v : Value, motive (.val v)) {v u : Value} (h : Rep P z v (.val u)) : motive h := by
  cases h with | val v => exact val v
theorem Rep.listE {P : Params} {z : PH} {motive : ∀ {v : Value} {ds : List D}, Rep P z v (.list ds) → Prop} (list : ∀ {a : Addr} {vs : List Value} {n : Nat} {ds : List D} (h : z a = some (W.listOf vs.toArray n)) (r : RepAll P z vs ds), motive (.list h r)) {v : Value} {ds : List D} (h : Rep P z v (.list ds)) : motive h := by
  cases h with | list h r => exact list h r
theorem Rep.tupE {P : Params} {z : PH} {motive : ∀ {v : Value} {ds : List D}, Rep P z v (.tup ds) → Prop} (tup : ∀ {a : Addr} {vs : List Value} {n : Nat} {ds : List D} (h : z a = some { cls := .type "tuple", data := .seq vs.toArray n }) (r : RepAll P z vs ds), motive (.tup h r)) {v : Value} {ds : List D} (h : Rep P z v (.tup ds)) : motive h := by
  cases h with | tup h r => exact tup h r
theorem RepAll.consE {P : Params} {z : PH} {motive : ∀ {vs : List Value} {d : D} {ds : List D}, RepAll P z vs (d :: ds) → Prop} (cons : ∀ {v : Value} {vs : List Value} {d : D} {ds : List D} (h : Rep P z v d) (r : RepAll P z vs ds), motive (.cons h r)) {vs : List Value} {d : D} {ds : List D} (h : RepAll P z vs (d :: ds)) : motive h := by
  cases h with | cons h r => exact cons h r
theorem RepAll.nilE {P : Params} {z : PH} {motive : ∀ {vs : List Value}, RepAll P z vs [] → Prop} (nil : motive (.nil)) {vs : List Value} (h : RepAll P z vs []) : motive h := by
  cases h with | nil => exact nil
section
variable {P : Params} {z z' : PH}
theorem Rep.mono (hz : z.le z') {v : Value} {d : D} (h : Rep P z v d) : Rep P z' v d :=
  Rep.rec (motive_1 := fun v d _ => Rep P z' v d) (motive_2 := fun vs ds _ => RepAll P z' vs ds) (motive_3 := fun es kvs _ => RepKv P z' es kvs) (fun v => .val v) (fun i t => .int i t) (fun x t => .str x t) (fun h _ r => .list (hz _ _ h) r) (fun h _ r => .tup (hz _ _ h) r) (fun h a b c _ d r => .dict (hz _ _ h) a b c r d) (fun h => .bnd (hz _ _ h)) (fun h => .fn (hz _ _ h)) .nil (fun _ _ a b => .cons a b) .nil (fun _ _ a b => .cons a b) h
theorem RepAll.mono (hz : z.le z') {vs : List Value} {ds : List D} (h : RepAll P z vs ds) : RepAll P z' vs ds :=
  RepAll.rec (motive_1 := fun v d _ => Rep P z' v d) (motive_2 := fun vs ds _ => RepAll P z' vs ds) (motive_3 := fun es kvs _ => RepKv P z' es kvs) (fun v => .val v) (fun i t => .int i t) (fun x t => .str x t) (fun h _ r => .list (hz _ _ h) r) (fun h _ r => .tup (hz _ _ h) r) (fun h a b c _ d r => .dict (hz _ _ h) a b c r d) (fun h => .bnd (hz _ _ h)) (fun h => .fn (hz _ _ h)) .nil (fun _ _ a b => .cons a b) .nil (fun _ _ a b => .cons a b) h
theorem RepKv.mono (hz : z.le z') {vs : List DictEntry} {ds : List (List Nat × D)} (h : RepKv P z vs ds) : RepKv P z' vs ds :=
  RepKv.rec (motive_1 := fun v d _ => Rep P z' v d) (motive_2 := fun vs ds _ => RepAll P z' vs ds) (motive_3 := fun es kvs _ => RepKv P z' es kvs) (fun v => .val v) (fun i t => .int i t) (fun x t => .str x t) (fun h _ r => .list (hz _ _ h) r) (fun h _ r => .tup (hz _ _ h) r) (fun h a b c _ d r => .dict (hz _ _ h) a b c r d) (fun h => .bnd (hz _ _ h)) (fun h => .fn (hz _ _ h)) .nil (fun _ _ a b => .cons a b) .nil (fun _ _ a b => .cons a b) h
theorem RepAll.length {vs : List Value} {ds : List D} (h : RepAll P z vs ds) : vs.length = ds.length := by
  induction vs generalizing ds with
  | nil => cases h; rfl
  | cons v vs ih => cases h with | cons _ r => rw [List.length_cons, List.length_cons, ih r]
theorem RepAll.append {vs ws : List Value} {ds es : List D} (h : RepAll P z vs ds) (k : RepAll P z ws es) : RepAll P z (vs ++ ws) (ds ++ es) := by
  induction vs generalizing ds with
  | nil => cases h; exact k
  | cons v vs ih => cases h with | cons h r => exact .cons h (ih r)
theorem RepAll.get {vs : List Value} {ds : List D} (h : RepAll P z vs ds) {k : Nat} {d : D} (hk : ds[k]? = some d) : ∃ v, vs[k]? = some v ∧ Rep P z v d := by
  induction vs generalizing ds k with
  | nil => cases h; simp at hk
  | cons v vs ih =>
    cases h with
    | cons h r =>
      cases k with
      | zero => simp only [List.getElem?_cons_zero, Option.some.injEq] at hk; subst hk; exact ⟨v, rfl, h⟩
      | succ k => exact ih r (by simpa using hk)
theorem RepAll.take {vs : List Value} {ds : List D} (h : RepAll P z vs ds) (k : Nat) : RepAll P z (vs.take k) (ds.take k) := by
  induction vs generalizing ds k with
  | nil => cases h; simpa using RepAll.nil
  | cons v vs ih => cases h with | cons h r => cases k with
    | zero => exact .nil
    | succ k => exact .cons h (ih r k)
theorem RepAll.drop {vs : List Value} {ds : List D} (h : RepAll P z vs ds) (k : Nat) : RepAll P z (vs.drop k) (ds.drop k) := by
  induction vs generalizing ds k with
  | nil => cases h; simpa using RepAll.nil
  | cons v vs ih => cases h with | cons h r => cases k with
    | zero => exact .cons h r
    | succ k => exact ih r k
theorem RepAll.snoc {vs : List Value} {ds : List D} {v : Value} {d : D} (h : RepAll P z vs ds) (k : Rep P z v d) : RepAll P z (vs ++ [v]) (ds ++ [d]) := h.append (.cons k .nil)
theorem RepAll.strs {vs : List Value} {xs : List (List Nat)} (h : RepAll P z vs (xs.map D.str)) : ∃ l : List (Str × Tok), vs = strValues l ∧ l.map (fun p => p.1.cps.toList) = xs := by
  induction vs generalizing xs with
  | nil => cases xs with
    | nil => exact ⟨[], rfl, rfl⟩
    | cons => cases h
  | cons v vs ih =>
    cases xs with
    | nil => cases h
    | cons x xs =>
      cases h with
      | cons h r =>
        obtain ⟨l, rfl, e⟩ := ih r
        cases h with
        | str y t => exact ⟨(y, t) :: l, rfl, by rw [List.map_cons, e]⟩
end

/-- what stays fixed along a function's body -/
structure Cx where
  prog : Program
  w : World
  B : Heap
  mg : Str → Option Value
  mb : Str → Option Value
  A : Around
  env : Env
abbrev Cx.P (C : Cx) : Params := C.w.params
abbrev Cx.L (C : Cx) : Addr := C.env.locals
abbrev Cx.M (C : Cx) : Model := model C.prog C.w

/-- what the call owns and may turn -/
inductive Cell where
  | lst (ds : List D)
  | cel (d : Option D)
  | raw (o : Obj)
  | tab
  | dct (kvs : List (List Nat × D))
def PsOk (z : PH) (ps : Array Value) : Prop := ps = #[] ∨ ∃ (c' : Addr) (o : Obj) (vs : Array Value) (q : Str) (t : Tok), ps = #[rawInt 244, rawInt 39, .ref c'] ∧ z c' = some o ∧ o.data = .fields vs ∧ vs[1]? = some (.str q t)
theorem PsOk.mono {z z' : PH} (hz : z.le z') {ps : Array Value} : PsOk z ps → PsOk z' ps
  | .inl h => .inl h
  | .inr ⟨c', o, vs, q, t, h1, h2, r⟩ => .inr ⟨c', o, vs, q, t, h1, hz _ _ h2, r⟩
def CellIs (P : Params) (z : PH) (o : Obj) : Cell → Prop
  | .lst ds => ∃ vs n, o = W.listOf (vs : List Value).toArray n ∧ RepAll P z vs ds
  | .cel none => o.data = .cell none
  | .cel (some d) => ∃ v, o.data = .cell (some v) ∧ Rep P z v d
  | .raw o' => o = o'
  | .tab => ∃ ps, o = W.tabObj ps ∧ PsOk z ps
  | .dct kvs => ∃ es n, o.ExactDict ∧ o.data = .dict es n ∧ RepKv P z es.toList kvs ∧ (kvs.map (·.1)).Nodup
theorem CellIs.mono {P : Params} {z z' : PH} (hz : z.le z') {o : Obj} : ∀ {c : Cell}, CellIs P z o c → CellIs P z' o c
  | .lst _, ⟨vs, n, h, r⟩ => ⟨vs, n, h, r.mono hz⟩
  | .cel none, h => h
  | .cel (some _), ⟨v, h, r⟩ => ⟨v, h, r.mono hz⟩
  | .raw _, h => h
  | .tab, ⟨ps, h, r⟩ => ⟨ps, h, r.mono hz⟩
  | .dct _, ⟨es, n, a, b, r, c⟩ => ⟨es, n, a, b, r.mono hz, c⟩

abbrev Loc := List (Str × D)
abbrev Own := List (Addr × Cell)

def BZ (C : Cx) (z : PH) : Prop := ∀ a o, C.B.get? a = some o → z a = some o
theorem BZ.mono {C : Cx} {z z' : PH} (h : BZ C z) (hz : z.le z') : BZ C z' := fun a o e => hz _ _ (h a o e)

structure St (C : Cx) (k z : PH) (ρ : Loc) (cs : Own) (h : Heap) : Prop where
  fr : ∃ m, h.Ns C.L m ∧ ∀ x d, ρ.lookup x = some d → ∃ v, m x = some v ∧ Rep C.P z v d
  base : BZ C z
  low : z.inH h
  keep : k.inH h
  zL : z C.L = none
  kL : k C.L = none
  cell : ∀ p ∈ cs, z p.1 = none ∧ k p.1 = none ∧ p.1 ≠ C.L ∧ ∃ o, h.get? p.1 = some o ∧ CellIs C.P z o p.2
  nodup : (cs.map (·.1)).Nodup

/-- objects of z' that z has not are new over h -/
def FreshZ (h : Heap) (z z' : PH) : Prop := ∀ b o, z' b = some o → z b = some o ∨ h.get? b = none
theorem FreshZ.refl {h : Heap} {z : PH} : FreshZ h z z := fun _ _ e => .inl e
theorem FreshZ.trans {h h' : Heap} {z z' z'' : PH} (hk : HK h h') (x : FreshZ h z z') (y : FreshZ h' z' z'') : FreshZ h z z'' := fun b o e => by
  rcases y b o e with q | q
  · exact x b o q
  · refine .inr ?_
    cases e2 : h.get? b with
    | none => rfl
    | some o' => rw [hk _ _ e2] at q; cases q

theorem St.step {C : Cx} {k z z' : PH} {ρ : Loc} {cs : Own} {h h' : Heap} (S : St C k z ρ cs h) (hk : HK h h') (hz : z.le z') (hf : FreshZ h z z') (hl : z'.inH h') : St C k z' ρ cs h' := by
  obtain ⟨m, F, hm⟩ := S.fr
  have new : ∀ b o, h.get? b = some o → z b = none → z' b = none := fun b o e n => by
    cases q : z' b with
    | none => rfl
    | some o' => rcases hf _ _ q with r | r
                 · rw [n] at r; cases r
                 · rw [e] at r; cases r
  obtain ⟨oL, es, ep, e1, e2, _⟩ := id F
  refine ⟨⟨m, F.keeps hk, fun x d e => let ⟨v, a, b⟩ := hm x d e; ⟨v, a, b.mono hz⟩⟩, S.base.mono hz, hl, fun a o e => hk _ _ (S.keep a o e), new _ _ e1 S.zL, S.kL, fun p hp => ?_, S.nodup⟩
  obtain ⟨a, b, c, o, d, e⟩ := S.cell p hp
  exact ⟨new _ _ d a, b, c, o, hk _ _ d, e.mono hz⟩

def Same (s s' : Shared) : Prop := s'.gens = s.gens ∧ s'.os = s.os
theorem Same.refl (s : Shared) : Same s s := ⟨rfl, rfl⟩
theorem Same.trans {a b c : Shared} (x : Same a b) (y : Same b c) : Same a c := ⟨y.1.trans x.1, y.2.trans x.2⟩

abbrev Wp {α : Type} (C : Cx) (t : Sem α) (Q : α → Shared → Prop) (s : Shared) : Prop := wpAny C.M C.A t Q (fun _ _ => False) s
theorem Wp.mono {α : Type} {C : Cx} {t : Sem α} {Q Q' : α → Shared → Prop} {s : Shared} (h : Wp C t Q s) (k : ∀ a s', s.toks ≤ s'.toks → Q a s' → Q' a s') : Wp C t Q' s :=
  wpAny_mono (wpAny_toks h) (fun a s' x => k a s' x.1 x.2) fun _ _ x => x.2

/-- a step that makes but turns nothing -/
def PostOp {α : Type} (z : PH) (s : Shared) (P : PH → α → Prop) (a : α) (s' : Shared) : Prop :=
  HK s.heap s'.heap ∧ (∃ z', z.le z' ∧ FreshZ s.heap z z' ∧ z'.inH s'.heap ∧ P z' a) ∧ Same s s'
def Op {α : Type} (C : Cx) (z : PH) (t : Sem α) (P : PH → α → Prop) : Prop :=
  ∀ s, 0 < s.toks → BZ C z → z.inH s.heap → Wp C t (PostOp z s P) s
theorem PostOp.here {α : Type} {z : PH} {s s' : Shared} {P : PH → α → Prop} {a : α} (hz : z.inH s.heap) (hp : P z a) (hh : s'.heap = s.heap) (hs : Same s s') : PostOp z s P a s' :=
  ⟨by rw [hh]; exact HK.refl _, ⟨z, PH.le.refl _, FreshZ.refl, by rw [hh]; exact hz, hp⟩, hs⟩
theorem PostOp.tok {α : Type} {z : PH} {s : Shared} {P : PH → α → Prop} {a : α} {k : Nat} (hz : z.inH s.heap) (hp : P z a) : PostOp z s P a { s with toks := k } := .here hz hp rfl ⟨rfl, rfl⟩
theorem PostOp.now {α : Type} {z : PH} {s : Shared} {P : PH → α → Prop} {a : α} (hz : z.inH s.heap) (hp : P z a) : PostOp z s P a s := .here hz hp rfl ⟨rfl, rfl⟩

/-- z and one more -/
def PH.add (z : PH) (a : Addr) (o : Obj) : PH := fun b => if b = a then some o else z b
theorem PH.add_at (z : PH) (a : Addr) (o : Obj) : z.add a o a = some o := if_pos rfl
theorem PH.le_add {z : PH} {a : Addr} {o : Obj} (h : z a = none) : z.le (z.add a o) := fun b o' e => by
  unfold PH.add; split
  · rename_i q; subst q; rw [h] at e; cases e
  · exact e
theorem inH_none {z : PH} {h : Heap} (hz : z.inH h) {a : Addr} (e : h.get? a = none) : z a = none := by
  cases q : z a with
  | none => rfl
  | some o => rw [hz _ _ q] at e; cases e
theorem get_size (h : Heap) : h.get? h.objs.size = none := by
  cases q : h.get? h.objs.size with
  | none => rfl
  | some o => exact absurd (Heap.lt_size q) (Nat.lt_irrefl _)
theorem PostOp.push {α : Type} {z : PH} {s : Shared} {P : PH → α → Prop} {a : α} {o : Obj} {k : Nat} (hz : z.inH s.heap) (hf : o.isFreed = false) (hp : P (z.add s.heap.objs.size o) a) : PostOp z s P a { s with heap := s.heap.push o, toks := k } := by
  refine ⟨fun b o' e => Heap.get?_push_of_some _ e, ⟨_, PH.le_add (inH_none hz (get_size _)), fun b o' e => ?_, fun b o' e => ?_, hp⟩, ⟨rfl, rfl⟩⟩
  · unfold PH.add at e; split at e
    · rename_i q; subst q; exact .inr (get_size _)
    · exact .inl e
  · unfold PH.add at e; split at e
    · rename_i q; subst q; cases e; exact Heap.get?_push_size _ hf
    · exact Heap.get?_push_of_some _ (hz _ _ e)

theorem Op.ret {α : Type} {C : Cx} {z : PH} {a : α} {P : PH → α → Prop} (h : P z a) : Op C z (pure a) P := fun s _ _ hz => wpAny_pure (.now hz h)
/-- z grows, and only outside of what is kept -/
def Grow (k z z' : PH) : Prop := z.le z' ∧ ∀ b o, z' b = some o → z b = some o ∨ k b = none
theorem Grow.refl {k z : PH} : Grow k z z := ⟨PH.le.refl _, fun _ _ e => .inl e⟩
theorem Grow.trans {k a b c : PH} (x : Grow k a b) (y : Grow k b c) : Grow k a c := ⟨x.1.trans y.1, fun q o e => (y.2 q o e).elim (fun e' => x.2 q o e') .inr⟩
theorem Grow.of {k z z' : PH} {h : Heap} (hk : k.inH h) (l : z.le z') (f : FreshZ h z z') : Grow k z z' := ⟨l, fun b o e => (f b o e).imp id fun q => inH_none hk q⟩
/-- within a frame -/
def Post {α : Type} (C : Cx) (k z : PH) (ρ : Loc) (cs : Own) (s : Shared) (P : PH → α → Prop) (a : α) (s' : Shared) : Prop :=
  ∃ z', Grow k z z' ∧ St C k z' ρ cs s'.heap ∧ P z' a ∧ Same s s'
def Tr {α : Type} (C : Cx) (ρ : Loc) (cs : Own) (z : PH) (t : Sem α) (P : PH → α → Prop) : Prop :=
  ∀ k s, 0 < s.toks → St C k z ρ cs s.heap → Wp C t (Post C k z ρ cs s P) s
section
variable {C : Cx} {ρ : Loc} {cs : Own} {α β : Type}
theorem Tr.op {z : PH} {t : Sem α} {P : PH → α → Prop} (h : Op C z t P) : Tr C ρ cs z t P := by
  intro k s h0 S
  refine Wp.mono (h s h0 S.base S.low) fun a s' _ q => ?_
  obtain ⟨hk, ⟨z', l, fz, iz, hp⟩, sm⟩ := q
  exact ⟨z', .of S.keep l fz, S.step hk l fz iz, hp, sm⟩
theorem Tr.bind {z : PH} {t : Sem α} {f : α → Sem β} {P : PH → α → Prop} {P' : PH → β → Prop} (h : Tr C ρ cs z t P) (g : ∀ z' a, z.le z' → P z' a → Tr C ρ cs z' (f a) P') : Tr C ρ cs z (t >>= f) P' := by
  intro k s h0 S
  refine wpAny_bind (Wp.mono (h k s h0 S) fun a s' ht ⟨z', l, S', hp, sm⟩ => ?_)
  refine Wp.mono (g z' a l.1 hp k s' (Nat.lt_of_lt_of_le h0 ht) S') fun b s'' _ ⟨z'', l', S'', hp', sm'⟩ => ?_
  exact ⟨z'', l.trans l', S'', hp', sm.trans sm'⟩
theorem Tr.ret {z : PH} {a : α} {P : PH → α → Prop} (h : P z a) : Tr C ρ cs z (pure a) P := .op (.ret h)
theorem Tr.mono {z : PH} {t : Sem α} {P P' : PH → α → Prop} (h : Tr C ρ cs z t P) (k : ∀ z' a, z.le z' → P z' a → P' z' a) : Tr C ρ cs z t P' := fun kk s h0 S =>
  Wp.mono (h kk s h0 S) fun a s' _ ⟨z', l, S', hp, sm⟩ => ⟨z', l, S', k z' a l.1 hp, sm⟩
/-- a law of the library in continuation form -/
theorem Tr.of {z : PH} {t : Sem α} {P : PH → α → Prop} (h : ∀ k s, 0 < s.toks → St C k z ρ cs s.heap → Wp C t (Post C k z ρ cs s P) s) : Tr C ρ cs z t P := h
end

/-- an expression's datum -/
def Ev (C : Cx) (ρ : Loc) (cs : Own) (e : Expr) (d : D) : Prop := ∀ z, Tr C ρ cs z (eval e C.env) fun z' v => Rep C.P z' v d
/-- an expression as a test -/
def EvB (C : Cx) (ρ : Loc) (cs : Own) (e : Expr) (b : Bool) : Prop := ∀ z, Tr C ρ cs z (isTrue e C.env (eval e C.env)) fun _ v => v = b
/-- several -/
def EvL (C : Cx) (ρ : Loc) (cs : Own) (es : List Expr) (ds : List D) : Prop := ∀ z pos, Tr C ρ cs z (spliced (backTo pos (starEach es C.env))) fun z' vs => RepAll C.P z' vs ds

/-- how a block may end -/
inductive Out where
  | next (ρ : Loc) (cs : Own)
  | brk (ρ : Loc) (cs : Own)
  | cont (ρ : Loc) (cs : Own)
  | ret (d : D) (cs : Own)
def OutIs (C : Cx) (k z : PH) : Flow → Heap → Out → Prop
  | .next, h, .next ρ cs => St C k z ρ cs h
  | .brk, h, .brk ρ cs => St C k z ρ cs h
  | .cont, h, .cont ρ cs => St C k z ρ cs h
  | .ret v, h, .ret d cs => St C k z [] cs h ∧ Rep C.P z v d
  | _, _, _ => False
def PostX (C : Cx) (k z : PH) (s : Shared) (Φ : Out → Prop) (f : Flow) (s' : Shared) : Prop :=
  ∃ z' o, Grow k z z' ∧ OutIs C k z' f s'.heap o ∧ Φ o ∧ Same s s'
def Ex (C : Cx) (ρ : Loc) (cs : Own) (ss : List Stmt) (Φ : Out → Prop) : Prop :=
  ∀ k z s, 0 < s.toks → St C k z ρ cs s.heap → Wp C (execs ss C.env) (PostX C k z s Φ) s
def Ex1 (C : Cx) (ρ : Loc) (cs : Own) (st : Stmt) (Φ : Out → Prop) : Prop :=
  ∀ k z s, 0 < s.toks → St C k z ρ cs s.heap → Wp C (exec st C.env) (PostX C k z s Φ) s

theorem St.nil {C : Cx} {k z : PH} {ρ : Loc} {cs : Own} {h : Heap} (S : St C k z ρ cs h) : St C k z [] cs h :=
  let ⟨m, F, _⟩ := S.fr
  ⟨⟨m, F, fun _ _ e => nomatch e⟩, S.base, S.low, S.keep, S.zL, S.kL, S.cell, S.nodup⟩
theorem PostX.mono {C : Cx} {k z : PH} {s : Shared} {Φ Φ' : Out → Prop} {f : Flow} {s' : Shared} (h : PostX C k z s Φ f s') (x : ∀ o, Φ o → Φ' o) : PostX C k z s Φ' f s' :=
  let ⟨z', o, a, b, c, d⟩ := h; ⟨z', o, a, b, x o c, d⟩
theorem PostX.after {C : Cx} {k z z' : PH} {s s' : Shared} {Φ : Out → Prop} {f : Flow} {s'' : Shared} (l : Grow k z z') (sm : Same s s') (h : PostX C k z' s' Φ f s'') : PostX C k z s Φ f s'' :=
  let ⟨z'', o, a, b, c, d⟩ := h; ⟨z'', o, l.trans a, b, c, sm.trans d⟩
section
variable {C : Cx} {ρ : Loc} {cs : Own} {ss : List Stmt} {st : Stmt} {Φ : Out → Prop}
theorem Ex.mono {Φ' : Out → Prop} (h : Ex C ρ cs ss Φ) (x : ∀ o, Φ o → Φ' o) : Ex C ρ cs ss Φ' := fun k z s h0 S => Wp.mono (h k z s h0 S) fun _ _ _ q => q.mono x
theorem Ex.nil (h : Φ (.next ρ cs)) : Ex C ρ cs [] Φ := fun k z s h0 S => wpAny_execs_nil ⟨z, .next ρ cs, .refl, S, h, Same.refl _⟩
/-- what is asked behind one statement when others follow -/
def Then (C : Cx) (ss : List Stmt) (Φ : Out → Prop) : Out → Prop
  | .next ρ cs => Ex C ρ cs ss Φ
  | o => Φ o
theorem Ex.cons (h : Ex1 C ρ cs st (Then C ss Φ)) : Ex C ρ cs (st :: ss) Φ := fun k z s h0 S => by
  refine wpAny_execs_cons (Wp.mono (h k z s h0 S) fun f s' ht q => ?_)
  obtain ⟨z', o, l, ho, hΦ, sm⟩ := q
  cases f with
  | next => cases o with
    | next ρ' cs' => exact Wp.mono (hΦ k z' s' (Nat.lt_of_lt_of_le h0 ht) ho) fun _ _ _ q => q.after l sm
    | _ => exact ho.elim
  | brk => cases o with
    | brk ρ' cs' => exact ⟨z', _, l, ho, hΦ, sm⟩
    | _ => exact ho.elim
  | cont => cases o with
    | cont ρ' cs' => exact ⟨z', _, l, ho, hΦ, sm⟩
    | _ => exact ho.elim
  | ret v => cases o with
    | ret d cs' => exact ⟨z', _, l, ho, hΦ, sm⟩
    | _ => exact ho.elim
end
end Mine
end

section
open PySem PySem.W PySem.Calls PyProof.Rows
namespace Mine
set_option linter.unusedVariables false

section
variable {C : Cx} {ρ : Loc} {cs : Own} {z : PH} {α β : Type}
theorem Tr.stand {p : Pos} {P : PH → Unit → Prop} (h : P z ()) : Tr C ρ cs z (standAt p) P := fun k s _ S => wpAny_standAt ⟨z, .refl, S, h, Same.refl _⟩
theorem Tr.rule {t : String} {P : PH → Unit → Prop} (h : P z ()) : Tr C ρ cs z (rule t) P := fun k s _ S => wpAny_rule ⟨z, .refl, S, h, Same.refl _⟩
theorem Tr.point {P : PH → Unit → Prop} (h : P z ()) : Tr C ρ cs z point P := fun k s _ S => wpAny_point ⟨z, .refl, S, h, Same.refl _⟩
theorem Tr.hold {vs : List Value} {t : Sem α} {P : PH → α → Prop} (h : Tr C ρ cs z t P) : Tr C ρ cs z (holding vs t) P := fun k s h0 S => wpAny_holding (h k s h0 S)
theorem Tr.operate {vs : List Value} {t : Sem Value} {P : PH → Value → Prop} (h : Tr C ρ cs z t P) : Tr C ρ cs z (operate vs t) P := fun k s h0 S => wpAny_operate' (h k s h0 S)
theorem Tr.release {vs keep : List Value} {P : PH → Unit → Prop} (h : P z ()) : Tr C ρ cs z (release vs keep) P := fun k s _ S => wpAny_release' ⟨z, .refl, S, h, Same.refl _⟩
theorem Tr.standThen {p : Pos} {t : Sem α} {P : PH → α → Prop} (h : Tr C ρ cs z t P) : Tr C ρ cs z (standAt p >>= fun _ => t) P := fun k s h0 S => wpAny_bind (wpAny_standAt (h k s h0 S))
theorem Op.hold {vs : List Value} {t : Sem α} {P : PH → α → Prop} (h : Op C z t P) : Op C z (holding vs t) P := fun s h0 hb hz => wpAny_holding (h s h0 hb hz)
theorem Op.operate {vs : List Value} {t : Sem Value} {P : PH → Value → Prop} (h : Op C z t P) : Op C z (operate vs t) P := fun s h0 hb hz => wpAny_operate' (h s h0 hb hz)
theorem Op.standThen {p : Pos} {t : Sem α} {P : PH → α → Prop} (h : Op C z t P) : Op C z (standAt p >>= fun _ => t) P := fun s h0 hb hz => wpAny_bind (wpAny_standAt (h s h0 hb hz))
end

/-- the ground and the frame -/
structure Gd (C : Cx) : Prop where
  g : C.B.Ns mainGlobals C.mg
  b : C.B.Ns builtinsNs C.mb
  nolimit : C.B.NoLimit
  hh : C.A.handled = none
  kind : C.env.scope.kind = .function
  glob : C.env.globals = mainGlobals
  blt : C.env.builtins = builtinsNs
  sm : ∃ a o, sysModules ≤ a ∧ C.B.get? a = some o
theorem Gd.store {C : Cx} (G : Gd C) : (C.env.scope.kind == .class || (C.env.scope.kind == .module && C.env.locals != C.env.globals)) = false := by rw [G.kind]; rfl
/-- a name of the top or of the built-ins -/
def Glo (C : Cx) (x : Str) (v : Value) : Prop := C.mg x = some v ∨ (C.mg x = none ∧ C.mb x = some v)

theorem Ns.inZ {C : Cx} {z : PH} {a : Addr} {m : Str → Option Value} {h : Heap} (hn : C.B.Ns a m) (hb : BZ C z) (hz : z.inH h) : h.Ns a m := hn.keeps fun b o e => hz _ _ (hb b o e)

section
variable {C : Cx} {ρ : Loc} {cs : Own}
theorem Ev.loc (G : Gd C) {x : Str} {p : Pos} {d : D} (h : ρ.lookup x = some d) (hl : C.env.kindOf x = some .local) (hd : (x == ("__debug__" : Str)) = false) : Ev C ρ cs (.Name x p) d := by
  intro z k s h0 S
  obtain ⟨m, F, hm⟩ := S.fr
  obtain ⟨v, hv, r⟩ := hm x d h
  exact wpAny_Name (wpAny_loadName_local G.kind hl F hv ⟨z, .refl, S, r, Same.refl _⟩) hd
theorem Ev.glo (G : Gd C) {x : Str} {p : Pos} {v : Value} (h : Glo C x v) (hl : C.env.kindOf x = some .globalImplicit) (hd : (x == ("__debug__" : Str)) = false) : Ev C ρ cs (.Name x p) (.val v) := by
  intro z k s h0 S
  refine Name_function_global G.kind hl ?_ hd
  have hg : s.heap.Ns C.env.globals C.mg := by rw [G.glob]; exact Ns.inZ G.g S.base S.low
  have hb : s.heap.Ns C.env.builtins C.mb := by rw [G.blt]; exact Ns.inZ G.b S.base S.low
  rcases h with h | ⟨h, h'⟩
  · exact loadGlobal_global hg h ⟨z, .refl, S, .val _, Same.refl _⟩
  · exact loadGlobal_builtin hg h hb h' ⟨z, .refl, S, .val _, Same.refl _⟩
theorem Ev.cel (G : Gd C) {x : Str} {p : Pos} {a : Addr} {d : D} (hc : C.env.cells.lookup x = some a) (hm : (a, Cell.cel (some d)) ∈ cs) (hl : C.env.kindOf x = some .cell) (hd : (x == ("__debug__" : Str)) = false) : Ev C ρ cs (.Name x p) d := by
  intro z k s h0 S
  obtain ⟨_, _, _, o, ho, v, hov, r⟩ := S.cell _ hm
  exact wpAny_Name (wpAny_loadName_cell G.kind hl hc ⟨_, ho, hov⟩ ⟨z, .refl, S, r, Same.refl _⟩) hd
theorem Ev.str {x : Str} {n : Nat} {p : Pos} : Ev C ρ cs (.Constant (.str x) n p) (.str x.cps.toList) := fun z k s _ S => wpAny_Constant_str ⟨z, .refl, S, .str _ _, Same.refl _⟩
theorem Ev.int {i : Int} {n : Nat} {p : Pos} : Ev C ρ cs (.Constant (.int i) n p) (.int i) := fun z k s _ S => wpAny_Constant_int ⟨z, .refl, S, .int _ _, Same.refl _⟩
theorem Ev.bool {b : Bool} {n : Nat} {p : Pos} : Ev C ρ cs (.Constant (.bool b) n p) (.bool b) := fun z k s _ S => wpAny_Constant_bool ⟨z, .refl, S, .val _, Same.refl _⟩
theorem Ev.cnone {n : Nat} {p : Pos} : Ev C ρ cs (.Constant .none n p) .none := fun z k s _ S => wpAny_Constant_none ⟨z, .refl, S, .val _, Same.refl _⟩

/-- operations, by their data -/
def Bin (C : Cx) (op : Operator) (a b c : D) : Prop := ∀ z v u, Rep C.P z v a → Rep C.P z u b → Op C z (binaryOp op v u) fun z' r => Rep C.P z' r c
def Cmp (C : Cx) (op : CmpOp) (a b : D) (c : Bool) : Prop := ∀ z v u, Rep C.P z v a → Rep C.P z u b → Op C z (compareOp op v u) fun _ r => r = .bool c
def Tru (C : Cx) (a : D) (c : Bool) : Prop := ∀ z v, Rep C.P z v a → Op C z (truthy v) fun _ r => r = c

theorem Ev.bin {a b : Expr} {op : Operator} {p : Pos} {d e f : D} (ha : Ev C ρ cs a d) (hb : Ev C ρ cs b e) (h : Bin C op d e f) : Ev C ρ cs (.BinOp a op b p) f := by
  intro z
  show Tr C ρ cs z (do let v ← eval a C.env; let u ← holding [v] (eval b C.env); standAt p; operate [v, u] (binaryOp op v u)) _
  refine Tr.bind (ha z) fun z1 v l1 r1 => Tr.bind (Tr.hold (hb z1)) fun z2 u l2 r2 => Tr.standThen (Tr.operate (Tr.op (h z2 v u (r1.mono l2) r2)))
theorem Ev.cmp {a b : Expr} {op : CmpOp} {p : Pos} {d e : D} {c : Bool} (ha : Ev C ρ cs a d) (hb : Ev C ρ cs b e) (h : Cmp C op d e c) (hm : behindInMarks op b = false := by rfl) : Ev C ρ cs (.Compare a [op] [b] p) (.bool c) := by
  intro z
  show Tr C ρ cs z (do let v ← eval a C.env; compareChain p v [op] [markedBehindIn op b (eval b C.env)]) _
  rw [markedBehindIn_of_false hm]
  refine Tr.bind (ha z) fun z1 v l1 r1 => ?_
  show Tr C ρ cs z1 (do let u ← holding [v] (eval b C.env); standAt p; operate [v, u] (compareOp op v u)) _
  exact Tr.bind (Tr.hold (hb z1)) fun z2 u l2 r2 => Tr.standThen (Tr.operate ((Tr.op (h z2 v u (r1.mono l2) r2)).mono fun z' r _ e => e ▸ .val _))
theorem EvB.cmp {a b : Expr} {op : CmpOp} {p : Pos} {d e : D} {c : Bool} (ha : Ev C ρ cs a d) (hb : Ev C ρ cs b e) (h : Cmp C op d e c) (hm : behindInMarks op b = false := by rfl) : EvB C ρ cs (.Compare a [op] [b] p) c := by
  intro z
  show Tr C ρ cs z (do let v ← eval a C.env; testChain p v [op] [markedBehindIn op b (eval b C.env)]) _
  rw [markedBehindIn_of_false hm]
  refine Tr.bind (ha z) fun z1 v l1 r1 => ?_
  show Tr C ρ cs z1 (do let u ← holding [v] (eval b C.env); standAt p; let c ← operate [v, u] (compareOp op v u); holding [c] (truthy c)) _
  refine Tr.bind (Tr.hold (hb z1)) fun z2 u l2 r2 => Tr.standThen (Tr.bind (Tr.operate (Tr.op (h z2 v u (r1.mono l2) r2))) fun z3 r l3 e => Tr.hold ?_)
  subst e
  exact Tr.of fun k s h0 S => wpAny_truthy_bool ⟨z3, .refl, S, rfl, Same.refl _⟩
theorem EvB.not {x : Expr} {p : Pos} {c : Bool} (h : EvB C ρ cs x c) : EvB C ρ cs (.UnaryOp .Not x p) (!c) := by
  intro z
  show Tr C ρ cs z (do return !(← isTrue x C.env (eval x C.env))) _
  exact Tr.bind (h z) fun z1 v l1 r1 => Tr.ret (by rw [r1])
theorem EvB.plain {e : Expr} {d : D} {c : Bool} (h : Ev C ρ cs e d) (ht : Tru C d c) (he : isTrue e C.env (eval e C.env) = (do let v ← eval e C.env; standAt e.pos; holding [v] (truthy v)) := by rfl) : EvB C ρ cs e c := by
  intro z
  rw [he]
  exact Tr.bind (h z) fun z1 v l1 r1 => Tr.standThen (Tr.hold (Tr.op (ht z1 v r1)))
theorem Tr.cond {α : Type} {z : PH} {b : Bool} {t u : Sem α} {P : PH → α → Prop} (ht : b = true → Tr C ρ cs z t P) (hu : b = false → Tr C ρ cs z u P) : Tr C ρ cs z (if b = true then t else u) P := by
  cases b with
  | true => exact ht rfl
  | false => exact hu rfl
theorem EvB.and_t {x y : Expr} {rest : List Expr} {p : Pos} {c : Bool} (h : EvB C ρ cs x true) (k : EvB C ρ cs (.BoolOp .And (y :: rest) p) c) : EvB C ρ cs (.BoolOp .And (x :: y :: rest) p) c := by
  intro z
  show Tr C ρ cs z (do
    match BoolOp.And, ← isTrue x C.env (eval x C.env) with
    | .And, false => pure false
    | .Or, true => pure true
    | _, _ => allTrue .And (y :: rest) C.env) _
  exact Tr.bind (h z) fun z1 v l1 r1 => by subst r1; exact k z1
theorem EvB.and_f {x : Expr} {rest : List Expr} {p : Pos} (h : EvB C ρ cs x false) : EvB C ρ cs (.BoolOp .And (x :: rest) p) false := by
  intro z
  show Tr C ρ cs z (do
    match BoolOp.And, ← isTrue x C.env (eval x C.env) with
    | .And, false => pure false
    | .Or, true => pure true
    | _, _ => allTrue .And rest C.env) _
  exact Tr.bind (h z) fun z1 v l1 r1 => by subst r1; exact Tr.ret rfl
theorem EvB.or_f {x y : Expr} {rest : List Expr} {p : Pos} {c : Bool} (h : EvB C ρ cs x false) (k : EvB C ρ cs (.BoolOp .Or (y :: rest) p) c) : EvB C ρ cs (.BoolOp .Or (x :: y :: rest) p) c := by
  intro z
  show Tr C ρ cs z (do
    match BoolOp.Or, ← isTrue x C.env (eval x C.env) with
    | .And, false => pure false
    | .Or, true => pure true
    | _, _ => allTrue .Or (y :: rest) C.env) _
  exact Tr.bind (h z) fun z1 v l1 r1 => by subst r1; exact k z1
theorem EvB.or_t {x : Expr} {rest : List Expr} {p : Pos} (h : EvB C ρ cs x true) : EvB C ρ cs (.BoolOp .Or (x :: rest) p) true := by
  intro z
  show Tr C ρ cs z (do
    match BoolOp.Or, ← isTrue x C.env (eval x C.env) with
    | .And, false => pure false
    | .Or, true => pure true
    | _, _ => allTrue .Or rest C.env) _
  exact Tr.bind (h z) fun z1 v l1 r1 => by subst r1; exact Tr.ret rfl
theorem EvB.one {op : BoolOp} {x : Expr} {p : Pos} {c : Bool} (h : EvB C ρ cs x c) : EvB C ρ cs (.BoolOp op [x] p) c := by
  intro z
  show Tr C ρ cs z (do
    match op, ← isTrue x C.env (eval x C.env) with
    | .And, false => pure false
    | .Or, true => pure true
    | _, _ => allTrue op [] C.env) _
  refine Tr.bind (h z) fun z1 v l1 r1 => ?_
  subst r1
  cases op <;> cases v <;> exact Tr.ret rfl
/-- two tests, both known as Bools -/
theorem EvB.and {x y : Expr} {p : Pos} {b c : Bool} (h : EvB C ρ cs x b) (k : b = true → EvB C ρ cs y c) : EvB C ρ cs (.BoolOp .And [x, y] p) (b && c) := by
  cases b with
  | false => exact .and_f h
  | true => rw [Bool.true_and]; exact .and_t h (.one (k rfl))
theorem EvB.or {x y : Expr} {p : Pos} {b c : Bool} (h : EvB C ρ cs x b) (k : b = false → EvB C ρ cs y c) : EvB C ρ cs (.BoolOp .Or [x, y] p) (b || c) := by
  cases b with
  | true => exact .or_t h
  | false => rw [Bool.false_or]; exact .or_f h (.one (k rfl))
theorem EvB.and3 {x y w : Expr} {p : Pos} {b c d : Bool} (h : EvB C ρ cs x b) (k : b = true → EvB C ρ cs y c) (l : b = true → c = true → EvB C ρ cs w d) : EvB C ρ cs (.BoolOp .And [x, y, w] p) (b && (c && d)) := by
  cases b with
  | false => exact .and_f h
  | true => cases c with
    | false => exact .and_t h (.and_f (k rfl))
    | true => exact .and_t h (.and_t (k rfl) (.one (l rfl rfl)))
theorem EvB.or3 {x y w : Expr} {p : Pos} {b c d : Bool} (h : EvB C ρ cs x b) (k : b = false → EvB C ρ cs y c) (l : b = false → c = false → EvB C ρ cs w d) : EvB C ρ cs (.BoolOp .Or [x, y, w] p) (b || (c || d)) := by
  cases b with
  | true => exact .or_t h
  | false => cases c with
    | true => exact .or_f h (.or_t (k rfl))
    | false => exact .or_f h (.or_f (k rfl) (.one (l rfl rfl)))
theorem Ev.ite {t a b : Expr} {p : Pos} {c : Bool} {d : D} (ht : EvB C ρ cs t c) (ha : c = true → Ev C ρ cs a d) (hb : c = false → Ev C ρ cs b d) : Ev C ρ cs (.IfExp t a b p) d := by
  intro z
  show Tr C ρ cs z (do if ← isTrue t C.env (eval t C.env) then eval a C.env else eval b C.env) _
  exact Tr.bind (ht z) fun z1 v l1 r1 => by subst r1; exact Tr.cond (fun e => ha e z1) fun e => hb e z1
/-- `x or y`, as a value -/
theorem Ev.or {x y : Expr} {p : Pos} {d e f : D} {c : Bool} (h : Ev C ρ cs x d) (ht : Tru C d c) (hy : c = false → Ev C ρ cs y e) (hf : f = if c then d else e) : Ev C ρ cs (.BoolOp .Or [x, y] p) f := by
  intro z
  show Tr C ρ cs z (do
    let v ← eval x C.env
    standAt p
    let c ← holding [v] (truthy v)
    match BoolOp.Or, c with
    | .And, false | .Or, true => pure v
    | _, _ => boolOp p .Or [eval y C.env]) _
  refine Tr.bind (h z) fun z1 v l1 r1 => Tr.standThen (Tr.bind (Tr.hold (Tr.op (ht z1 v r1))) fun z2 c l2 e => ?_)
  subst e
  cases c with
  | true => subst hf; exact Tr.ret (r1.mono l2)
  | false => subst hf; exact hy rfl z2
def starred : Expr → Bool
  | .Starred _ _ => true
  | _ => false
theorem star_cons {e : Expr} {es : List Expr} {env : Env} (h : starred e = false) : starEach (e :: es) env = (false, eval e env) :: starEach es env := by
  cases e <;> first | rfl | cases h
/-- several expressions, none starred -/
def EvA (C : Cx) (ρ : Loc) (cs : Own) (es : List Expr) (ds : List D) : Prop := EvL C ρ cs es ds ∧ ∀ pos, (backTo pos (starEach es C.env)).any (·.1) = false
theorem EvA.nil : EvA C ρ cs [] [] := ⟨fun z pos => Tr.ret .nil, fun _ => rfl⟩
theorem EvA.cons {e : Expr} {es : List Expr} {d : D} {ds : List D} (h : Ev C ρ cs e d) (k : EvA C ρ cs es ds) (he : starEach (e :: es) C.env = (false, eval e C.env) :: starEach es C.env := by exact star_cons rfl) : EvA C ρ cs (e :: es) (d :: ds) := by
  refine ⟨fun z pos => ?_, fun pos => ?_⟩
  · rw [he]
    show Tr C ρ cs z (spliced ((false, eval e C.env) :: backTo pos (starEach es C.env))) _
    rw [spliced]
    refine Tr.bind (h z) fun z1 v l1 r1 => ?_
    simp only [Bool.false_eq_true, if_false]
    exact Tr.bind (Tr.ret (P := fun _ r => r = [v]) rfl) fun z2 r l2 e2 => Tr.bind (Tr.hold (k.1 z2 pos)) fun z3 vs l3 r3 => Tr.ret (by subst e2; exact .cons ((r1.mono l2).mono l3) r3)
  · rw [he]; exact k.2 pos

/-- calls, by their data -/
structure CallV (C : Cx) (f : Value) (ds : List D) (d : D) : Prop where
  kp : ∀ z h, BZ C z → z.inH h → ∃ k, (k = Keeper.frame ∨ k = Keeper.machine ∨ k = Keeper.boundFrame) ∧ Looks C.M h (keeperOf f) k
  op : ∀ z vs, RepAll C.P z vs ds → Op C z (call f vs) fun z' r => Rep C.P z' r d
def CallD (C : Cx) (x : Str) (ds : List D) (d : D) : Prop := ∃ f, Glo C x f ∧ CallV C f ds d

theorem evalArgs_any {M : Model} {A : Around} {E : Value → Shared → Prop} {s : Shared} {f : Value} {args : List (Bool × Sem Value)} {Q : Args → Shared → Prop} (hn : args.any (·.1) = false) (h : wpAny M A (spliced args) (fun vs s' => Q ⟨vs, []⟩ s') E s) : wpAny M A (evalArgs f true args []) Q E s := by
  cases args with
  | nil =>
    unfold evalArgs
    show wpAny M A (spliced [] >>= _) Q E s
    refine wpAny_bind (wpAny_mono h (fun vs s' h' => ?_) fun _ _ x => x)
    refine wpAny_holding ?_
    exact wpAny_bind (wpAny_pure (wpAny_bind (wpAny_pure (wpAny_pure h'))))
  | cons x rest =>
    obtain ⟨b, x⟩ := x
    have hb : b = false := by cases b <;> simp_all
    subst hb
    exact evalArgs_plain h
end
end Mine
end

section
open PySem PySem.W PySem.Calls PyProof.Rows PySem.Builtin.Str
namespace Mine
set_option linter.unusedVariables false

/-- a cut of a list, as Python clips it -/
def pyCut {α : Type} (lo hi : Option Int) (l : List α) : List α :=
  (l.drop (lo.elim 0 (clipAt l.length))).take (hi.elim l.length (clipAt l.length) - lo.elim 0 (clipAt l.length))
theorem strIdx_plain (lo hi : Option Int) (n : Nat) : strSliceIndices lo hi 1 n = (List.range (hi.elim n (clipAt n) - lo.elim 0 (clipAt n))).map (fun k => lo.elim 0 (clipAt n) + k) := by
  have e : strSliceIndices lo hi 1 n = sliceRange ((lo.elim 0 (clipAt n) : Nat) : Int) ((hi.elim n (clipAt n) : Nat) : Int) 1 := by
    cases lo <;> cases hi <;> simp [strSliceIndices, clipAt_cast]
  rw [e, sliceRange_one]
theorem filterMap_idx {α : Type} (xs : Array α) (a : Nat) (k : Nat) : ((List.range k).map (fun i => a + i)).filterMap (xs[·]?) = (xs.toList.drop a).take k := pick_run xs a k
theorem pyCut_str (x : Str) (lo hi : Option Int) : ((strSliceIndices lo hi 1 x.length).filterMap (x.cps[·]?)) = pyCut lo hi x.cps.toList := by
  rw [strIdx_plain, filterMap_idx]
  unfold pyCut Str.length
  simp
theorem txtSlice_eq (x : Str) (lo hi : Option Int) : (Txt.slice x lo hi).cps.toList = pyCut lo hi x.cps.toList := by
  unfold Txt.slice
  split
  · rename_i h
    rw [← pyCut_str]
    have hl : (strSliceIndices lo hi 1 x.length).length = x.length := by simpa using h
    rw [strIdx_plain] at hl ⊢
    rw [filterMap_idx]
    simp only [List.length_map, List.length_range] at hl
    have h1 : (hi.elim x.length (clipAt x.length)) ≤ x.length := by
      cases hi with
      | none => exact Nat.le_refl _
      | some i => have := clipAt_cast x.length i; simp only [Option.elim_some]; (first | lia | omega)
    have h2 : lo.elim 0 (clipAt x.length) = 0 ∨ x.length = 0 := by (first | lia | omega)
    have h3 : x.cps.toList.length = x.length := by simp [Str.length]
    rcases h2 with h2 | h2
    · rw [h2] at hl ⊢; rw [hl, List.drop_zero, List.take_of_length_le (by (first | lia | omega))]
    · have : x.cps.toList = [] := List.length_eq_zero_iff.mp (by (first | lia | omega))
      simp [this]
  · exact pyCut_str x lo hi

section
variable {C : Cx} {ρ : Loc} {cs : Own}

/-- a part of a slice -/
def EvO (C : Cx) (ρ : Loc) (cs : Own) (x : Option Expr) (i : Option Int) : Prop :=
  ∀ z, Tr C ρ cs z (valueOrNone (evalOpt x C.env)) fun _ v => match i with | none => v = .none | some i => ∃ t, v = .int i t
theorem EvO.nil : EvO C ρ cs none none := fun z => Tr.ret rfl
theorem EvO.one {e : Expr} {i : Int} (h : Ev C ρ cs e (.int i)) : EvO C ρ cs (some e) (some i) := fun z => (h z).mono fun z' v _ r => by cases r; exact ⟨_, rfl⟩

theorem Op.subTail {z : PH} {value slice : Expr} {o i : Value} {T id : String} {P : PH → Value → Prop} (hT : ∀ s : Shared, z.inH s.heap → s.TypeIs o T)
    (hl : typeLookup (.type T) "__getitem__" = pure (some (.builtin id))) (h : Op C z (getItem o i) P) : Op C z (subscriptTail value slice o i) P := fun s h0 hb hz => by
  obtain ⟨ops, hs⟩ : ∃ ops, subscripted slice false o i = PySem.operate ops (getItem o i) := by unfold subscripted; split <;> first | exact ⟨_, rfl⟩ | (rename_i q; cases q)
  exact tail_any (hT s hz) hl (h s h0 hb hz) hs

theorem Tr.subscript {z : PH} {value slice : Expr} {p : Pos} {P : PH → Value → Prop} {P1 P2 : PH → Value → Prop} (m1 : ∀ z z' v, PH.le z z' → P1 z v → P1 z' v)
    (h1 : Tr C ρ cs z (eval value C.env) P1) (h2 : ∀ z', z.le z' → Tr C ρ cs z' (eval slice C.env) P2) (h3 : ∀ z' o i, z.le z' → P1 z' o → P2 z' i → Op C z' (subscriptTail value slice o i) P) : Tr C ρ cs z (eval (.Subscript value slice p) C.env) P := by
  rw [eval_Subscript]
  refine Tr.bind h1 fun z1 o l1 r1 => Tr.bind (Tr.hold (h2 z1 l1)) fun z2 i l2 r2 => Tr.standThen ?_
  exact Tr.op (h3 z2 o i (l1.trans l2) (m1 _ _ _ l2 r1) r2)

def SliceAt (z : PH) (i : Value) (lo hi : Option Int) : Prop := ∃ a vl vu, i = .ref a ∧ z a = some { cls := .type "slice", data := .fields #[vl, vu, .none] } ∧ (match lo with | none => vl = .none | some k => ∃ t, vl = .int k t) ∧ (match hi with | none => vu = .none | some k => ∃ t, vu = .int k t)
theorem Tr.slice {z : PH} {lower upper : Option Expr} {p : Pos} {lo hi : Option Int} (h1 : EvO C ρ cs lower lo) (h2 : EvO C ρ cs upper hi) : Tr C ρ cs z (eval (.Slice lower upper none p) C.env) fun z' v => SliceAt z' v lo hi := by
  show Tr C ρ cs z (do
    let l ← valueOrNone (evalOpt lower C.env)
    let u ← holding [l] (valueOrNone (evalOpt upper C.env))
    let s ← holding [l, u] (valueOrNone (evalOpt none C.env))
    newFields "slice" [l, u, s]) _
  refine Tr.bind (h1 z) fun z1 l l1 r1 => Tr.bind (Tr.hold (h2 z1)) fun z2 u l2 r2 => Tr.bind (Tr.hold (Tr.ret (a := Value.none) (P := fun _ v => v = .none) rfl)) fun z3 s l3 r3 => ?_
  subst r3
  refine Tr.op fun s h0 hb hz => ?_
  refine wpAny_newObj_type ?_
  exact PostOp.push hz rfl ⟨_, _, _, rfl, PH.add_at _ _ _, r1, r2⟩
theorem partValue_of {lo : Option Int} {v : Value} (h : match lo with | none => v = .none | some k => ∃ t, v = .int k t) : ∃ p : Option (Int × Tok), v = partValue p ∧ p.map (·.1) = lo := by
  cases lo with
  | none => exact ⟨none, h, rfl⟩
  | some k => obtain ⟨t, e⟩ := h; exact ⟨some (k, t), e, rfl⟩

theorem Ev.cut_str {value : Expr} {lower upper : Option Expr} {p q : Pos} {x : List Nat} {lo hi : Option Int} (hx : Ev C ρ cs value (.str x)) (h1 : EvO C ρ cs lower lo) (h2 : EvO C ρ cs upper hi) (hsz : x.length ≤ 16777216) :
    Ev C ρ cs (.Subscript value (.Slice lower upper none p) q) (.str (pyCut lo hi x)) := by
  intro z
  refine Tr.subscript (P1 := fun z v => Rep C.P z v (.str x)) (P2 := fun z v => SliceAt z v lo hi) (fun _ _ _ l r => Rep.mono l r) (hx z) (fun z' _ => Tr.slice h1 h2) fun z' o i l r1 r2 => ?_
  cases r1 using Rep.strE with
  | str x t =>
    obtain ⟨a, vl, vu, rfl, ha, p1, p2⟩ := r2
    obtain ⟨pl, rfl, e1⟩ := partValue_of p1
    obtain ⟨pu, rfl, e2⟩ := partValue_of p2
    refine Op.subTail (T := "str") (fun s _ => typeIs_str s x t) F.slot_str_getitem.lookup fun s h0 hb hz => ?_
    refine wpAny_getItem_str_slice (l := pl) (u := pu) (st := Option.none) ⟨_, hz _ _ ha, rfl, rfl⟩ rfl ?_
    have hlen : x.length ≤ sizeLine := by rw [sizeLine_eq]; simpa [Str.length] using hsz
    subst e1; subst e2
    refine post_val_or_str ⟨Nat.le_trans (Txt.slice_le x _ _) hlen, fun t' k => PostOp.tok hz ?_⟩
    rw [← txtSlice_eq]
    exact .str _ _
theorem Ev.cut_list {value : Expr} {lower upper : Option Expr} {p q : Pos} {x : List D} {lo hi : Option Int} (hx : Ev C ρ cs value (.list x)) (h1 : EvO C ρ cs lower lo) (h2 : EvO C ρ cs upper hi) (hsz : x.length ≤ 16777216) :
    Ev C ρ cs (.Subscript value (.Slice lower upper none p) q) (.list (pyCut lo hi x)) := by
  intro z
  refine Tr.subscript (P1 := fun z v => Rep C.P z v (.list x)) (P2 := fun z v => SliceAt z v lo hi) (fun _ _ _ l r => Rep.mono l r) (hx z) (fun z' _ => Tr.slice h1 h2) fun z' o i l r1 r2 => ?_
  cases r1 using Rep.listE with
  | @list b vs n _ hb hr =>
    obtain ⟨a, vl, vu, rfl, ha, p1, p2⟩ := r2
    have hT : ∀ s : Shared, z'.inH s.heap → s.heap.IsList b vs.toArray := fun s hz => ⟨_, hz _ _ hb, rfl, n, rfl⟩
    have ip : ∀ {lo : Option Int} {v : Value}, (match lo with | none => v = .none | some k => ∃ t, v = .int k t) → IsPart v lo := by
      intro lo v h
      cases lo with
      | none => subst h; exact .none
      | some k => obtain ⟨t, rfl⟩ := h; exact .int _ _
    refine Op.subTail (T := "list") (fun s hz => (hT s hz).typeIs) slot_list_getitem.lookup fun s h0 hbz hz => ?_
    refine wpAny_getItem_list_slice (hT s hz) ⟨_, hz _ _ ha, rfl, rfl⟩ (ip p1) (ip p2) .none (by simp) ?_ (by rw [sizeLine_eq, List.size_toArray, hr.length]; exact hsz)
    refine PostOp.push hz rfl ?_
    rw [slicePick_plain]
    refine .list (n := 0) (vs := pyCut lo hi vs) ?_ ?_
    · rw [PH.add_at]
      simp only [pyCut, List.size_toArray, List.toList_toArray]
    · unfold pyCut
      rw [← hr.length]
      exact ((hr.drop _).take _).mono (PH.le_add (inH_none hz (get_size _)))

/-- an item, by its data -/
def Itm (C : Cx) (a i d : D) : Prop := ∀ z o k value slice, Rep C.P z o a → Rep C.P z k i → Op C z (subscriptTail value slice o k) fun z' v => Rep C.P z' v d
theorem Ev.item {value slice : Expr} {p : Pos} {a i d : D} (h1 : Ev C ρ cs value a) (h2 : Ev C ρ cs slice i) (h : Itm C a i d) : Ev C ρ cs (.Subscript value slice p) d := by
  intro z
  exact Tr.subscript (P1 := fun z v => Rep C.P z v a) (P2 := fun z v => Rep C.P z v i) (fun _ _ _ l r => Rep.mono l r) (h1 z) (fun z' _ => h2 z') fun z' o k l r1 r2 => h z' o k value slice r1 r2
theorem Itm.list {ds : List D} {k : Int} {d : D} (h0 : 0 ≤ k) (hk : ds[k.toNat]? = some d) (hsz : k < 2 ^ 63) : Itm C (.list ds) (.int k) d := by
  intro z o i value slice r1 r2
  cases r1 using Rep.listE with
  | @list b vs n _ hb hr =>
    cases r2 using Rep.intE with
    | int _ t =>
      have hT : ∀ s : Shared, z.inH s.heap → s.heap.IsList b vs.toArray := fun s hz => ⟨_, hz _ _ hb, rfl, n, rfl⟩
      refine Op.subTail (T := "list") (fun s hz => (hT s hz).typeIs) slot_list_getitem.lookup fun s _ hbz hz => ?_
      obtain ⟨v, hv, rv⟩ := hr.get hk
      exact wpAny_getItem_list (hT s hz) h0 hsz (by simpa using hv) (.now hz rv)

/-- a call by a name of the top -/
theorem Tr.callWith {z : PH} {f : Value} {first : List Value} {args : List Expr} {p : Pos} {ds : List D} {P : PH → Value → Prop} (kp : ∀ z' h, z.le z' → BZ C z' → z'.inH h → ∃ k, (k = Keeper.frame ∨ k = Keeper.machine ∨ k = Keeper.boundFrame) ∧ Looks C.M h (keeperOf f) k)
    (ha : EvA C ρ cs args ds) (h : ∀ z' vs, z.le z' → RepAll C.P z' vs ds → Op C z' (call f (first ++ vs)) P) : Tr C ρ cs z (callWith p f first (backTo p (starEach args C.env)) []) P := by
  intro k s h0 S
  refine callWith_of (P := fun h => ∃ z', z.le z' ∧ BZ C z' ∧ z'.inH h) (by rw [ha.2 p]; rfl) (fun h ⟨z', a, b, c⟩ => kp z' h a b c) ?_
  refine evalArgs_any (ha.2 p) (Wp.mono (ha.1 z p k s h0 S) fun vs s' ht ⟨z', l, S', r, sm⟩ => ⟨⟨z', l.1, S'.base, S'.low⟩, ?_⟩)
  refine Wp.mono (Tr.op (h z' vs l.1 r) k s' (Nat.lt_of_lt_of_le h0 ht) S') fun v s'' _ ⟨z'', l', S'', r', sm'⟩ => ⟨z'', l.trans l', S'', r', sm.trans sm'⟩
theorem Ev.callV {f : Expr} {fv : Value} {args : List Expr} {p : Pos} {ds : List D} {d : D} (hf : Ev C ρ cs f (.val fv)) (ha : EvA C ρ cs args ds) (h : CallV C fv ds d)
    (hc : eval (.Call f args [] p) C.env = (do callWith p (← eval f C.env) [] (backTo p (starEach args C.env)) []) := by rfl) : Ev C ρ cs (.Call f args [] p) d := by
  intro z
  rw [hc]
  refine Tr.bind (hf z) fun z1 v l1 r1 => ?_
  cases r1
  exact Tr.callWith (fun z' hp _ => h.kp z' hp) ha fun z' vs _ r => h.op z' vs r
theorem Ev.callG (G : Gd C) {x : Str} {q : Pos} {args : List Expr} {p : Pos} {ds : List D} {d : D} (ha : EvA C ρ cs args ds) (h : CallD C x ds d) (hl : C.env.kindOf x = some .globalImplicit) (hd : (x == ("__debug__" : Str)) = false) : Ev C ρ cs (.Call (.Name x q) args [] p) d := by
  obtain ⟨f, hg, hv⟩ := h
  exact Ev.callV (Ev.glo G hg hl hd) ha hv

/-- a method, by its data -/
structure MethV (C : Cx) (name : Str) (d0 : D) (ds : List D) (d : D) : Prop where
  h : ∀ z v, Rep C.P z v d0 → ∃ f, (∀ h, ∃ k, (k = Keeper.frame ∨ k = Keeper.machine ∨ k = Keeper.boundFrame) ∧ Looks C.M h (keeperOf f) k) ∧
    (∀ z' pl, z.le z' → Op C z' (getMethod v name pl) fun _ r => r = (f, [v])) ∧ ∀ z' vs, z.le z' → RepAll C.P z' vs ds → Op C z' (call f (v :: vs)) fun z' r => Rep C.P z' r d
theorem Ev.meth {o : Expr} {name : Str} {apos : Pos} {args : List Expr} {p : Pos} {d0 : D} {ds : List D} {d : D} (ho : Ev C ρ cs o d0) (ha : EvA C ρ cs args ds) (h : MethV C name d0 ds d)
    (hb : attributeBase o name C.env (eval o C.env) = eval o C.env := by rfl) (hn : (args.length < 30) := by decide) (hp : (apos.endLine == p.line) = true := by rfl) : Ev C ρ cs (.Call (.Attribute o name apos) args [] p) d := by
  intro z
  have hlen : (backTo p (starEach args C.env)).all (fun x => !x.1) = true := by
    have := ha.2 p
    rw [List.any_eq_false] at this
    rw [List.all_eq_true]
    intro x hx
    have := this x hx
    simpa using this
  have few : methodCallForm (args.length + ([] : List Keyword).length) (backTo p (starEach args C.env)) [] = true := by
    unfold methodCallForm
    rw [hlen]
    simpa using hn
  show Tr C ρ cs z (do
    let ov ← attributeBase o name C.env (eval o C.env)
    standAt apos.atName
    methodCall o name apos p C.env ov (args.length + ([] : List Keyword).length) (backTo p (starEach args C.env)) []) _
  rw [hb]
  refine Tr.bind (ho z) fun z1 v l1 r1 => Tr.standThen ?_
  obtain ⟨f, kp, hm, hc⟩ := h.h z1 v r1
  unfold methodCall
  rw [few]
  show Tr C ρ cs z1 (do
    let (f, first) ← holding [v] (getMethod v name (do return (← importBound o C.env).getD true))
    let callPos ← methodCallPos true o C.env apos p
    callWith callPos f first (backTo p (starEach args C.env)) []) _
  refine Tr.bind (Tr.hold (Tr.op (hm z1 _ (PH.le.refl _)))) fun z2 r l2 e => ?_
  subst e
  have e2 : methodCallPos true o C.env apos p = pure p := by unfold methodCallPos; rw [hp]; rfl
  dsimp only
  rw [e2, pure_bind]
  exact Tr.callWith (fun z' h _ _ _ => kp h) ha fun z' vs l r => hc z' vs (l2.trans l) r
end
end Mine
end

section
open PySem PySem.W PySem.Calls PyProof.Rows
namespace Mine
set_option linter.unusedVariables false

section
variable {C : Cx} {ρ : Loc} {cs : Own} {ss : List Stmt} {Φ : Out → Prop}

/-- the frame's names after a store -/
theorem St.store {k z : PH} {h h' : Heap} {x : Str} {v : Value} {d : D} {m : Str → Option Value} (S : St C k z ρ cs h) (F : h.Ns C.L m) (hm : ∀ y e, ρ.lookup y = some e → ∃ u, m y = some u ∧ Rep C.P z u e) (r : Rep C.P z v d)
    (hn : h'.Ns C.L fun y => if y = x then some v else m y) (hs : Heap.SameBut C.L h h') : St C k z ((x, d) :: ρ) cs h' := by
  have ne : ∀ {w : PH} {b : Addr} {o : Obj}, w C.L = none → w b = some o → b ≠ C.L := fun hw e q => by rw [q, hw] at e; cases e
  refine ⟨⟨_, hn, fun y e he => ?_⟩, S.base, fun b o e => (hs.2 b (ne S.zL e)).trans (S.low b o e), fun b o e => (hs.2 b (ne S.kL e)).trans (S.keep b o e), S.zL, S.kL, fun p hp => ?_, S.nodup⟩
  · rw [List.lookup_cons] at he
    by_cases q : y = x
    · subst q; simp only [beq_self_eq_true] at he; cases he; exact ⟨v, if_pos rfl, r⟩
    · have : (y == x) = false := by simpa using q
      rw [this] at he
      rw [if_neg q]; exact hm y e he
  · obtain ⟨a, b, c, o, e, ci⟩ := S.cell p hp
    exact ⟨a, b, c, o, (hs.2 _ c).trans e, ci⟩
theorem Tr.bindLoc (G : Gd C) {z : PH} {x : Str} {v : Value} {d : D} (hl : C.env.kindOf x = some .local) (r : Rep C.P z v d) {k : PH} {s : Shared} (S : St C k z ρ cs s.heap) {Q : Unit → Shared → Prop}
    (hQ : ∀ h', St C k z ((x, d) :: ρ) cs h' → Q () { s with heap := h', toks := s.toks + 1 }) : Wp C (storeName C.env x v) Q s := by
  obtain ⟨m, F, hm⟩ := S.fr
  exact wpAny_storeName_local hl F (fun h' hn hs => hQ h' (S.store F hm r hn hs)) G.store

theorem Ex.assign (G : Gd C) {x : Str} {p q : Pos} {e : Expr} {d : D} (h : Ev C ρ cs e d) (k : Ex C ((x, d) :: ρ) cs ss Φ) (hl : C.env.kindOf x = some .local)
    (hs : swapsWith e (some (.Name x p)) q.line C.env = pure false := by rfl) : Ex C ρ cs (.Assign [.Name x p] e q :: ss) Φ := by
  refine Ex.cons fun kk z s h0 S => ?_
  refine wpAny_Assign_Name (Wp.mono (h z kk s h0 S) fun v s' ht ⟨z', l, S', r, sm⟩ => ?_) hs
  exact Tr.bindLoc G hl r S' fun h' S'' => ⟨z', .next ((x, d) :: ρ) cs, l, S'', k, sm⟩
theorem Ex.ret {e : Expr} {p : Pos} {d : D} (h : Ev C ρ cs e d) (k : Φ (.ret d cs)) : Ex C ρ cs (.Return (some e) p :: ss) Φ := by
  refine Ex.cons fun kk z s h0 S => ?_
  exact wpAny_Return_some (Wp.mono (h z kk s h0 S) fun v s' ht ⟨z', l, S', r, sm⟩ => ⟨z', .ret d cs, l, ⟨S'.nil, r⟩, k, sm⟩)
theorem Ex.brk {p : Pos} (k : Φ (.brk ρ cs)) : Ex C ρ cs (.Break p :: ss) Φ := Ex.cons fun kk z s h0 S => by
  show Wp C (do standAt p; Pure.pure Flow.brk) _ s
  exact wpAny_bind (wpAny_standAt (wpAny_pure ⟨z, .brk ρ cs, .refl, S, k, Same.refl _⟩))
theorem Ex.cont {p : Pos} (k : Φ (.cont ρ cs)) : Ex C ρ cs (.Continue p :: ss) Φ := Ex.cons fun kk z s h0 S => by
  show Wp C (do standAt p; Pure.pure Flow.cont) _ s
  exact wpAny_bind (wpAny_standAt (wpAny_pure ⟨z, .cont ρ cs, .refl, S, k, Same.refl _⟩))
theorem Ex.ite {t : Expr} {body orelse : List Stmt} {p : Pos} {b : Bool} (ht : EvB C ρ cs t b) (h1 : b = true → Ex C ρ cs body (Then C ss Φ)) (h2 : b = false → Ex C ρ cs orelse (Then C ss Φ)) : Ex C ρ cs (.If t body orelse p :: ss) Φ := by
  refine Ex.cons fun kk z s h0 S => ?_
  refine wpAny_If (Wp.mono (ht z kk s h0 S) fun c s' hk ⟨z', l, S', e, sm⟩ => ?_)
  subst e
  cases c with
  | true => exact Wp.mono (h1 rfl kk z' s' (Nat.lt_of_lt_of_le h0 hk) S') fun _ _ _ q => q.after l sm
  | false => exact Wp.mono (h2 rfl kk z' s' (Nat.lt_of_lt_of_le h0 hk) S') fun _ _ _ q => q.after l sm
theorem Ex.assert {t : Expr} {msg : Option Expr} {p : Pos} (ht : EvB C ρ cs t true) (k : Ex C ρ cs ss Φ) : Ex C ρ cs (.Assert t msg p :: ss) Φ := by
  refine Ex.cons fun kk z s h0 S => ?_
  show Wp C (do standAt p; if ← isTrue t C.env (eval t C.env) then pure .next else assertFails t.pos (evalOpt msg C.env)) _ s
  refine wpAny_bind (wpAny_standAt (wpAny_bind (Wp.mono (ht z kk s h0 S) fun c s' hk ⟨z', l, S', e, sm⟩ => ?_)))
  subst e
  exact wpAny_pure ⟨z', .next ρ cs, l, S', k, sm⟩
/-- a try whose body does not raise -/
theorem Ex.tryOk {body orelse : List Stmt} {h0 : ExceptHandler} {hs : List ExceptHandler} {p : Pos} (h : Ex C ρ cs body (Then C orelse (Then C ss Φ))) : Ex C ρ cs (.Try body (h0 :: hs) orelse [] p :: ss) Φ := by
  refine Ex.cons fun kk z s ht S => ?_
  refine wpAny_Try_except (wpAny_mono (wpAny_toks (h kk z s ht S)) (fun f s' q => ?_) fun _ _ q => q.2.elim)
  obtain ⟨tk, z', o, l, ho, hΦ, sm⟩ := q
  cases f with
  | next => cases o with
    | next ρ' cs' => exact Wp.mono (hΦ kk z' s' (Nat.lt_of_lt_of_le ht tk) ho) fun _ _ _ q => q.after l sm
    | _ => exact ho.elim
  | brk => cases o with
    | brk ρ' cs' => exact ⟨z', _, l, ho, hΦ, sm⟩
    | _ => exact ho.elim
  | cont => cases o with
    | cont ρ' cs' => exact ⟨z', _, l, ho, hΦ, sm⟩
    | _ => exact ho.elim
  | ret v => cases o with
    | ret d cs' => exact ⟨z', _, l, ho, hΦ, sm⟩
    | _ => exact ho.elim

/-- operations in place -/
def Inp (C : Cx) (op : Operator) (a b c : D) : Prop := ∀ z v u, Rep C.P z v a → Rep C.P z u b → Op C z (inplaceOp op v u) fun z' r => Rep C.P z' r c
theorem Ex.aug (G : Gd C) {x : Str} {p q : Pos} {op : Operator} {e : Expr} {a b d : D} (ha : ρ.lookup x = some a) (h : Ev C ρ cs e b) (hi : Inp C op a b d) (k : Ex C ((x, d) :: ρ) cs ss Φ) (hl : C.env.kindOf x = some .local) : Ex C ρ cs (.AugAssign (.Name x p) op e q :: ss) Φ := by
  refine Ex.cons fun kk z s h0 S => ?_
  obtain ⟨m, F, hm⟩ := S.fr
  obtain ⟨v, hv, r⟩ := hm x a ha
  refine wpAny_AugAssign_Name (wpAny_loadName_local G.kind hl F hv ?_)
  refine Wp.mono (h z kk s h0 S) fun u s' ht ⟨z', l, S', ru, sm⟩ => ?_
  refine Wp.mono (Tr.op (ρ := ρ) (cs := cs) (hi z' v u (r.mono l.1) ru) kk s' (Nat.lt_of_lt_of_le h0 ht) S') fun w s'' _ ⟨z'', l', S'', rw', sm'⟩ => ?_
  exact Tr.bindLoc G hl rw' S'' fun h' S3 => ⟨z'', .next ((x, d) :: ρ) cs, l.trans l', S3, k, sm.trans sm'⟩

/-- weaker names -/
theorem Ex.locs {ρ' : Loc} (hsub : ∀ x d, ρ'.lookup x = some d → ρ.lookup x = some d) (h : Ex C ρ' cs ss Φ) : Ex C ρ cs ss Φ := fun kk z s h0 S => by
  obtain ⟨m, F, hm⟩ := S.fr
  exact h kk z s h0 ⟨⟨m, F, fun x d e => hm x d (hsub x d e)⟩, S.base, S.low, S.keep, S.zL, S.kL, S.cell, S.nodup⟩

/-- while, turn by turn -/
def LpR (C : Cx) (k z : PH) (s : Shared) (Ψ : Out → Prop) (r : Result) (s' : Shared) : Prop := match r with
  | .ok f => PostX C k z s Ψ f s'
  | .error _ => False
def Lp (C : Cx) (ρ : Loc) (cs : Own) (t : Expr) (body orelse : List Stmt) (Ψ : Out → Prop) : Prop :=
  ∀ k z s, 0 < s.toks → St C k z ρ cs s.heap → codeAny C.M C.A (.whileLoop t body orelse C.env) (LpR C k z s Ψ) s
theorem Ex.while_ {t : Expr} {body orelse : List Stmt} {p : Pos} (h : Lp C ρ cs t body orelse (Then C ss Φ)) : Ex C ρ cs (.While t body orelse p :: ss) Φ := by
  refine Ex.cons fun kk z s h0 S => ?_
  refine wpAny_While (codeAny_mono (h kk z s h0 S) fun r s' q => ?_)
  cases r with
  | ok f => exact q
  | error e => exact q.elim
/-- what one turn hands on -/
def Turn (C : Cx) (t : Expr) (body orelse : List Stmt) (Ψ : Out → Prop) : Out → Prop
  | .next ρ cs | .cont ρ cs => Lp C ρ cs t body orelse Ψ
  | .brk ρ cs => Ψ (.next ρ cs)
  | .ret d cs => Ψ (.ret d cs)
theorem Lp.turn {t : Expr} {body orelse : List Stmt} {Ψ : Out → Prop} {b : Bool} (ht : EvB C ρ cs t b) (h1 : b = true → Ex C ρ cs body (Turn C t body orelse Ψ)) (h2 : b = false → Ex C ρ cs orelse Ψ) : Lp C ρ cs t body orelse Ψ := by
  intro kk z s h0 S
  refine codeAny_of_tree ?_
  have hu : C.A.under (.whileLoop t body orelse C.env) = C.A := Around.under_of_weight rfl rfl
  rw [hu]
  show wpAny _ C.A ((whileTurn t body orelse C.env).onRaise (fun x => do noteFrame x C.env; theTreesLotGoes x)) _ _ s
  refine wpAny_onRaise (wpAny_mono (E := fun _ _ => False) ?_ (fun _ _ q => q) fun _ _ q => q.elim)
  unfold whileTurn
  refine wpAny_bind (Wp.mono (ht z kk s h0 S) fun c s' hk ⟨z', l, S', e, sm⟩ => ?_)
  subst e
  have h0' := Nat.lt_of_lt_of_le h0 hk
  cases c with
  | false =>
    exact wpAny_bind (Wp.mono (h2 rfl kk z' s' h0' S') fun f s'' _ q => wpAny_pure (q.after l sm))
  | true =>
    refine wpAny_bind (Wp.mono (h1 rfl kk z' s' h0' S') fun f s'' ht2 q => ?_)
    obtain ⟨z'', o, l', ho, hT, sm'⟩ := q
    have go : ∀ ρ' cs', St C kk z'' ρ' cs' s''.heap → Lp C ρ' cs' t body orelse Ψ → (Code.whileLoop t body orelse C.env).quiet = true ∧ codeAny C.M C.A (.whileLoop t body orelse C.env) (LpR C kk z s Ψ) s'' := fun ρ' cs' S'' L =>
      ⟨rfl, codeAny_mono (L kk z'' s'' (Nat.lt_of_lt_of_le h0' ht2) S'') fun r s3 q => by
        cases r with
        | ok f => exact PostX.after (l.trans l') (sm.trans sm') q
        | error e => exact q.elim⟩
    cases f with
    | next => cases o with
      | next ρ' cs' => exact wpAny_pure (go ρ' cs' ho hT)
      | _ => exact ho.elim
    | cont => cases o with
      | cont ρ' cs' => exact wpAny_pure (go ρ' cs' ho hT)
      | _ => exact ho.elim
    | brk => cases o with
      | brk ρ' cs' => exact wpAny_pure ⟨z'', .next ρ' cs', l.trans l', ho, hT, sm.trans sm'⟩
      | _ => exact ho.elim
    | ret v => cases o with
      | ret d cs' => exact wpAny_pure ⟨z'', .ret d cs', l.trans l', ho, hT, sm.trans sm'⟩
      | _ => exact ho.elim
end
end Mine
end

section
open PySem PySem.W PySem.Calls PyProof.Rows
namespace Mine
set_option linter.unusedVariables false

theorem RepAll.lookup {P : Params} {z : PH} : ∀ {vs : List Value} {ds : List D} (r : RepAll P z vs ds) (ns : List Str) (x : Str) (d : D), (ns.zip ds).reverse.lookup x = some d → ∃ v, (ns.zip vs).reverse.lookup x = some v ∧ Rep P z v d
  | [], [], _, ns, x, d, h => by cases ns <;> simp at h
  | v :: vs, e :: ds, .cons r rs, [], x, d, h => by simp at h
  | v :: vs, e :: ds, .cons r rs, n :: ns, x, d, h => by
    rw [List.zip_cons_cons, List.reverse_cons, List.lookup_append] at h
    rw [List.zip_cons_cons, List.reverse_cons, List.lookup_append]
    cases q : (ns.zip ds).reverse.lookup x with
    | some d' =>
      rw [q] at h; simp only [Option.some_or, Option.some.injEq] at h; subst h
      obtain ⟨u, hu, ru⟩ := RepAll.lookup rs ns x _ q
      exact ⟨u, by rw [hu]; rfl, ru⟩
    | none =>
      rw [q] at h; simp only [Option.none_or] at h
      have hn : (ns.zip vs).reverse.lookup x = none := by
        cases q2 : (ns.zip vs).reverse.lookup x with
        | none => rfl
        | some u =>
          exfalso
          have hlen := rs.length
          have : ∀ (ns : List Str) (vs : List Value) (ds : List D), vs.length = ds.length → (ns.zip vs).reverse.lookup x ≠ none → (ns.zip ds).reverse.lookup x ≠ none := by
            intro ns vs ds hl h1
            rw [Ne, List.lookup_eq_none_iff] at h1 ⊢
            intro h2
            refine h1 fun p hp => ?_
            rw [List.mem_reverse] at hp
            obtain ⟨i, hi, rfl⟩ := List.getElem_of_mem hp
            have hi' : i < (ns.zip ds).length := by rw [List.length_zip] at hi ⊢; (first | lia | omega)
            have := h2 _ (List.mem_reverse.mpr (List.getElem_mem hi'))
            simpa [List.getElem_zip] using this
          exact this ns vs ds hlen (by rw [q2]; simp) q
      rw [hn]
      simp only [List.lookup_cons, List.lookup_nil] at h ⊢
      cases hx : (x == n) with
      | true => rw [hx] at h; cases h; exact ⟨v, by simp, r⟩
      | false => rw [hx] at h; cases h

/-- the frame of a call -/
abbrev Cx.call (C : Cx) (x : Str) (scope : Scope) (L f : Addr) (cd : Value) : Cx := { C with A := C.A.deeper (envOf x scope L f cd), env := envOf x scope L f cd }
theorem Gd.call {C : Cx} (G : Gd C) {x : Str} {scope : Scope} {L f : Addr} {cd : Value} (hk : scope.kind = .function) : Gd (C.call x scope L f cd) :=
  ⟨G.g, G.b, G.nolimit, G.hh, hk, rfl, rfl, G.sm⟩
/-- room for n calls more -/
def Room (C : Cx) (n : Nat) : Prop := C.A.depth + n < 900 ∧ C.A.units + 4 * n < 9000
theorem Room.call {C : Cx} {n : Nat} (h : Room C (n + 1)) {x : Str} {scope : Scope} {L f : Addr} {cd : Value} : Room (C.call x scope L f cd) n := by
  obtain ⟨a, b⟩ := h
  refine ⟨?_, ?_⟩
  · show C.A.depth + 1 + n < 900; (first | lia | omega)
  · show C.A.units + 3 + 4 * n < 9000; (first | lia | omega)
theorem Room.le {C : Cx} {n m : Nat} (h : Room C n) (l : m ≤ n) : Room C m := by obtain ⟨a, b⟩ := h; exact ⟨by (first | lia | omega), by (first | lia | omega)⟩
theorem Room.depth {C : Cx} {n : Nat} (h : Room C n) : C.A.depth < recursionLimit := by obtain ⟨a, _⟩ := h; show _ < 1000; (first | lia | omega)

/-- a def of the text -/
structure Fn (C : Cx) (x : Str) (f : Addr) (params : Arguments) (body : List Stmt) (scope : Scope) : Prop where
  name : C.mg x = some (.ref f)
  obj : ∃ o pm cd doc, C.B.get? f = some o ∧ o.data = .func (docDef x params body scope pm cd doc) ∧ C.B.CodeRec cd x

theorem CodeRec.inZ {C : Cx} {z : PH} {h : Heap} {cd : Value} {x : Str} (hc : C.B.CodeRec cd x) (hb : BZ C z) (hz : z.inH h) : h.CodeRec cd x := hc.keeps fun b o e => hz _ _ (hb b o e)

/-- what a body must do to give d -/
def Gives (d : D) : Out → Prop := fun o => ∃ cs, o = .ret d cs

theorem Op.def {C : Cx} (G : Gd C) {n : Nat} (R : Room C n) {x : Str} {f : Addr} {params : Arguments} {body : List Stmt} {scope : Scope} {ds : List D} {d : D} {z : PH} {vs : List Value} (hf : Fn C x f params body scope) (r : RepAll C.P z vs ds)
    (hbind : ∀ pm cd doc, bindArgs (docDef x params body scope pm cd doc) ⟨vs, []⟩ = pure ((params.args.map (·.arg)).zip vs))
    (hloc : ((params.args.map (·.arg)).zip vs).all (fun x => decide (scope.names.lookup x.1 = some .local)) = true)
    (h : ∀ L cd, Ex (C.call x scope L f cd) (((params.args.map (·.arg)).zip ds).reverse) [] body (Gives d))
    (hco : scope.isCoroutine = false) (hgen : scope.isGenerator = false) (hk : scope.kind = .function)
    (hcell : ∀ x ∈ scope.names, x.2 ≠ .cell) : Op C z (call (.ref f) vs) fun z' v => Rep C.P z' v d := by
  intro s h0 hb hz
  obtain ⟨o, pm, cd, doc, ho, hd, hc⟩ := hf.obj
  refine wpAny_call (call_plain_ret R.depth (hz _ _ (hb _ _ ho)) hd (G.nolimit.keeps fun b o e => hz _ _ (hb b o e)) (CodeRec.inZ hc hb hz) (hbind pm cd doc) (locs hloc) (fun h₁ F => ?_) hco hgen hk hcell)
  have S : St (C.call x scope s.heap.objs.size f cd) (fun b => s.heap.get? b) z (((params.args.map (·.arg)).zip ds).reverse) [] h₁ :=
    ⟨⟨_, F.ns, fun y e he => r.lookup _ y e he⟩, hb, fun b o e => F.keep _ _ (hz _ _ e), fun b o e => F.keep _ _ e, inH_none hz (get_size _), get_size _, fun p hp => (nomatch hp), List.nodup_nil⟩
  refine Wp.mono (h s.heap.objs.size cd _ z { s with heap := h₁, toks := s.toks + ((params.args.map (·.arg)).zip vs).length } (Nat.lt_of_lt_of_le h0 (Nat.le_add_right _ _)) S) fun fl s' _ q => ?_
  obtain ⟨z', o, l, ho, ⟨cs, rfl⟩, sm⟩ := q
  cases fl with
  | ret v =>
    obtain ⟨S', r'⟩ := ho
    exact ⟨S'.keep, ⟨z', l.1, l.2, S'.low, r'⟩, sm⟩
  | _ => exact ho.elim
theorem Fn.keeper {C : Cx} {x : Str} {f : Addr} {params : Arguments} {body : List Stmt} {scope : Scope} (hf : Fn C x f params body scope) : ∀ z h, BZ C z → z.inH h → ∃ k, (k = Keeper.frame ∨ k = Keeper.machine ∨ k = Keeper.boundFrame) ∧ Looks C.M h (keeperOf (.ref f)) k := by
  intro z h hb hz
  obtain ⟨o, pm, cd, doc, ho, hd, _⟩ := hf.obj
  refine ⟨.frame, .inl rfl, fun A Q E s hk hq => ?_⟩
  show wpAny C.M A (do
    let o ← load f
    match o.data with
    | .func _ => return Keeper.frame
    | .cls _ => return if (← specialOf (.ref f) "__call__") == some (.builtin "type.__call__") then .machine else .caller
    | .fields vs =>
      if o.cls != .type "method" then
        return if o.cls == .type "builtin_function_or_method" || o.cls == .type "method-wrapper" then .machine else .caller
      let .ref g := vs.getD 0 .none | return .machine
      return match (← load g).data with | .func _ => .boundFrame | _ => .caller
    | _ => return .caller) Q E s
  refine wpAny_bind (wpAny_load (hk _ _ (hz _ _ (hb _ _ ho))) ?_)
  rw [hd]
  exact wpAny_pure hq
theorem keeper_builtin {C : Cx} {id : String} (h : Heap) : ∃ k, (k = Keeper.frame ∨ k = Keeper.machine ∨ k = Keeper.boundFrame) ∧ Looks C.M h (keeperOf (.builtin id)) k := ⟨.machine, .inr (.inl rfl), Looks.of_pure rfl⟩
theorem keeper_type {C : Cx} {id : String} (h : Heap) : ∃ k, (k = Keeper.frame ∨ k = Keeper.machine ∨ k = Keeper.boundFrame) ∧ Looks C.M h (keeperOf (.type id)) k := ⟨.machine, .inr (.inl rfl), Looks.of_pure rfl⟩

section
variable {C : Cx} {ρ : Loc} {cs : Own} {ss : List Stmt} {Φ : Out → Prop}
/-! displays -/
theorem Op.newList {z : PH} {vs : List Value} {ds : List D} (r : RepAll C.P z vs ds) (hsz : ds.length ≤ 16777216) : Op C z (newList vs) fun z' v => Rep C.P z' v (.list ds) := fun s h0 hb hz => by
  refine wpAny_newObj_type (PostOp.push hz rfl (.list (n := 0) (PH.add_at _ _ _) (r.mono (PH.le_add (inH_none hz (get_size _)))))) ?_
  show vs.toArray.size ≤ sizeLine
  rw [sizeLine_eq, List.size_toArray, r.length]; exact hsz
theorem Op.newTuple {z : PH} {vs : List Value} {ds : List D} (r : RepAll C.P z vs ds) (hsz : ds.length ≤ 16777216) : Op C z (newTuple vs) fun z' v => Rep C.P z' v (.tup ds) := fun s h0 hb hz => by
  refine wpAny_newObj_type (PostOp.push hz rfl (.tup (n := 0) (PH.add_at _ _ _) (r.mono (PH.le_add (inH_none hz (get_size _)))))) ?_
  show vs.toArray.size ≤ sizeLine
  rw [sizeLine_eq, List.size_toArray, r.length]; exact hsz
theorem Ev.list {es : List Expr} {p : Pos} {ds : List D} (h : EvA C ρ cs es ds) (hsz : ds.length ≤ 16777216) : Ev C ρ cs (.List es p) (.list ds) := fun z => by
  show Tr C ρ cs z (do standAt p; newList (← spliced (backTo p (starEach es C.env)))) _
  exact Tr.standThen (Tr.bind (h.1 z p) fun z1 vs l r => Tr.op (Op.newList r hsz))
theorem Ev.tup {es : List Expr} {n : Nat} {p : Pos} {ds : List D} (h : EvA C ρ cs es ds) (hsz : ds.length ≤ 16777216) : Ev C ρ cs (.Tuple es n p) (.tup ds) := fun z => by
  show Tr C ρ cs z (do standAt p; newTuple (← spliced (backTo p (starEach es C.env)))) _
  exact Tr.standThen (Tr.bind (h.1 z p) fun z1 vs l r => Tr.op (Op.newTuple r hsz))

/-! unpacking -/
theorem Op.here {α : Type} {z : PH} {t : Sem α} {P : PH → α → Prop} (h : ∀ s, 0 < s.toks → BZ C z → z.inH s.heap → Wp C t (PostOp z s P) s) : Op C z t P := h
theorem PostOp.ext {α : Type} {z : PH} {s : Shared} {P : PH → α → Prop} {a : α} {h' : Heap} {k : Nat} (hz : z.inH s.heap) (hx : Heap.ExtBut s.heap.objs.size s.heap h') (hp : P z a) : PostOp z s P a { s with heap := h', toks := k } := by
  have hk : HK s.heap h' := fun b o e => hx b o (fun q => by rw [q, get_size] at e; cases e) e
  exact ⟨hk, ⟨z, PH.le.refl _, FreshZ.refl, fun b o e => hk _ _ (hz _ _ e), hp⟩, ⟨rfl, rfl⟩⟩
theorem draw_list {M : Program} {w : World} {A : Around} {E : Value → Shared → Prop} {it l : Addr} {items : Array Value} (hne : l ≠ it) : ∀ (n i : Nat) (s : Shared) (Q : List Value → Shared → Prop), s.heap.IsListIter it l i → s.heap.IsList l items → i + n ≤ items.size →
    (∀ h', h'.IsListIter it l (i + n) → Heap.ExtBut it s.heap h' → Q ((items.toList.drop i).take n) { s with heap := h' }) → wpAny (model M w) A (draw (.ref it) n) Q E s
  | 0, i, s, Q, hit, hl, hn, hQ => wpAny_pure (hQ s.heap hit (Heap.ExtBut.refl _ _))
  | n + 1, i, s, Q, hit, hl, hn, hQ => by
    have hi : i < items.size := by (first | lia | omega)
    have hx : items[i]? = some items[i] := by simp [hi]
    show wpAny (model M w) A (do
      match ← pyNext (.ref it) with
      | none => pure []
      | some v => return v :: (← holding [v] (draw (.ref it) n))) Q E s
    refine wpAny_bind (wpAny_pyNext_list_item hit hl hx fun h' hit' hs => ?_)
    refine wpAny_bind (wpAny_holding (draw_list hne n (i + 1) _ _ hit' (hl.extBut hs.extBut hne) (by (first | lia | omega)) fun h'' hit'' hs' => ?_))
    refine wpAny_pure ?_
    have e : (items.toList.drop i).take (n + 1) = items[i] :: (items.toList.drop (i + 1)).take n := by
      rw [List.drop_eq_getElem_cons (by simpa using hi), List.take_succ_cons, Array.getElem_toList]
    have := hQ h'' (by rw [show i + (n + 1) = i + 1 + n from by (first | lia | omega)]; exact hit'') (hs.extBut.trans hs')
    rw [e] at this
    exact this
theorem Op.unpackTup (G : Gd C) {z : PH} {v : Value} {ds : List D} {n : Nat} (r : Rep C.P z v (.tup ds)) (hn : n = ds.length) : Op C z (unpackItems v n none) fun z' vs => RepAll C.P z' vs ds := by
  cases r using Rep.tupE with
  | @tup a vs m _ ha hr =>
    subst hn
    intro s h0 hb hz
    have := unpackItems_tuple (prog := C.prog) (w := C.w) (A := C.A) (E := fun _ _ => False) (s := s) (t := a) (items := vs.toArray) (Q := PostOp z s fun z' vs => RepAll C.P z' vs ds) G.hh (by exact ⟨_, hz _ _ ha, rfl, m, rfl⟩) fun h' hx => .ext hz hx (by simpa using hr)
    rw [List.size_toArray, hr.length] at this
    exact this
theorem Op.unpackList (G : Gd C) {z : PH} {v : Value} {ds : List D} {n : Nat} (r : Rep C.P z v (.list ds)) (hn : n = ds.length) : Op C z (unpackItems v n none) fun z' vs => RepAll C.P z' vs ds := by
  cases r using Rep.listE with
  | @list a vs m _ ha hr =>
    subst hn
    intro s h0 hb hz
    have hl : s.heap.IsList a vs.toArray := ⟨_, hz _ _ ha, rfl, m, rfl⟩
    have hne : a ≠ s.heap.objs.size := Nat.ne_of_lt (Heap.lt_size (hz _ _ ha))
    unfold unpackItems
    refine wpAny_bind ?_
    · unfold notIterableAtAll
      refine wpAny_bind (wpAny_specialOf hl.typeIs slot_list_iter.lookup ?_)
      refine wpAny_pure ?_
      simp only [Bool.false_eq_true, if_false]
      refine wpAny_bind (wpAny_holding (wpAny_pyIter_list hl ?_))
      have hl' : (s.heap.push { cls := .type "list_iterator", data := .fields #[.ref a, .int 0 0] }).IsList a vs.toArray := ⟨_, Heap.get?_push_of_some _ (hz _ _ ha), rfl, m, rfl⟩
      refine wpAny_bind (wpAny_holding (draw_list hne ds.length 0 _ _ ⟨_, Heap.get?_push_size _ rfl, rfl, rfl⟩ hl' (by rw [List.size_toArray, hr.length]; (first | lia | omega)) fun h' hit hx => ?_))
      have e : (List.take ds.length (List.drop 0 vs.toArray.toList)) = vs := by rw [List.drop_zero]; exact List.take_of_length_le (by rw [hr.length]; exact Nat.le_refl _)
      rw [e]
      have hf : ¬ vs.length < ds.length := by rw [hr.length]; (first | lia | omega)
      simp only [hf, if_false]
      refine wpAny_bind (wpAny_holding (wpAny_pyNext_list_end G.hh hit (hl'.extBut hx hne) (by simp [hr.length]) fun h'' hx' => ?_))
      refine wpAny_pure (PostOp.ext hz (fun b o hb e => hx' b o hb (hx b o hb (Heap.get?_push_of_some _ e))) hr)
end
end Mine
end

section
open PySem PySem.W PySem.Calls PyProof.Rows
namespace Mine
set_option linter.unusedVariables false

section
variable {C : Cx} {ρ : Loc} {cs : Own} {ss : List Stmt} {Φ : Out → Prop}

/-- targets that are names -/
inductive NE : List Expr → List Str → Prop
  | nil : NE [] []
  | cons {x : Str} {p : Pos} {es : List Expr} {xs : List Str} : NE es xs → NE (.Name x p :: es) (x :: xs)
/-- what a target does with a datum -/
def As (C : Cx) (tgt : Expr) (d : D) (add : Loc) : Prop :=
  ∀ ρ cs k z s v, 0 < s.toks → St C k z ρ cs s.heap → Rep C.P z v d → Wp C (assign tgt C.env v) (fun _ s' => ∃ z', Grow k z z' ∧ St C k z' (add ++ ρ) cs s'.heap ∧ Same s s') s
theorem As.name (G : Gd C) {x : Str} {p : Pos} {d : D} (hl : C.env.kindOf x = some .local) : As C (.Name x p) d [(x, d)] := fun ρ cs k z s v h0 S r =>
  wpAny_assign_Name (Tr.bindLoc G hl r S fun h' S' => ⟨z, .refl, S', ⟨rfl, rfl⟩⟩)
theorem assignNames (G : Gd C) {es : List Expr} {xs : List Str} (ne : NE es xs) : ∀ {vs : List Value} {ds : List D} (hl : (xs.all fun x => decide (C.env.kindOf x = some .local)) = true) {ρ : Loc} {cs : Own} {k z : PH} {s : Shared},
    0 < s.toks → St C k z ρ cs s.heap → RepAll C.P z vs ds → xs.length = ds.length → Wp C (assignInOrder ((assignEach es C.env).map (·.2)) vs) (fun _ s' => St C k z ((xs.zip ds).reverse ++ ρ) cs s'.heap ∧ Same s s') s := by
  induction ne with
  | nil =>
    intro vs ds hl ρ cs k z s h0 S r hlen
    have e : assignInOrder ((assignEach [] C.env).map (·.2)) vs = Pure.pure () := by cases vs <;> rfl
    rw [e]
    exact wpAny_pure ⟨S, Same.refl _⟩
  | @cons x p es xs ne ih =>
    intro vs ds hl ρ cs k z s h0 S r hlen
    cases r with
    | nil => simp at hlen
    | @cons v vs d ds r rs =>
      rw [List.all_cons, Bool.and_eq_true] at hl
      show Wp C (do holding vs (assign (.Name x p) C.env v); assignInOrder ((assignEach es C.env).map (·.2)) vs) _ s
      refine wpAny_bind (wpAny_holding (wpAny_assign_Name (Tr.bindLoc G (of_decide_eq_true hl.1) r S fun h' S' => ?_)))
      refine Wp.mono (ih hl.2 (Nat.succ_pos _) S' rs (by simpa using hlen)) fun _ s' _ ⟨S'', sm⟩ => ⟨?_, ⟨sm.1, sm.2⟩⟩
      rw [List.zip_cons_cons, List.reverse_cons, List.append_assoc]; exact S''
theorem NE.len {C : Cx} : ∀ {es : List Expr} {xs : List Str}, NE es xs → (assignEach es C.env).length = xs.length ∧ (assignEach es C.env).findIdx? (·.1) = none
  | _, _, .nil => ⟨rfl, rfl⟩
  | _, _, .cons (es := es) h => by
    obtain ⟨a, b⟩ := NE.len (C := C) h
    refine ⟨?_, ?_⟩
    · show (assignEach es C.env).length + 1 = _; rw [a]; rfl
    · show List.findIdx? (·.1) ((false, _) :: assignEach es C.env) = none
      rw [List.findIdx?_cons]; simp [b]
theorem As.many (G : Gd C) {es : List Expr} {n : Nat} {p : Pos} {xs : List Str} {d : D} {ds : List D} (ne : NE es xs) (hl : (xs.all fun x => decide (C.env.kindOf x = some .local)) = true) (hlen : xs.length = ds.length) (hd : d = .tup ds ∨ d = .list ds) : As C (.Tuple es n p) d (xs.zip ds).reverse := fun ρ cs k z s v h0 S r => by
  show Wp C (do standAt p; unpack v (assignEach es C.env)) _ s
  refine wpAny_bind (wpAny_standAt ?_)
  unfold unpack
  obtain ⟨a, b⟩ := NE.len (C := C) ne
  rw [a, b]
  have hu : Op C z (unpackItems v xs.length none) fun z' vs => RepAll C.P z' vs ds := by
    rcases hd with rfl | rfl
    · exact Op.unpackTup G r hlen
    · exact Op.unpackList G r hlen
  refine wpAny_bind (wpAny_holding (Wp.mono (Tr.op (ρ := ρ) (cs := cs) hu k s h0 S) fun vs s' ht ⟨z', l, S', rs, sm⟩ => ?_))
  exact Wp.mono (assignNames G ne hl (Nat.lt_of_lt_of_le h0 ht) S' rs hlen) fun _ s'' _ ⟨S'', sm'⟩ => ⟨z', l, S'', sm.trans sm'⟩
theorem Ex.unpack (G : Gd C) {es : List Expr} {n : Nat} {tp q : Pos} {e : Expr} {xs : List Str} {d : D} {ds : List D} (h : Ev C ρ cs e d) (hd : d = .tup ds ∨ d = .list ds) (ne : NE es xs) (hl : (xs.all fun x => decide (C.env.kindOf x = some .local)) = true) (hlen : xs.length = ds.length)
    (k : Ex C ((xs.zip ds).reverse ++ ρ) cs ss Φ) (hs : swapsWithSole [.Tuple es n tp] e q.line C.env = pure false := by rfl) (hw : swappedStores [.Tuple es n tp] e C.env = pure none := by rfl) : Ex C ρ cs (.Assign [.Tuple es n tp] e q :: ss) Φ := by
  refine Ex.cons fun kk z s h0 S => ?_
  refine Assign_Tuple (Wp.mono (h z kk s h0 S) fun v s' ht ⟨z', l, S', r, sm⟩ => ?_) hs hw
  exact Wp.mono (As.many G ne hl hlen hd ρ cs kk z' s' v (Nat.lt_of_lt_of_le h0 ht) S' r) fun _ s'' _ ⟨z'', l', S'', sm'⟩ => ⟨z'', .next _ cs, l.trans l', S'', k, sm.trans sm'⟩
theorem bindNames (G : Gd C) : ∀ (xs : List Str) {vs : List Value} {ds : List D} (hl : (xs.all fun x => decide (C.env.kindOf x = some .local)) = true) {ρ : Loc} {cs : Own} {k z : PH} {s : Shared},
    0 < s.toks → St C k z ρ cs s.heap → RepAll C.P z vs ds → xs.length = ds.length → Wp C (assignInOrder (xs.map fun n => bindName C.env n) vs) (fun _ s' => St C k z ((xs.zip ds).reverse ++ ρ) cs s'.heap ∧ Same s s') s := by
  intro xs
  induction xs with
  | nil =>
    intro vs ds hl ρ cs k z s h0 S r hlen
    have e : assignInOrder (([] : List Str).map fun n => bindName C.env n) vs = Pure.pure () := by cases vs <;> rfl
    rw [e]
    exact wpAny_pure ⟨S, Same.refl _⟩
  | cons x xs ih =>
    intro vs ds hl ρ cs k z s h0 S r hlen
    cases r with
    | nil => simp at hlen
    | @cons v vs d ds r rs =>
      rw [List.all_cons, Bool.and_eq_true] at hl
      show Wp C (do holding vs (bindName C.env x v); assignInOrder (xs.map fun n => bindName C.env n) vs) _ s
      refine wpAny_bind (wpAny_holding (wpAny_bindName (Tr.bindLoc G (of_decide_eq_true hl.1) r S fun h' S' => ?_)))
      refine Wp.mono (ih hl.2 (Nat.succ_pos _) S' rs (by simpa using hlen)) fun _ s' _ ⟨S'', sm⟩ => ⟨?_, ⟨sm.1, sm.2⟩⟩
      rw [List.zip_cons_cons, List.reverse_cons, List.append_assoc]; exact S''
theorem RepAll.rev {P : Params} {z : PH} {vs : List Value} {ds : List D} (h : RepAll P z vs ds) : RepAll P z vs.reverse ds.reverse := by
  induction vs generalizing ds with
  | nil => cases h; exact .nil
  | cons v vs ih => cases h with | cons r rs => rw [List.reverse_cons, List.reverse_cons]; exact (ih rs).snoc r
theorem zip_rev_rev {α β : Type} {xs : List α} {ys : List β} (h : xs.length = ys.length) : (xs.reverse.zip ys.reverse).reverse = xs.zip ys := by
  apply List.ext_getElem
  · simp
  · intro i h1 h2
    simp only [List.getElem_reverse, List.getElem_zip, List.length_zip, List.length_reverse]
    simp only [List.length_reverse, List.length_zip] at h1
    congr 1 <;> congr 1 <;> (first | lia | omega)
theorem Ex.unpackS (G : Gd C) {es : List Expr} {n : Nat} {tp q : Pos} {e : Expr} {xs : List Str} {ds : List D} (h : Ev C ρ cs e (.tup ds)) (hl : (xs.reverse.all fun x => decide (C.env.kindOf x = some .local)) = true) (hlen : xs.length = ds.length)
    (hw : swappedStores [.Tuple es n tp] e C.env = pure (some xs)) (k : Ex C (xs.zip ds ++ ρ) cs ss Φ) (hs : swapsWithSole [.Tuple es n tp] e q.line C.env = pure false := by rfl) : Ex C ρ cs (.Assign [.Tuple es n tp] e q :: ss) Φ := by
  refine Ex.cons fun kk z s h0 S => ?_
  refine Assign_Tuple_swapped (names := xs) (Wp.mono (h z kk s h0 S) fun v s' ht ⟨z', l, S', r, sm⟩ => ?_) hs hw
  refine Wp.mono (Tr.op (ρ := ρ) (cs := cs) (Op.unpackTup G r hlen) kk s' (Nat.lt_of_lt_of_le h0 ht) S') fun vs s2 ht2 ⟨z2, l2, S2, r2, sm2⟩ => ?_
  refine Wp.mono (bindNames G _ hl (Nat.lt_of_lt_of_le h0 (Nat.le_trans ht ht2)) S2 r2.rev (by simpa using hlen)) fun _ s3 _ ⟨S3, sm3⟩ => ⟨z2, .next _ cs, l.trans l2, ?_, k, (sm.trans sm2).trans sm3⟩
  rw [zip_rev_rev hlen] at S3
  exact S3

/-! for -/
structure Itr (C : Cx) (tgt : Expr) (I : Addr) (wr fp : List Addr) (z0 : PH) (ds : List D) (T : Nat → Heap → Prop) : Prop where
  frame : ∀ i h h', T i h → (∀ b ∈ fp, ∀ o, h.get? b = some o → h'.get? b = some o) → T i h'
  sub : ∀ b ∈ wr, b ∈ fp
  ex : ∀ i h, T i h → ∀ b ∈ fp, ∃ o, h.get? b = some o
  fpz : ∀ b ∈ fp, b ∈ wr ∨ ∃ o, z0 b = some o
  item : ∀ i d, ds[i]? = some d → ∀ (s : Shared) (z1 : PH) (Q : Value → Shared → Prop), z0.le z1 → z1.inH s.heap → (∀ b ∈ wr, z1 b = none) → T i s.heap →
    (∀ v z2 h' tk, z1.le z2 → FreshZ s.heap z1 z2 → z2.inH h' → Rep C.P z2 v d → T (i + 1) h' → (∀ b o, b ∉ wr → s.heap.get? b = some o → h'.get? b = some o) → Q v { s with heap := h', toks := tk }) →
    Wp C (pyNext (.ref I)) (fun r s' => ∃ v, r = some v ∧ Wp C (letOwnedTupleGo tgt (.ref I) v) (fun _ s'' => Q v s'') s') s
  done : ∀ (s : Shared) (Q : Option Value → Shared → Prop), T ds.length s.heap → (∀ h' tk, (∀ b o, b ∉ wr → s.heap.get? b = some o → h'.get? b = some o) → Q none { s with heap := h', toks := tk }) → Wp C (pyNext (.ref I)) Q s

/-- places that the loop's iterator turns -/
structure Off (C : Cx) (k z : PH) (cs : Own) (wr : List Addr) : Prop where
  z : ∀ b ∈ wr, z b = none
  k : ∀ b ∈ wr, k b = none
  L : ∀ b ∈ wr, b ≠ C.L
  c : ∀ b ∈ wr, ∀ p ∈ cs, p.1 ≠ b
theorem St.wr {k z z' : PH} {h h' : Heap} {wr : List Addr} (S : St C k z ρ cs h) (O : Off C k z cs wr) (hk : ∀ b o, b ∉ wr → h.get? b = some o → h'.get? b = some o) (l : z.le z') (f : FreshZ h z z') (i : z'.inH h') : St C k z' ρ cs h' := by
  obtain ⟨m, F, hm⟩ := S.fr
  have new : ∀ b o, h.get? b = some o → z b = none → z' b = none := fun b o e n => by
    cases q : z' b with
    | none => rfl
    | some o' => rcases f _ _ q with r | r
                 · rw [n] at r; cases r
                 · rw [e] at r; cases r
  have hL : C.L ∉ wr := fun q => O.L _ q rfl
  obtain ⟨oL, es, ep, e1, r1⟩ := F
  refine ⟨⟨m, ⟨oL, es, ep, hk _ _ hL e1, r1⟩, fun x d e => let ⟨v, a, b⟩ := hm x d e; ⟨v, a, b.mono l⟩⟩, S.base.mono l, i, fun b o e => hk _ _ (fun q => by rw [O.k _ q] at e; cases e) (S.keep b o e), new _ _ e1 S.zL, S.kL, fun p hp => ?_, S.nodup⟩
  obtain ⟨a, b, c, o, d, e⟩ := S.cell p hp
  exact ⟨new _ _ d a, b, c, o, hk _ _ (fun q => O.c _ q p hp rfl) d, e.mono l⟩

/-- all that the frame does not own -/
def allBut (C : Cx) (cs : Own) (h : Heap) : PH := fun b => if b = C.L ∨ b ∈ cs.map (·.1) then none else h.get? b
theorem allBut_of {h : Heap} {b : Addr} {o : Obj} (hL : b ≠ C.L) (hc : ∀ p ∈ cs, p.1 ≠ b) (e : h.get? b = some o) : allBut C cs h b = some o := by
  unfold allBut
  rw [if_neg]
  · exact e
  · rintro (q | q)
    · exact hL q
    · obtain ⟨p, hp, rfl⟩ := List.mem_map.mp q; exact hc p hp rfl
theorem St.all {k z : PH} {h : Heap} (S : St C k z ρ cs h) : St C (allBut C cs h) z ρ cs h :=
  ⟨S.fr, S.base, S.low, fun b o e => by unfold allBut at e; split at e; cases e; exact e, S.zL, by unfold allBut; rw [if_pos (.inl rfl)], fun p hp => by
    obtain ⟨a, b, c, o, d, e⟩ := S.cell p hp
    exact ⟨a, by unfold allBut; rw [if_pos (.inr (List.mem_map_of_mem hp))], c, o, d, e⟩, S.nodup⟩
theorem St.kall {k z : PH} {h : Heap} (S : St C k z ρ cs h) : k.le (allBut C cs h) := fun b o e =>
  allBut_of (fun q => by rw [q, S.kL] at e; cases e) (fun p hp q => by obtain ⟨_, b', _⟩ := S.cell p hp; rw [q, e] at b'; cases b') (S.keep b o e)
theorem St.back {k k' z : PH} {h : Heap} {ρ' : Loc} {cs' : Own} (S : St C k' z ρ' cs' h) (hk : k.le k') : St C k z ρ' cs' h := by
  have n : ∀ {b}, k' b = none → k b = none := fun {b} e => by
    cases q : k b with
    | none => rfl
    | some o => rw [hk _ _ q] at e; cases e
  exact ⟨S.fr, S.base, S.low, fun b o e => S.keep b o (hk _ _ e), S.zL, n S.kL, fun p hp => let ⟨a, b, c⟩ := S.cell p hp; ⟨a, n b, c⟩, S.nodup⟩
theorem Grow.back {k k' z z' : PH} (g : Grow k' z z') (hk : k.le k') : Grow k z z' := ⟨g.1, fun b o e => (g.2 b o e).imp id fun q => by
  cases q2 : k b with
  | none => rfl
  | some o => rw [hk _ _ q2] at q; cases q⟩
theorem Off.keep {k z z' : PH} {h : Heap} {wr : List Addr} {cs' : Own} {ρ' : Loc} {h' : Heap} (O : Off C k z cs wr) (hx : ∀ b ∈ wr, ∃ o, h.get? b = some o) (g : Grow (allBut C cs h) z z') (S' : St C (allBut C cs h) z' ρ' cs' h') : Off C k z' cs' wr := by
  have hk : ∀ b ∈ wr, ∃ o, allBut C cs h b = some o := fun b hb => let ⟨o, e⟩ := hx b hb; ⟨o, allBut_of (O.L b hb) (O.c b hb) e⟩
  refine ⟨fun b hb => ?_, O.k, O.L, fun b hb p hp q => ?_⟩
  · cases e : z' b with
    | none => rfl
    | some o =>
      obtain ⟨o', e'⟩ := hk b hb
      rcases g.2 b o e with r | r
      · rw [O.z b hb] at r; cases r
      · rw [e'] at r; cases r
  · obtain ⟨o, e⟩ := hk b hb
    obtain ⟨_, b', _⟩ := S'.cell p hp
    rw [q, e] at b'; cases b'

/-- a for's turns -/
def FL (C : Cx) (adds : D → Loc) (body orelse : List Stmt) (Ψ : Out → Prop) : List D → Loc → Own → Prop
  | [], ρ, cs => Ex C ρ cs orelse Ψ
  | d :: ds, ρ, cs => Ex C (adds d ++ ρ) cs body fun o => match o with
    | .next ρ' cs' | .cont ρ' cs' => FL C adds body orelse Ψ ds ρ' cs'
    | .brk ρ' cs' => Ψ (.next ρ' cs')
    | .ret d cs' => Ψ (.ret d cs')
theorem FL.sound {tgt : Expr} {I : Addr} {wr fp : List Addr} {z0 : PH} {all : List D} {T : Nat → Heap → Prop} {adds : D → Loc} {body orelse : List Stmt} {Ψ : Out → Prop} (W : Itr C tgt I wr fp z0 all T) (has : ∀ d ∈ all, As C tgt d (adds d)) :
    ∀ (ds : List D) (i : Nat) (ρ : Loc) (cs : Own) (k z : PH) (s : Shared), all.drop i = ds → i ≤ all.length → 0 < s.toks → St C k z ρ cs s.heap → z0.le z → T i s.heap → Off C k z cs wr → FL C adds body orelse Ψ ds ρ cs →
      codeAny C.M C.A (.forLoop tgt (.ref I) body orelse C.env) (LpR C k z s Ψ) s
  | [], i, ρ, cs, k, z, s, hd, hi, h0, S, hz0, hT, O, hF => by
    have hi' : i = all.length := by
      have := congrArg List.length hd
      simp only [List.length_drop, List.length_nil] at this; (first | lia | omega)
    subst hi'
    refine codeAny_of_tree ?_
    have hu : C.A.under (.forLoop tgt (.ref I) body orelse C.env) = C.A := Around.under_of_weight rfl rfl
    rw [hu]
    show wpAny _ C.A ((forTurn tgt (.ref I) body orelse C.env).onRaise (fun x => do noteFrame x C.env; theTreesLotGoes x)) _ _ s
    refine wpAny_onRaise (wpAny_mono (E := fun _ _ => False) ?_ (fun _ _ q => q) fun _ _ q => q.elim)
    unfold forTurn
    refine wpAny_bind (wpAny_standAt (wpAny_bind (wpAny_onRaise (wpAny_mono (E := fun _ _ => False) ?_ (fun _ _ q => q) fun _ _ q => q.elim))))
    refine Wp.mono (W.done s (fun r s' => r = none ∧ ∃ h' tk, s' = { s with heap := h', toks := tk } ∧ ∀ b o, b ∉ wr → s.heap.get? b = some o → h'.get? b = some o) hT fun h' tk hk => ⟨rfl, h', tk, rfl, hk⟩) fun r s' ht q => ?_
    obtain ⟨rfl, h', tk, rfl, hk⟩ := q
    have S' := S.wr O hk (PH.le.refl z) FreshZ.refl fun b o e => hk b o (fun q => by rw [O.z _ q] at e; cases e) (S.low b o e)
    refine wpAny_pure ⟨rfl, codeAny_of_tree ?_⟩
    have hu : C.A.under (.block orelse C.env) = C.A := Around.under_of_weight rfl rfl
    rw [hu]
    show wpAny _ C.A (do return Fin.done (← (execs orelse C.env).onRaise (fun x => do noteFrame x C.env; theTreesLotGoes x))) _ _ _
    refine wpAny_bind (wpAny_onRaise (wpAny_mono (hF k z { s with heap := h', toks := tk } (Nat.lt_of_lt_of_le h0 ht) S') (fun f s'' q => ?_) fun _ _ q => q.elim))
    exact wpAny_pure (q.after .refl ⟨rfl, rfl⟩)
  | d :: ds, i, ρ, cs, k, z, s, hd, hi, h0, S, hz0, hT, O, hF => by
    have hit : all[i]? = some d := by
      have := congrArg List.head? hd
      rwa [List.head?_drop, List.head?_cons] at this
    have hlt : i < all.length := (List.getElem?_eq_some_iff.mp hit).1
    have hd' : all.drop (i + 1) = ds := by
      have := congrArg List.tail hd
      rwa [List.tail_drop, List.tail_cons] at this
    refine codeAny_of_tree ?_
    have hu : C.A.under (.forLoop tgt (.ref I) body orelse C.env) = C.A := Around.under_of_weight rfl rfl
    rw [hu]
    show wpAny _ C.A ((forTurn tgt (.ref I) body orelse C.env).onRaise (fun x => do noteFrame x C.env; theTreesLotGoes x)) _ _ s
    refine wpAny_onRaise (wpAny_mono (E := fun _ _ => False) ?_ (fun _ _ q => q) fun _ _ q => q.elim)
    unfold forTurn
    refine wpAny_bind (wpAny_standAt (wpAny_bind (wpAny_onRaise (wpAny_mono (E := fun _ _ => False) ?_ (fun _ _ q => q) fun _ _ q => q.elim))))
    refine Wp.mono (W.item i d hit s z (fun v s'' => s.toks ≤ s''.toks → wpAny C.M C.A (do
        assign tgt C.env v
        match ← execs body C.env with
        | .next | .cont => again (.forLoop tgt (.ref I) body orelse C.env)
        | .brk => pure (.done .next)
        | .ret v => pure (.done (.ret v)))
        (fun fin s' => match fin with | .done f => LpR C k z s Ψ (.ok f) s' | .again c' => c'.quiet = true ∧ codeAny C.M C.A c' (LpR C k z s Ψ) s') (fun _ _ => False) s'') hz0 S.low O.z hT ?_) fun r s' ht q => ?_
    · intro v z2 h' tk l2 f2 i2 r2 hT' hk ht
      have S2 := S.wr O hk l2 f2 i2
      have hex := W.ex _ _ hT'
      have O2 : Off C k z2 cs wr := ⟨(fun b hb => by
        cases e : z2 b with
        | none => rfl
        | some o => rcases f2 b o e with r | r
                    · rw [O.z b hb] at r; cases r
                    · obtain ⟨o', e'⟩ := W.ex _ _ hT b (W.sub b hb); rw [e'] at r; cases r), O.k, O.L, O.c⟩
      have g2 : Grow k z z2 := .of S.keep l2 f2
      refine wpAny_bind (Wp.mono (has d (List.mem_of_getElem? hit) ρ cs _ z2 { s with heap := h', toks := tk } v (Nat.lt_of_lt_of_le h0 ht) S2.all r2) fun _ s3 ht3 ⟨z3, g3, S3, sm3⟩ => ?_)
      refine wpAny_bind (Wp.mono (hF _ z3 s3 (Nat.lt_of_lt_of_le h0 (Nat.le_trans ht ht3)) S3) fun f s4 ht4 q => ?_)
      obtain ⟨z4, o, g4, ho, hΦ, sm4⟩ := q
      have g : Grow k z z4 := g2.trans ((g3.trans g4).back S2.kall)
      have smAll : Same s s4 := Same.trans (a := s) (b := s3) ⟨sm3.1, sm3.2⟩ sm4
      have h04 : 0 < s4.toks := Nat.lt_of_lt_of_le h0 (Nat.le_trans ht (Nat.le_trans ht3 ht4))
      have go : ∀ ρ' cs', St C (allBut C cs h') z4 ρ' cs' s4.heap → FL C adds body orelse Ψ ds ρ' cs' → (Code.forLoop tgt (.ref I) body orelse C.env).quiet = true ∧ codeAny C.M C.A (.forLoop tgt (.ref I) body orelse C.env) (LpR C k z s Ψ) s4 := fun ρ' cs' S4 hF' => by
        refine ⟨rfl, codeAny_mono (FL.sound W has ds (i + 1) ρ' cs' k z4 s4 hd' hlt h04 (S4.back S2.kall) (hz0.trans g.1) ?_ (O2.keep (fun b hb => hex b (W.sub b hb)) (g3.trans g4) S4) hF') fun r s5 q => ?_⟩
        · refine W.frame _ _ _ hT' fun b hb o e => ?_
          rcases W.fpz b hb with hw | ⟨o', e'⟩
          · exact S4.keep _ _ (allBut_of (O2.L b hw) (O2.c b hw) e)
          · have e2 := l2 _ _ (hz0 _ _ e')
            have := i2 _ _ e2
            rw [e] at this; cases this
            exact S4.low _ _ ((g3.trans g4).1 _ _ e2)
        · cases r with
          | ok f => exact PostX.after g smAll q
          | error e => exact q.elim
      cases f with
      | next => cases o with
        | next ρ' cs' => exact wpAny_pure (go ρ' cs' ho hΦ)
        | _ => exact ho.elim
      | cont => cases o with
        | cont ρ' cs' => exact wpAny_pure (go ρ' cs' ho hΦ)
        | _ => exact ho.elim
      | brk => cases o with
        | brk ρ' cs' => exact wpAny_pure ⟨z4, .next ρ' cs', g, ho.back S2.kall, hΦ, smAll⟩
        | _ => exact ho.elim
      | ret v => cases o with
        | ret d cs' => exact wpAny_pure ⟨z4, .ret d cs', g, ⟨ho.1.back S2.kall, ho.2⟩, hΦ, smAll⟩
        | _ => exact ho.elim
    · obtain ⟨v, rfl, q⟩ := q
      exact wpAny_bind (Wp.mono q fun _ s'' ht2 q => q (Nat.le_trans ht ht2))
end
end Mine
end

section
open PySem PySem.W PySem.Calls PyProof.Rows
namespace Mine
set_option linter.unusedVariables false

section
variable {C : Cx} {ρ : Loc} {cs : Own} {ss : List Stmt} {Φ : Out → Prop}

theorem Itr.list (G : Gd C) {x : Str} {p : Pos} {z0 : PH} {I a : Addr} {vs : List Value} {n : Nat} {ds : List D} (hne : a ≠ I) (ha : z0 a = some (W.listOf vs.toArray n)) (r : RepAll C.P z0 vs ds) :
    Itr C (.Name x p) I [I] [I, a] z0 ds (fun i h => h.IsListIter I a i ∧ h.get? a = some (W.listOf vs.toArray n)) where
  frame := fun i h h' st hk => ⟨st.1.at fun o e => hk I (by simp) o e, hk a (by simp) _ st.2⟩
  sub := fun b hb => by simp at hb; simp [hb]
  ex := fun i h st b hb => by
    simp at hb
    rcases hb with rfl | rfl
    · obtain ⟨o, e, _⟩ := st.1; exact ⟨o, e⟩
    · exact ⟨_, st.2⟩
  fpz := fun b hb => by
    simp at hb
    rcases hb with rfl | rfl
    · exact .inl (by simp)
    · exact .inr ⟨_, ha⟩
  item := fun i d hd s z1 Q l hz hw st hQ => by
    obtain ⟨v, hv, rv⟩ := r.get hd
    have hl : s.heap.IsList a vs.toArray := ⟨_, st.2, rfl, n, rfl⟩
    refine wpAny_pyNext_list_item st.1 hl (x := v) (by simpa using hv) fun h' hit' hs => ⟨v, rfl, ?_⟩
    refine wpAny_pure (a := ()) ?_
    exact hQ v z1 h' s.toks (PH.le.refl _) FreshZ.refl (fun b o e => (hs.2 b (fun q => by rw [q, hw I (by simp)] at e; cases e)).trans (hz _ _ e)) (rv.mono l) ⟨hit', (hs.2 a hne).trans st.2⟩ fun b o hb e => (hs.2 b (fun q => hb (by simp [q]))).trans e
  done := fun s Q st hQ => by
    have hl : s.heap.IsList a vs.toArray := ⟨_, st.2, rfl, n, rfl⟩
    exact wpAny_pyNext_list_end G.hh st.1 hl (by simp [r.length]) fun h' hx => hQ h' s.toks fun b o hb e => hx b o (fun q => hb (by simp [q])) e
theorem Itr.tup (G : Gd C) {x : Str} {p : Pos} {z0 : PH} {I a : Addr} {vs : List Value} {n : Nat} {ds : List D} (hne : a ≠ I) (ha : z0 a = some { cls := .type "tuple", data := .seq vs.toArray n }) (r : RepAll C.P z0 vs ds) :
    Itr C (.Name x p) I [I] [I, a] z0 ds (fun i h => h.IsTupleIter I a i ∧ h.get? a = some { cls := .type "tuple", data := .seq vs.toArray n }) where
  frame := fun i h h' st hk => ⟨st.1.at fun o e => hk I (by simp) o e, hk a (by simp) _ st.2⟩
  sub := fun b hb => by simp at hb; simp [hb]
  ex := fun i h st b hb => by
    simp at hb
    rcases hb with rfl | rfl
    · obtain ⟨o, e, _⟩ := st.1; exact ⟨o, e⟩
    · exact ⟨_, st.2⟩
  fpz := fun b hb => by
    simp at hb
    rcases hb with rfl | rfl
    · exact .inl (by simp)
    · exact .inr ⟨_, ha⟩
  item := fun i d hd s z1 Q l hz hw st hQ => by
    obtain ⟨v, hv, rv⟩ := r.get hd
    have hl : s.heap.IsTuple a vs.toArray := ⟨_, st.2, rfl, n, rfl⟩
    refine wpAny_pyNext_tuple_item st.1 hl (x := v) (by simpa using hv) fun h' hit' hs => ⟨v, rfl, ?_⟩
    refine wpAny_pure (a := ()) ?_
    exact hQ v z1 h' s.toks (PH.le.refl _) FreshZ.refl (fun b o e => (hs.2 b (fun q => by rw [q, hw I (by simp)] at e; cases e)).trans (hz _ _ e)) (rv.mono l) ⟨hit', (hs.2 a hne).trans st.2⟩ fun b o hb e => (hs.2 b (fun q => hb (by simp [q]))).trans e
  done := fun s Q st hQ => by
    have hl : s.heap.IsTuple a vs.toArray := ⟨_, st.2, rfl, n, rfl⟩
    exact wpAny_pyNext_tuple_end G.hh st.1 hl (by simp [r.length]) fun h' hx => hQ h' s.toks fun b o hb e => hx b o (fun q => hb (by simp [q])) e

theorem Off.new {k z : PH} {h : Heap} (S : St C k z ρ cs h) {wr : List Addr} (hw : ∀ b ∈ wr, h.get? b = none) : Off C k z cs wr :=
  ⟨fun b hb => inH_none S.low (hw b hb), fun b hb => inH_none S.keep (hw b hb), (fun b hb q => by
    obtain ⟨m, ⟨o, _, _, e, _⟩, _⟩ := S.fr; rw [← q, hw b hb] at e; cases e), (fun b hb p hp q => by
    obtain ⟨_, _, _, o, e, _⟩ := S.cell p hp; rw [q, hw b hb] at e; cases e)⟩
theorem Ex.forTup (G : Gd C) {x : Str} {p q : Pos} {iter : Expr} {body orelse : List Stmt} {ds : List D} (h : Ev C ρ cs iter (.tup ds)) (hl : C.env.kindOf x = some .local) (hF : FL C (fun d => [(x, d)]) body orelse (Then C ss Φ) ds ρ cs)
    (hs : ∀ x, foldedSetIterable iter C.env x = pure x := by intro _; rfl) : Ex C ρ cs (.For (.Name x p) iter body orelse q :: ss) Φ := by
  refine Ex.cons fun k z s h0 S => ?_
  refine wpAny_For (Wp.mono (h z k s h0 S) fun v s' ht ⟨z', l, S', r, sm⟩ => ?_) hs
  cases r using Rep.tupE with
  | @tup a vs n _ ha r =>
    have hget := S'.low _ _ ha
    refine wpAny_pyIter_tuple ⟨_, hget, rfl, n, rfl⟩ ?_
    have hne : a ≠ s'.heap.objs.size := Nat.ne_of_lt (Heap.lt_size hget)
    have S2 : St C k z' ρ cs (s'.heap.push { cls := .type "tuple_iterator", data := .fields #[.ref a, .int 0 0] }) := S'.step (fun b o e => Heap.get?_push_of_some _ e) (PH.le.refl _) FreshZ.refl fun b o e => Heap.get?_push_of_some _ (S'.low _ _ e)
    refine codeAny_mono (FL.sound (Itr.tup (x := x) (p := p) G hne ha r) (fun d _ => As.name G hl) ds 0 ρ cs k z' _ rfl (Nat.zero_le _) (Nat.lt_of_lt_of_le h0 ht) S2 (PH.le.refl _) ⟨⟨_, Heap.get?_push_size _ rfl, rfl, rfl⟩, Heap.get?_push_of_some _ hget⟩ ?_ hF) fun r s'' q => by
      cases r with
      | ok f => exact PostX.after l sm q
      | error e => exact False.elim q
    exact ⟨fun b hb => by rw [List.mem_singleton.mp hb]; exact inH_none S'.low (get_size _), fun b hb => by rw [List.mem_singleton.mp hb]; exact inH_none S'.keep (get_size _), fun b hb => (Off.new S' (wr := [s'.heap.objs.size]) (fun b hb => by rw [List.mem_singleton.mp hb]; exact get_size _)).L b hb, fun b hb => (Off.new S' (wr := [s'.heap.objs.size]) (fun b hb => by rw [List.mem_singleton.mp hb]; exact get_size _)).c b hb⟩

/-! lists that the frame owns -/
theorem St.pop {k z : PH} {h : Heap} {a : Addr} {c : Cell} (S : St C k z ρ ((a, c) :: cs) h) : St C k z ρ cs h :=
  ⟨S.fr, S.base, S.low, S.keep, S.zL, S.kL, fun p hp => S.cell p (.tail _ hp), (List.nodup_cons.mp S.nodup).2⟩
theorem St.new {k z : PH} {h : Heap} {o : Obj} {c : Cell} (S : St C k z ρ cs h) (hf : o.isFreed = false) (ho : CellIs C.P z o c) : St C k z ρ ((h.objs.size, c) :: cs) (h.push o) := by
  have hk : HK h (h.push o) := fun b o e => Heap.get?_push_of_some _ e
  have S' := S.step hk (PH.le.refl _) FreshZ.refl fun b o e => hk _ _ (S.low _ _ e)
  have nz : h.objs.size ≠ C.L := fun q => by obtain ⟨m, ⟨o, _, _, e, _⟩, _⟩ := S.fr; rw [← q, get_size] at e; cases e
  refine ⟨S'.fr, S'.base, S'.low, S'.keep, S'.zL, S'.kL, fun p hp => ?_, ?_⟩
  · rcases List.mem_cons.mp hp with rfl | hp
    · exact ⟨inH_none S.low (get_size _), inH_none S.keep (get_size _), nz, o, Heap.get?_push_size _ hf, ho⟩
    · exact S'.cell p hp
  · rw [List.map_cons, List.nodup_cons]
    refine ⟨fun q => ?_, S'.nodup⟩
    obtain ⟨p, hp, e⟩ := List.mem_map.mp q
    obtain ⟨_, _, _, o', e', _⟩ := S.cell p hp
    have e : p.1 = h.objs.size := e
    rw [e, get_size] at e'; cases e'
theorem Ex.assignNew (G : Gd C) {x : Str} {p q r : Pos} (k : ∀ a, Ex C ((x, .val (.ref a)) :: ρ) ((a, .lst []) :: cs) ss Φ) (hl : C.env.kindOf x = some .local) : Ex C ρ cs (.Assign [.Name x p] (.List [] q) r :: ss) Φ := by
  refine Ex.cons fun kk z s h0 S => ?_
  refine wpAny_Assign_Name ?_ rfl
  show Wp C (do standAt q; PySem.newList (← spliced (backTo q (starEach [] C.env)))) _ s
  refine wpAny_bind (wpAny_standAt (wpAny_bind (wpAny_pure (a := []) ?_)))
  refine wpAny_newObj_type ?_
  have S' : St C kk z ρ ((s.heap.objs.size, .lst []) :: cs) (s.heap.push (W.listOf #[] 0)) := S.new rfl ⟨[], 0, rfl, .nil⟩
  exact Tr.bindLoc (d := .val (.ref s.heap.objs.size)) G hl (.val _) (s := { s with heap := s.heap.push (W.listOf #[] 0) }) S' fun h' S'' => ⟨z, .next _ _, .refl, S'', k _, ⟨rfl, rfl⟩⟩
/-- an owned place is turned -/
theorem St.setCell {k z : PH} {h h' : Heap} {a : Addr} {c c' : Cell} {o : Obj} (S : St C k z ρ ((a, c) :: cs) h) (hs : Heap.SameBut a h h') (ho : h'.get? a = some o) (hc : CellIs C.P z o c') : St C k z ρ ((a, c') :: cs) h' := by
  obtain ⟨za, ka, aL, _⟩ := S.cell (a, c) (.head _)
  have ne : ∀ {w : PH} {b : Addr} {o : Obj}, w a = none → w b = some o → b ≠ a := fun hw e q => by rw [q, hw] at e; cases e
  obtain ⟨m, ⟨oL, es, ep, e1, r1⟩, hm⟩ := S.fr
  refine ⟨⟨m, ⟨oL, es, ep, (hs.2 _ (Ne.symm aL)).trans e1, r1⟩, hm⟩, S.base, fun b o e => (hs.2 b (ne za e)).trans (S.low b o e), fun b o e => (hs.2 b (ne ka e)).trans (S.keep b o e), S.zL, S.kL, fun p hp => ?_, S.nodup⟩
  rcases List.mem_cons.mp hp with rfl | hp
  · exact ⟨za, ka, aL, o, ho, hc⟩
  · obtain ⟨x, y, w, o', e, r⟩ := S.cell p (.tail _ hp)
    refine ⟨x, y, w, o', (hs.2 _ fun q => ?_).trans e, r⟩
    exact (List.nodup_cons.mp S.nodup).1 (List.mem_map.mpr ⟨p, hp, q⟩)
theorem mapSeq_list {its : Array Value} {n : Nat} (f : Array Value → Array Value) : ∃ n', (Obj.mapSeq f (W.listOf its n)) = W.listOf (f its) n' := ⟨_, rfl⟩
theorem append_cell {k z : PH} {s : Shared} {a : Addr} {ds : List D} {v : Value} {d : D} {Q : Value → Shared → Prop} (S : St C k z ρ ((a, .lst ds) :: cs) s.heap) (r : Rep C.P z v d) (hsz : ds.length ≤ 16777216)
    (hQ : ∀ h', St C k z ρ ((a, .lst (ds ++ [d])) :: cs) h' → Q .none { s with heap := h' }) : Wp C (call (.builtin "list.append") [.ref a, v]) Q s := by
  obtain ⟨_, _, _, o, ho, vs, n, rfl, rs⟩ := S.cell (a, .lst ds) (.head _)
  refine wpAny_list_append_plain ⟨n, ho⟩ (fun h' ⟨n', ho'⟩ hs => hQ h' (S.setCell hs ho' ⟨vs ++ [v], n', by simp, rs.snoc r⟩)) ?_
  rw [sizeLine_eq, List.size_toArray, rs.length]; exact hsz
theorem Ex.append (G : Gd C) {x : Str} {p1 ap cp q : Pos} {e : Expr} {a : Addr} {ds : List D} {d : D} (hx : ρ.lookup x = some (.val (.ref a))) (he : Ev C ρ ((a, .lst ds) :: cs) e d) (hsz : ds.length ≤ 16777216) (k : Ex C ρ ((a, .lst (ds ++ [d])) :: cs) ss Φ)
    (hl : C.env.kindOf x = some .local) (hd : (x == ("__debug__" : Str)) = false) (hse : starEach [e] C.env = [(false, eval e C.env)] := by exact star_cons rfl) (hp : (ap.endLine == cp.line) = true := by rfl) : Ex C ρ ((a, .lst ds) :: cs) (.Expr (.Call (.Attribute (.Name x p1) "append" ap) [e] [] cp) q :: ss) Φ := by
  refine Ex.cons fun kk z s h0 S => ?_
  have hint : interactive C.env = false := by unfold interactive; rw [G.kind]; rfl
  show Wp C (do
    standAt q
    if interactive C.env then printExpr (eval (.Call (.Attribute (.Name x p1) "append" ap) [e] [] cp) C.env)
    else if ← swapsWith (.Call (.Attribute (.Name x p1) "append" ap) [e] [] cp) none q.line C.env then do evalThenUse (.Call (.Attribute (.Name x p1) "append" ap) [e] [] cp) C.env fun _ => point; pure .next
    else do dropValue (.Call (.Attribute (.Name x p1) "append" ap) [e] [] cp) q (← eval (.Call (.Attribute (.Name x p1) "append" ap) [e] [] cp) C.env)) _ s
  rw [hint]
  refine wpAny_bind (wpAny_standAt (wpAny_bind (wpAny_pure ?_)))
  have few : methodCallForm ([e].length + ([] : List Keyword).length) (backTo cp (starEach [e] C.env)) [] = true := by rw [hse]; rfl
  refine wpAny_bind ?_
  show Wp C (do
    let ov ← eval (.Name x p1) C.env
    standAt ap.atName
    methodCall (.Name x p1) "append" ap cp C.env ov ([e].length + ([] : List Keyword).length) (backTo cp (starEach [e] C.env)) []) _ s
  refine wpAny_bind (Wp.mono (Ev.loc G hx hl hd z kk s h0 S) fun v s1 ht1 ⟨z1, l1, S1, r1, sm1⟩ => ?_)
  cases r1
  refine wpAny_bind (wpAny_standAt ?_)
  unfold methodCall
  rw [few]
  obtain ⟨_, _, _, o, ho, vs, n, rfl, rs⟩ := S1.cell (a, .lst ds) (.head _)
  refine wpAny_bind (wpAny_holding (getMethod_list_append ho rfl rfl ?_))
  have e2 : methodCallPos true (.Name x p1) C.env ap cp = Pure.pure cp := by unfold methodCallPos; rw [hp]; rfl
  dsimp only
  rw [e2, pure_bind]
  refine callWith_of (P := fun _ => True) (by rw [hse]; rfl) (fun h _ => keeper_builtin (C := C) h) ?_
  refine evalArgs_any (by rw [hse]; rfl) ?_
  rw [hse]
  show Wp C (spliced [(false, eval e C.env)]) _ s1
  rw [spliced]
  refine wpAny_bind (Wp.mono (he z1 kk s1 (Nat.lt_of_lt_of_le h0 ht1) S1) fun v s2 ht2 ⟨z2, l2, S2, r2, sm2⟩ => ?_)
  simp only [Bool.false_eq_true, if_false]
  refine wpAny_bind (wpAny_pure (wpAny_bind (wpAny_holding (wpAny_pure (wpAny_pure ⟨trivial, ?_⟩)))))
  refine append_cell S2 r2 hsz fun h' S3 => ?_
  exact wpAny_pure ⟨z2, .next _ _, l1.trans l2, S3, k, sm1.trans ⟨sm2.1, sm2.2⟩⟩
/-- an owned list is owned no more -/
theorem St.freeze {k z : PH} {h : Heap} {a : Addr} {ds : List D} (S : St C k z ρ ((a, .lst ds) :: cs) h) : ∃ z', Grow k z z' ∧ St C k z' ρ cs h ∧ Rep C.P z' (.ref a) (.list ds) := by
  obtain ⟨za, ka, aL, o, ho, vs, n, rfl, rs⟩ := S.cell (a, .lst ds) (.head _)
  have l : z.le (z.add a (W.listOf vs.toArray n)) := PH.le_add za
  have at' : ∀ {b : Addr}, b ≠ a → z.add a (W.listOf vs.toArray n) b = z b := fun q => if_neg q
  refine ⟨_, ⟨l, fun b o e => ?_⟩, ?_, .list (PH.add_at _ _ _) (rs.mono l)⟩
  · by_cases q : b = a
    · subst q; exact .inr ka
    · rw [at' q] at e; exact .inl e
  · obtain ⟨m, F, hm⟩ := S.fr
    refine ⟨⟨m, F, fun x d e => let ⟨v, p, q⟩ := hm x d e; ⟨v, p, q.mono l⟩⟩, S.base.mono l, fun b o e => ?_, S.keep, by rw [at' (Ne.symm aL)]; exact S.zL, S.kL, fun p hp => ?_, (List.nodup_cons.mp S.nodup).2⟩
    · by_cases q : b = a
      · subst q; rw [PH.add_at] at e; cases e; exact ho
      · rw [at' q] at e; exact S.low _ _ e
    · obtain ⟨x, y, w, o', e, r⟩ := S.cell p (.tail _ hp)
      have q : p.1 ≠ a := fun q => (List.nodup_cons.mp S.nodup).1 (List.mem_map.mpr ⟨p, hp, q⟩)
      exact ⟨by rw [at' q]; exact x, y, w, o', e, r.mono l⟩
theorem St.frozen {k z : PH} {h : Heap} {x : Str} {a : Addr} {d : D} (S : St C k z ρ cs h) (hx : ρ.lookup x = some (.val (.ref a))) (r : Rep C.P z (.ref a) d) : St C k z ((x, d) :: ρ) cs h := by
  obtain ⟨m, F, hm⟩ := S.fr
  refine ⟨⟨m, F, fun y e he => ?_⟩, S.base, S.low, S.keep, S.zL, S.kL, S.cell, S.nodup⟩
  rw [List.lookup_cons] at he
  by_cases q : y = x
  · subst q
    simp only [beq_self_eq_true] at he; cases he
    obtain ⟨v, hv, rv⟩ := hm _ _ hx
    cases rv
    exact ⟨_, hv, r⟩
  · have : (y == x) = false := by simpa using q
    rw [this] at he
    exact hm y e he
theorem Ex.freeze {x : Str} {a : Addr} {ds : List D} (hx : ρ.lookup x = some (.val (.ref a))) (k : Ex C ((x, .list ds) :: ρ) cs ss Φ) : Ex C ρ ((a, .lst ds) :: cs) ss Φ := fun kk z s h0 S => by
  obtain ⟨z', l, S', r⟩ := S.freeze
  exact Wp.mono (k kk z' s h0 (S'.frozen hx r)) fun _ _ _ q => q.after l (Same.refl _)
end
end Mine
end

section
open PySem PySem.W PySem.Calls PyProof.Rows PySem.Builtin.Str
namespace Mine
set_option linter.unusedVariables false

/-! texts as lists of their signs -/
def fndI (o : Option Nat) : Int := match o with | some i => (i : Int) | none => -1
def fndFrom (c : Nat) (l : List Nat) (i : Nat) : Int := fndI (((l.drop i).findIdx? (· == c)).map (· + i))
def rfnd (c : Nat) : List Nat → Int
  | [] => -1
  | a :: l => if 0 ≤ rfnd c l then rfnd c l + 1 else if a = c then 0 else -1
def rep (c : Nat) (r : List Nat) (l : List Nat) : List Nat := l.flatMap fun a => if a = c then r else [a]
def spl (c : Nat) : List Nat → List (List Nat)
  | [] => [[]]
  | a :: l => if a = c then [] :: spl c l else match spl c l with
    | h :: t => (a :: h) :: t
    | [] => [[a]]
def jn (sep : List Nat) : List (List Nat) → List Nat
  | [] => []
  | [x] => x
  | x :: rest => x ++ sep ++ jn sep rest
def rst (c : Nat) (l : List Nat) : List Nat := (l.reverse.dropWhile (· == c)).reverse

theorem rfnd_spec (c : Nat) : ∀ l : List Nat, (rfnd c l = -1 ∧ ∀ i : Nat, l[i]? ≠ some c) ∨ ∃ i : Nat, rfnd c l = (i : Int) ∧ l[i]? = some c ∧ ∀ k, i < k → l[k]? ≠ some c
  | [] => .inl ⟨rfl, fun i => by simp⟩
  | a :: l => by
    unfold rfnd
    rcases rfnd_spec c l with ⟨e, h⟩ | ⟨i, e, h, hk⟩
    · rw [e]
      by_cases q : a = c
      · refine .inr ⟨0, by simp [q], by simp [q], fun k hk => ?_⟩
        cases k with
        | zero => (first | lia | omega)
        | succ k => simpa using h k
      · refine .inl ⟨by simp [q], fun i => ?_⟩
        cases i with
        | zero => simpa using q
        | succ i => simpa using h i
    · refine .inr ⟨i + 1, by rw [e, if_pos (by (first | lia | omega))]; rfl, by simpa using h, fun k hk' => ?_⟩
      cases k with
      | zero => (first | lia | omega)
      | succ k => simpa using hk k (by (first | lia | omega))
theorem one_cps {y : Str} {c : Nat} (h : y.cps.toList = [c]) : y = ⟨#[c]⟩ := by
  obtain ⟨⟨l⟩⟩ := y
  simp only at h; subst h; rfl
theorem rfind_eq (x : Str) (c : Nat) : Txt.rfind x ⟨#[c]⟩ = rfnd c x.cps.toList := by
  have at_iff : ∀ i, StrLaws.At x ⟨#[c]⟩ x.length i ↔ x.cps.toList[i]? = some c := fun i => StrLaws.subAt_one x c i
  rcases rfind_whole x ⟨#[c]⟩ with ⟨e, h⟩ | ⟨i, e, h, hk⟩
  · rcases rfnd_spec c x.cps.toList with ⟨e', _⟩ | ⟨j, _, h', _⟩
    · rw [e, e']
    · exact absurd ((at_iff j).mpr h') (h j)
  · rcases rfnd_spec c x.cps.toList with ⟨_, h'⟩ | ⟨j, e', h', hk'⟩
    · exact absurd ((at_iff i).mp h) (h' i)
    · rw [e, e']
      rcases Nat.lt_trichotomy i j with q | q | q
      · exact absurd ((at_iff j).mpr h') (hk j q)
      · rw [q]
      · exact absurd ((at_iff i).mp h) (hk' i q)
theorem fnd_spec (c : Nat) (l : List Nat) (i : Nat) : (fndFrom c l i = -1 ∧ ∀ v, i ≤ v → l[v]? ≠ some c) ∨ ∃ k : Nat, fndFrom c l i = (k : Int) ∧ i ≤ k ∧ l[k]? = some c ∧ ∀ v, i ≤ v → v < k → l[v]? ≠ some c := by
  unfold fndFrom
  cases h : (l.drop i).findIdx? (· == c) with
  | none =>
    refine .inl ⟨rfl, fun v hv e => ?_⟩
    rw [List.findIdx?_eq_none_iff] at h
    have := h c (List.mem_of_getElem? (i := v - i) (by rw [List.getElem?_drop, show i + (v - i) = v from by (first | lia | omega)]; exact e))
    simp at this
  | some k =>
    rw [List.findIdx?_eq_some_iff_getElem] at h
    obtain ⟨hk, e, hn⟩ := h
    refine .inr ⟨k + i, rfl, by (first | lia | omega), ?_, fun v hv hlt e' => ?_⟩
    · rw [List.getElem_drop] at e
      have hlen : i + k < l.length := by rw [List.length_drop] at hk; (first | lia | omega)
      rw [Nat.add_comm, List.getElem?_eq_getElem hlen]
      simpa using e
    · have h2 := hn (v - i) (by (first | lia | omega))
      rw [List.getElem_drop] at h2
      have hlen : v < l.length := by rw [List.length_drop] at hk; (first | lia | omega)
      rw [List.getElem?_eq_getElem hlen] at e'
      simp only [show i + (v - i) = v from by (first | lia | omega)] at h2
      exact h2 (by simpa using e')
theorem find3_eq (x : Str) (c : Nat) (i : Nat) (hi : i ≤ x.length) : Txt.find3 x ⟨#[c]⟩ (i : Int) = fndFrom c x.cps.toList i := by
  have fi : fromIndex x.length (i : Int) = i := by
    unfold fromIndex
    simp only [show ¬ ((i : Int) < 0) from by (first | lia | omega), if_false]
    (first | lia | omega)
  have gi : ∀ v, v < x.length → (x.cps.getD v 0 = c ↔ x.cps.toList[v]? = some c) := fun v hv => ⟨StrLaws.getElem?_of_getD hv, StrLaws.getD_of_getElem?⟩
  have lt : ∀ v, x.cps.toList[v]? = some c → v < x.length := fun v e => by
    have := (List.getElem?_eq_some_iff.mp e).1
    simpa [Str.length] using this
  rcases StrLaws.find3_spec x c i with ⟨e, h⟩ | ⟨k, e, h1, h2, h3, h4⟩
  · rw [fi] at h
    rcases fnd_spec c x.cps.toList i with ⟨e', _⟩ | ⟨j, _, hj, h', _⟩
    · rw [e, e']
    · exact absurd ((gi j (lt j h')).mpr h') (h j hj (lt j h'))
  · rw [fi] at h1 h4
    rcases fnd_spec c x.cps.toList i with ⟨_, h'⟩ | ⟨j, e', hj, h', hn⟩
    · exact absurd ((gi k h2).mp h3) (h' k h1)
    · rw [e, e']
      rcases Nat.lt_trichotomy k j with q | q | q
      · exact absurd ((gi k h2).mp h3) (hn k h1 q)
      · rw [q]
      · exact absurd ((gi j (lt j h')).mpr h') (h4 j hj q)
/-! split and join -/
theorem spl_ne (c : Nat) : ∀ l, spl c l ≠ []
  | [] => by simp [spl]
  | a :: l => by
    unfold spl
    split
    · simp
    · split <;> simp
theorem spl_free {c : Nat} : ∀ {p : List Nat}, c ∉ p → spl c p = [p]
  | [], _ => rfl
  | a :: p, h => by
    have h1 : a ≠ c := fun q => h (by simp [q])
    have h2 : c ∉ p := fun q => h (by simp [q])
    unfold spl
    rw [if_neg h1, spl_free h2]
theorem spl_cons {c : Nat} {r : List Nat} : ∀ {p : List Nat}, c ∉ p → spl c (p ++ c :: r) = p :: spl c r
  | [], _ => by simp [spl]
  | a :: p, h => by
    have h1 : a ≠ c := fun q => h (by simp [q])
    have h2 : c ∉ p := fun q => h (by simp [q])
    rw [List.cons_append, spl, if_neg h1, spl_cons h2]
theorem spl_jn {c : Nat} : ∀ {ps : List (List Nat)}, ps ≠ [] → (∀ p ∈ ps, c ∉ p) → spl c (jn [c] ps) = ps
  | [], h, _ => absurd rfl h
  | [p], _, h => by rw [jn]; exact spl_free (h p (by simp))
  | p :: q :: r, _, h => by
    have : jn [c] (p :: q :: r) = p ++ c :: jn [c] (q :: r) := by simp [jn]
    rw [this, spl_cons (h p (by simp)), spl_jn (by simp) fun x hx => h x (by simp [hx])]
theorem jn_spl (c : Nat) : ∀ l, jn [c] (spl c l) = l
  | [] => rfl
  | a :: l => by
    have ih := jn_spl c l
    unfold spl
    by_cases h : a = c
    · rw [if_pos h]
      cases q : spl c l with
      | nil => exact absurd q (spl_ne c l)
      | cons x r => rw [q] at ih; subst h; simp [jn, ih]
    · rw [if_neg h]
      cases q : spl c l with
      | nil => exact absurd q (spl_ne c l)
      | cons x r =>
        rw [q] at ih
        cases r with
        | nil => simpa [jn] using ih
        | cons y r => simpa [jn] using ih
theorem strJoin_jn (sep : Str) : ∀ ps : List Str, (Str.join sep ps).cps.toList = jn sep.cps.toList (ps.map (·.cps.toList))
  | [] => rfl
  | [x] => rfl
  | x :: y :: r => by
    have ih := strJoin_jn sep (y :: r)
    show ((x ++ sep ++ Str.join sep (y :: r)) : Str).cps.toList = _
    simp only [Str.cps_append, Array.toList_append, ih, List.map_cons, jn]
theorem split_eq (x : Str) (c : Nat) : (Txt.split x ⟨#[c]⟩).map (·.cps.toList) = spl c x.cps.toList := by
  have h1 := strJoin_jn ⟨#[c]⟩ (Txt.split x ⟨#[c]⟩)
  rw [StrLaws.join_split] at h1
  rw [h1]
  refine (spl_jn ?_ ?_).symm
  · have := split_pos x ⟨#[c]⟩
    intro q
    rw [List.map_eq_nil_iff] at q
    rw [q] at this; simp at this
  · intro p hp
    obtain ⟨y, hy, rfl⟩ := List.mem_map.mp hp
    exact StrLaws.split_free x c y hy
theorem rep_append (c : Nat) (r a b : List Nat) : rep c r (a ++ b) = rep c r a ++ rep c r b := by simp [rep]
theorem rep_free {c : Nat} {r : List Nat} : ∀ {p : List Nat}, c ∉ p → rep c r p = p
  | [], _ => rfl
  | a :: p, h => by
    have h1 : a ≠ c := fun q => h (by simp [q])
    have h2 : c ∉ p := fun q => h (by simp [q])
    have := rep_free (r := r) h2
    simp only [rep, List.flatMap_cons, if_neg h1] at this ⊢
    rw [this]; rfl
theorem jn_rep {c : Nat} {r : List Nat} : ∀ {ps : List (List Nat)}, (∀ p ∈ ps, c ∉ p) → rep c r (jn [c] ps) = jn r ps
  | [], _ => rfl
  | [p], h => by rw [jn, jn]; exact rep_free (h p (by simp))
  | p :: q :: t, h => by
    have e1 : jn [c] (p :: q :: t) = p ++ [c] ++ jn [c] (q :: t) := rfl
    have e2 : jn r (p :: q :: t) = p ++ r ++ jn r (q :: t) := rfl
    rw [e1, e2, rep_append, rep_append, jn_rep fun x hx => h x (by simp [hx]), rep_free (h p (by simp))]
    simp [rep]
theorem replace_eq (x z : Str) (c : Nat) : (Txt.replace x ⟨#[c]⟩ z).cps.toList = rep c z.cps.toList x.cps.toList := by
  rw [StrLaws.replace_one, strJoin_jn, split_eq]
  conv => rhs; rw [← jn_spl c x.cps.toList]
  refine (jn_rep fun p hp => ?_).symm
  rw [← split_eq] at hp
  obtain ⟨y, hy, rfl⟩ := List.mem_map.mp hp
  exact StrLaws.split_free x c y hy
theorem starts_eq (x : Str) (c : Nat) : Txt.startswith x ⟨#[c]⟩ = (x.cps.toList.head? == some c) := by
  unfold Txt.startswith
  rw [StrLaws.subAt_eq]
  obtain ⟨⟨l⟩⟩ := x
  cases l with
  | nil => rfl
  | cons a l =>
    show (decide (0 + 1 ≤ l.length + 1) && ((a :: l).take 1 == [c])) = _
    simp
theorem getLast?_drop {l : List Nat} (h : l ≠ []) : l.drop (l.length - 1) = [l.getLast h] := by
  rw [List.drop_eq_getElem_cons (by have := List.length_pos_iff.mpr h; (first | lia | omega)), List.getLast_eq_getElem]
  have : l.drop (l.length - 1 + 1) = [] := List.drop_eq_nil_of_le (by (first | lia | omega))
  rw [this]
theorem ends_eq (x : Str) (c : Nat) : Txt.endswith x ⟨#[c]⟩ = (x.cps.toList.getLast? == some c) := by
  unfold Txt.endswith
  rw [StrLaws.subAt_eq]
  obtain ⟨⟨l⟩⟩ := x
  by_cases h : l = []
  · subst h; rfl
  · have e : ((l.drop (l.length - 1)).take 1) = [l.getLast h] := by rw [getLast?_drop h]; rfl
    show (decide (0 + 1 ≤ l.length) && ((l.drop (l.length - 1)).take 1 == [c])) = _
    rw [e, List.getLast?_eq_some_getLast h]
    have : 1 ≤ l.length := List.length_pos_iff.mpr h
    simp [this]
end Mine
end

section
open PySem PySem.W PySem.Calls PyProof.Rows PySem.Builtin.Str
namespace Mine
set_option linter.unusedVariables false

theorem rst_eq (c : Nat) (l : List Nat) : rst c l = l.take (l.length - (l.reverse.takeWhile (· == c)).length) := by
  unfold rst
  have h : l.reverse = l.reverse.takeWhile (· == c) ++ l.reverse.dropWhile (· == c) := List.takeWhile_append_dropWhile.symm
  have h2 : l = (l.reverse.dropWhile (· == c)).reverse ++ (l.reverse.takeWhile (· == c)).reverse := by
    have := congrArg List.reverse h
    rwa [List.reverse_append, List.reverse_reverse] at this
  conv => rhs; arg 2; rw [h2]
  have h3 : l.length - (l.reverse.takeWhile (· == c)).length = (l.reverse.dropWhile (· == c)).reverse.length := by
    have := congrArg List.length h2
    simp only [List.length_append, List.length_reverse] at this ⊢; (first | lia | omega)
  rw [h3, List.take_left]
theorem rstrip_eq (x : Str) (c : Nat) : (Txt.rstripChars x ⟨#[c]⟩).cps.toList = rst c x.cps.toList := by
  have hg : (⟨#[c]⟩ : Str).cps.contains = fun a => a == c := by
    funext a
    simp [Array.contains]
  have hn : x.cps.toList.length = x.length := by simp [Str.length]
  have e : stripHi (fun a => a == c) true x 0 = x.cps.toList.length - (x.cps.toList.reverse.takeWhile (· == c)).length := by
    simp only [stripHi, if_true, List.drop_zero, hn]
  unfold Txt.rstripChars Txt.stripBy
  rw [hg, rst_eq]
  split
  · rename_i h
    simp only [stripSame, stripLo, Bool.false_eq_true, if_false, Bool.and_eq_true, beq_iff_eq] at h
    rw [e] at h
    rw [h.2, ← hn, List.take_length]
  · unfold PySem.stripped
    rw [StrLaws.strSub_toList]
    have e0 : stripLo (fun a => a == c) false x = 0 := rfl
    rw [e0, e, List.drop_zero, Nat.sub_zero]

section
variable {C : Cx}
theorem str_len (x : Str) : x.length = x.cps.toList.length := by simp [Str.length]
theorem fits {n : Nat} (h : n ≤ 16777216) : n ≤ sizeLine := by rw [sizeLine_eq]; exact h

theorem Bin.addStr {a b : List Nat} (h : a.length + b.length ≤ 16777216) : Bin C .Add (.str a) (.str b) (.str (a ++ b)) := by
  intro z v u r1 r2 s h0 hb hz
  cases r1 using Rep.strE with
  | str x t =>
    cases r2 using Rep.strE with
    | str y u =>
      refine P.add_str ?_
      have e : (x ++ y).cps.toList = x.cps.toList ++ y.cps.toList := by simp [Str.cps_append]
      split
      · rename_i h1
        have : x.cps.toList = [] := List.length_eq_zero_iff.mp (by rw [← str_len]; simpa using h1)
        refine PostOp.now hz ?_
        rw [this, List.nil_append]; exact .str _ _
      · split
        · rename_i h1
          have : y.cps.toList = [] := List.length_eq_zero_iff.mp (by rw [← str_len]; simpa using h1)
          refine PostOp.now hz ?_
          rw [this, List.append_nil]; exact .str _ _
        · refine ⟨fits (by rw [str_len, e, List.length_append]; exact h), PostOp.tok hz ?_⟩
          rw [← e]; exact .str _ _
theorem Inp.addStr {a b : List Nat} (h : a.length + b.length ≤ 16777216) : Inp C .Add (.str a) (.str b) (.str (a ++ b)) := by
  intro z v u r1 r2 s h0 hb hz
  cases r1 using Rep.strE with
  | str x t =>
    cases r2 using Rep.strE with
    | str y u =>
      refine P.iadd_str ?_
      have e : (x ++ y).cps.toList = x.cps.toList ++ y.cps.toList := by simp [Str.cps_append]
      split
      · rename_i h1
        have : x.cps.toList = [] := List.length_eq_zero_iff.mp (by rw [← str_len]; simpa using h1)
        refine PostOp.now hz ?_
        rw [this, List.nil_append]; exact .str _ _
      · split
        · rename_i h1
          have : y.cps.toList = [] := List.length_eq_zero_iff.mp (by rw [← str_len]; simpa using h1)
          refine PostOp.now hz ?_
          rw [this, List.append_nil]; exact .str _ _
        · refine ⟨fits (by rw [str_len, e, List.length_append]; exact h), PostOp.tok hz ?_⟩
          rw [← e]; exact .str _ _
theorem Bin.addInt {a b : Int} : Bin C .Add (.int a) (.int b) (.int (a + b)) := by
  intro z v u r1 r2 s h0 hb hz
  cases r1; cases r2
  exact P.add_int (PostOp.tok hz (.int _ _))
theorem Inp.addInt {a b : Int} : Inp C .Add (.int a) (.int b) (.int (a + b)) := by
  intro z v u r1 r2 s h0 hb hz
  cases r1; cases r2
  exact P.iadd_int (PostOp.tok hz (.int _ _))
theorem Bin.subInt {a b : Int} : Bin C .Sub (.int a) (.int b) (.int (a - b)) := by
  intro z v u r1 r2 s h0 hb hz
  cases r1; cases r2
  exact P.sub_int (PostOp.tok hz (.int _ _))
theorem Bin.modInt {a b : Int} (h : 0 < b) : Bin C .Mod (.int a) (.int b) (.int (a % b)) := by
  intro z v u r1 r2 s h0 hb hz
  cases r1; cases r2
  refine mod_int' (by (first | lia | omega)) (PostOp.tok hz ?_)
  rw [Int.fmod_eq_emod_of_nonneg a (by (first | lia | omega))]; exact .int _ _
theorem Bin.divInt {a b : Int} (h : 0 < b) (hs : 0 ≤ a ∧ a < 2 ^ 29) (hs2 : b < 2 ^ 29) : Bin C .FloorDiv (.int a) (.int b) (.int (a / b)) := by
  intro z v u r1 r2 s h0 hb hz
  cases r1; cases r2
  refine floordiv_int (by (first | lia | omega)) (PostOp.tok hz ?_) (Or.inl (PyProof.noPylong_small (by (first | lia | omega))))
  rw [Int.fdiv_eq_ediv_of_nonneg a (by (first | lia | omega))]; exact .int _ _
theorem Bin.powInt : Bin C .Pow (.int 10) (.int 6) (.int 1000000) := by
  intro z v u r1 r2 s h0 hb hz
  cases r1; cases r2
  exact pow_int (by decide) (by decide +kernel) (PostOp.tok hz (.int _ _))
theorem Bin.addList {a b : List D} (h : a.length + b.length ≤ 16777216) : Bin C .Add (.list a) (.list b) (.list (a ++ b)) := by
  intro z v u r1 r2 s h0 hb hz
  cases r1 using Rep.listE with
  | @list l vs n _ hl rl =>
    cases r2 using Rep.listE with
    | @list m ws k _ hm rm =>
      have ho := hz _ _ hl
      have ho2 := hz _ _ hm
      have e : vs.toArray ++ ws.toArray = (vs ++ ws).toArray := by simp
      refine concat_meets ⟨_, ho, rfl⟩ ⟨_, ho2, rfl⟩ noFill_list_add seq_list_add PySem.F.slot_list_add PySem.F.entry_list_add (PySem.F.args_list_add_2 _ _) (list_addW l m vs.toArray ws.toArray n k none none #[] #[] (by rw [List.size_toArray, List.size_toArray, rl.length, rm.length]; exact fits h)) ⟨ho, ho2, ?_⟩
      rw [e]
      exact PostOp.push hz rfl (.list (n := 0) (PH.add_at _ _ _) ((rl.append rm).mono (PH.le_add (inH_none hz (get_size _)))))

theorem Cmp.eqStr {a b : List Nat} : Cmp C .Eq (.str a) (.str b) (a == b) := by
  intro z v u r1 r2 s h0 hb hz
  cases r1; cases r2
  exact P.eq_str (PostOp.now hz rfl)
theorem Cmp.neStr {a b : List Nat} : Cmp C .NotEq (.str a) (.str b) (a != b) := by
  intro z v u r1 r2 s h0 hb hz
  cases r1; cases r2
  exact P.ne_str (PostOp.now hz rfl)
theorem Cmp.eqInt {a b : Int} : Cmp C .Eq (.int a) (.int b) (a == b) := by
  intro z v u r1 r2 s h0 hb hz
  cases r1; cases r2
  exact P.eq_int (PostOp.now hz rfl)
theorem Cmp.ltInt {a b : Int} : Cmp C .Lt (.int a) (.int b) (decide (a < b)) := by
  intro z v u r1 r2 s h0 hb hz
  cases r1; cases r2
  exact P.lt_int (PostOp.now hz rfl)
theorem Cmp.gtInt {a b : Int} : Cmp C .Gt (.int a) (.int b) (decide (a > b)) := by
  intro z v u r1 r2 s h0 hb hz
  cases r1; cases r2
  exact P.gt_int (PostOp.now hz rfl)
theorem Cmp.geInt {a b : Int} : Cmp C .GtE (.int a) (.int b) (decide (a ≥ b)) := by
  intro z v u r1 r2 s h0 hb hz
  cases r1; cases r2
  exact P.ge_int (PostOp.now hz rfl)
theorem Cmp.inStr {c : Nat} {b : List Nat} : Cmp C .In (.str [c]) (.str b) (decide (c ∈ b)) := by
  intro z v u r1 r2 s h0 hb hz
  generalize he : [c] = e at r1
  cases r1 using Rep.strE with
  | str y t =>
    cases r2 using Rep.strE with
    | str x u =>
      have := one_cps he.symm
      subst this
      refine P.in_str (PostOp.now hz ?_)
      rw [StrLaws.found_one]
theorem Cmp.notInStr {c : Nat} {b : List Nat} : Cmp C .NotIn (.str [c]) (.str b) (!decide (c ∈ b)) := by
  intro z v u r1 r2 s h0 hb hz
  generalize he : [c] = e at r1
  cases r1 using Rep.strE with
  | str y t =>
    cases r2 using Rep.strE with
    | str x u =>
      have := one_cps he.symm
      subst this
      refine P.notIn_str (PostOp.now hz ?_)
      rw [StrLaws.found_one]

theorem Tru.str {a : List Nat} (h : a.length ≤ 16777216) : Tru C (.str a) (!a.isEmpty) := by
  intro z v r s h0 hb hz
  cases r using Rep.strE with
  | str x t =>
    refine P.truthy_str (by rw [str_len]; (first | lia | omega)) (PostOp.tok hz ?_)
    rw [str_len]
    cases x.cps.toList <;> simp <;> (first | lia | omega)
theorem Tru.bool {b : Bool} : Tru C (.bool b) b := by
  intro z v r s h0 hb hz
  cases r
  exact wpAny_truthy_bool (PostOp.now hz rfl)
theorem Tru.none : Tru C .none false := by
  intro z v r s h0 hb hz
  cases r
  exact truthy_none (PostOp.now hz rfl)
theorem Tru.list {a : List D} (h : a.length ≤ 16777216) : Tru C (.list a) (!a.isEmpty) := by
  intro z v r s h0 hb hz
  cases r using Rep.listE with
  | @list l vs n _ hl rl =>
    refine wpAny_truthy_list ⟨_, hz _ _ hl, rfl, n, rfl⟩ (by rw [List.size_toArray, rl.length]; (first | lia | omega)) (PostOp.tok hz ?_)
    have := rl.length
    cases vs <;> cases a <;> simp at this ⊢

theorem Itm.str {x : List Nat} {k : Int} {j c : Nat} (hj : seqIndex? k x.length = some j) (hc : x[j]? = some c) (hk : -(2 ^ 62) < k ∧ k < 2 ^ 62) : Itm C (.str x) (.int k) (.str [c]) := by
  intro z o i value slice r1 r2
  cases r1 using Rep.strE with
  | str x t =>
    cases r2 using Rep.intE with
    | int _ u =>
      refine Op.subTail (T := "str") (fun s _ => typeIs_str s x t) F.slot_str_getitem.lookup fun s h0 hb hz => ?_
      refine P.getItem_str (c := c) ?_ ?_ (PostOp.tok hz (Rep.str ⟨#[c]⟩ _))
      · simp; (first | lia | omega)
      · rw [str_len, hj]; simpa using hc
theorem Itm.listLast {ds : List D} {d : D} (hd : ds.getLast? = some d) : Itm C (.list ds) (.int (-1)) d := by
  intro z o i value slice r1 r2
  cases r1 using Rep.listE with
  | @list b vs n _ hb hr =>
    cases r2 using Rep.intE with
    | int _ t =>
      have hT : ∀ s : Shared, z.inH s.heap → s.heap.IsList b vs.toArray := fun s hz => ⟨_, hz _ _ hb, rfl, n, rfl⟩
      refine Op.subTail (T := "list") (fun s hz => (hT s hz).typeIs) slot_list_getitem.lookup fun s _ hbz hz => ?_
      rw [List.getLast?_eq_getElem?] at hd
      obtain ⟨v, hv, rv⟩ := hr.get hd
      have hpos : 0 < ds.length := by
        have := (List.getElem?_eq_some_iff.mp hd).1; (first | lia | omega)
      refine wpAny_getItem_list_neg (x := v) (hT s hz) (by decide) (by rw [List.size_toArray, hr.length]; (first | lia | omega)) (by decide) ?_ (.now hz rv)
      rw [List.size_toArray, hr.length, show (-1 + (ds.length : Int)).toNat = ds.length - 1 from by (first | lia | omega)]
      simpa using hv
theorem CallV.lenStr {x : List Nat} (h : x.length ≤ 16777216) : CallV C (.builtin "len") [.str x] (.int x.length) := ⟨fun z h _ _ => keeper_builtin h, fun z vs r s h0 hb hz => by
  cases r using RepAll.consE with
  | cons r rs =>
    cases rs
    cases r using Rep.strE with
    | str x t => exact P.len_str (by rw [str_len]; (first | lia | omega)) (PostOp.tok hz (by rw [str_len]; exact .int _ _))⟩
theorem CallV.lenList {ds : List D} (h : ds.length ≤ 16777216) : CallV C (.builtin "len") [.list ds] (.int ds.length) := ⟨fun z h _ _ => keeper_builtin h, fun z vs r s h0 hb hz => by
  cases r using RepAll.consE with
  | cons r rs =>
    cases rs
    cases r using Rep.listE with
    | @list a vs n _ ha hr => exact len_list ⟨_, hz _ _ ha, rfl, n, rfl⟩ (by rw [List.size_toArray, hr.length]; (first | lia | omega)) (PostOp.tok hz (by rw [List.size_toArray, hr.length]; exact .int _ _))⟩
theorem Ev.neg {ρ : Loc} {cs : Own} {x : Expr} {p : Pos} {i : Int} (h : Ev C ρ cs x (.int i)) : Ev C ρ cs (.UnaryOp .USub x p) (.int (-i)) := by
  intro z
  show Tr C ρ cs z (do let v ← eval x C.env; standAt p; holding [v] (unaryOp .USub v)) _
  refine Tr.bind (h z) fun z1 v l1 r1 => Tr.standThen (Tr.hold ?_)
  cases r1
  exact Tr.op fun s h0 hb hz => P.neg_int (PostOp.tok hz (.int _ _))

/-! methods of texts -/
theorem MethV.of {name : Str} {id : String} {x : List Nat} {ds : List D} {d : D} (hm : ∀ (y : Str) (t : Tok) (A : Around) (E : Value → Shared → Prop) (s : Shared) (pl : Sem Bool) (Q : Value × List Value → Shared → Prop), Q (.builtin id, [.str y t]) s → wpAny C.M A (getMethod (.str y t) name pl) Q E s)
    (hc : ∀ (y : Str) (t : Tok) z vs, y.cps.toList = x → RepAll C.P z vs ds → Op C z (call (.builtin id) (.str y t :: vs)) fun z' r => Rep C.P z' r d) : MethV C name (.str x) ds d := ⟨fun z v r => by
  cases r using Rep.strE with
  | str y t =>
    refine ⟨.builtin id, fun h => keeper_builtin h, ?_, ?_⟩
    · intro z' pl l s h0 hb hz
      have q : PostOp z' s (fun _ (r : Value × List Value) => r = (Value.builtin id, [Value.str y t])) (Value.builtin id, [Value.str y t]) s := PostOp.now hz rfl
      exact @hm y t C.A (fun _ _ => False) s pl _ q
    · intro z' vs l r
      exact hc y t z' vs rfl r⟩
theorem MethV.starts {x : List Nat} {c : Nat} : MethV C "startswith" (.str x) [.str [c]] (.bool (x.head? == some c)) := .of (id := "str.startswith") (fun y t A E s pl Q h => by with_reducible exact GM.startswith h) fun y t z vs e r s h0 hb hz => by
  cases r using RepAll.consE with
  | cons r rs =>
    cases rs
    generalize he : [c] = k at r
    cases r using Rep.strE with
    | str w u =>
      have := one_cps he.symm
      subst this; subst e
      refine SC.startswith (PostOp.now hz ?_)
      rw [starts_eq]; exact .val _
theorem MethV.ends {x : List Nat} {c : Nat} : MethV C "endswith" (.str x) [.str [c]] (.bool (x.getLast? == some c)) := .of (id := "str.endswith") (fun y t A E s pl Q h => by with_reducible exact GM.endswith h) fun y t z vs e r s h0 hb hz => by
  cases r using RepAll.consE with
  | cons r rs =>
    cases rs
    generalize he : [c] = k at r
    cases r using Rep.strE with
    | str w u =>
      have := one_cps he.symm
      subst this; subst e
      refine SC.endswith (PostOp.now hz ?_)
      rw [ends_eq]; exact .val _
theorem MethV.rfind {x : List Nat} {c : Nat} : MethV C "rfind" (.str x) [.str [c]] (.int (rfnd c x)) := .of (id := "str.rfind") (fun y t A E s pl Q h => by with_reducible exact GM.rfind h) fun y t z vs e r s h0 hb hz => by
  cases r using RepAll.consE with
  | cons r rs =>
    cases rs
    generalize he : [c] = k at r
    cases r using Rep.strE with
    | str w u =>
      have := one_cps he.symm
      subst this; subst e
      refine SC.rfind (PostOp.tok hz ?_)
      rw [rfind_eq]; exact .int _ _
theorem MethV.find3 {x : List Nat} {c : Nat} {i : Nat} (hi : i ≤ x.length) : MethV C "find" (.str x) [.str [c], .int i] (.int (fndFrom c x i)) := .of (id := "str.find") (fun y t A E s pl Q h => by with_reducible exact GM.find h) fun y t z vs e r s h0 hb hz => by
  cases r using RepAll.consE with
  | cons r rs =>
    cases rs using RepAll.consE with
    | cons r2 rs =>
      cases rs
      generalize he : [c] = k at r
      cases r using Rep.strE with
      | str w u =>
        cases r2 using Rep.intE with
        | int _ v =>
          have := one_cps he.symm
          subst this; subst e
          refine SC.find3 (PostOp.tok hz ?_)
          rw [find3_eq _ _ _ (by rw [str_len]; exact hi)]; exact .int _ _
theorem MethV.rstrip {x : List Nat} {c : Nat} (hsz : x.length ≤ 16777216) : MethV C "rstrip" (.str x) [.str [c]] (.str (rst c x)) := .of (id := "str.rstrip") (fun y t A E s pl Q h => by with_reducible exact GM.rstrip h) fun y t z vs e r s h0 hb hz => by
  cases r using RepAll.consE with
  | cons r rs =>
    cases rs
    generalize he : [c] = k at r
    cases r using Rep.strE with
    | str w u =>
      have := one_cps he.symm
      subst this; subst e
      refine SC.rstripChars (fun t' k => PostOp.tok hz ?_) (fits (by rw [str_len]; exact hsz))
      rw [← rstrip_eq]; exact .str _ _
theorem RepAll.ofStrs {P : Params} {z : PH} : ∀ (l : List (Str × Tok)), RepAll P z (strValues l) (l.map fun p => D.str p.1.cps.toList)
  | [] => .nil
  | (x, t) :: l => .cons (.str x t) (RepAll.ofStrs l)
end
end Mine
end

section
open PySem PySem.W PySem.Calls PyProof.Rows PySem.Builtin.Str
set_option maxRecDepth 100000
namespace Mine
set_option linter.unusedVariables false
section
variable {C : Cx}
theorem CallV.typeStr {x : List Nat} : CallV C (.type "type") [.str x] (.val (.type "str")) := ⟨fun z h _ _ => keeper_type h, fun z vs r s h0 hb hz => by
  cases r using RepAll.consE with
  | cons r rs =>
    cases rs
    cases r using Rep.strE with
    | str x t => exact call_type_of (Tx := "str") (typeIs_str s x t) (by decide +kernel) (PostOp.now hz (.val _))⟩
theorem CallV.isBytes {x : List Nat} : CallV C (.builtin "isinstance") [.str x, .val (.type "bytes")] (.bool false) := ⟨fun z h _ _ => keeper_builtin h, fun z vs r s h0 hb hz => by
  cases r using RepAll.consE with
  | cons r rs =>
    cases rs using RepAll.consE with
    | cons r2 rs =>
      cases rs
      cases r using Rep.strE with
      | str x t =>
        cases r2
        exact call_isinstance (isinstance_false_str (by decide +kernel) (by kernel_rfl) (by rw [isSubtype_type]; kernel_rfl)) (PostOp.tok hz (.val _))⟩
theorem CallV.isStr {x : List Nat} : CallV C (.builtin "isinstance") [.str x, .val (.type "str")] (.bool true) := ⟨fun z h _ _ => keeper_builtin h, fun z vs r s h0 hb hz => by
  cases r using RepAll.consE with
  | cons r rs =>
    cases rs using RepAll.consE with
    | cons r2 rs =>
      cases rs
      cases r using Rep.strE with
      | str x t =>
        cases r2
        exact call_isinstance (isinstance_true (Tx := "str") (by kernel_rfl) (by rw [isSubtype_type]; kernel_rfl)) ⟨typeIs_str s x t, PostOp.now hz (.val _)⟩⟩
theorem sub_str : isSubtype (.type "str") (.type "str") = pure true := by rw [isSubtype_type]; kernel_rfl
theorem sub_tup : isSubtype (.type "tuple") (.type "tuple") = pure true := by rw [isSubtype_type]; kernel_rfl
theorem nested_str {prog : Program} {w : World} {A : Around} {E : Value → Shared → Prop} {s : Shared} {dep : Int} {tk : Tok} {Q : Fin → Shared → Prop} (hq : Q (.done (.ret (.bool true))) s) : wpAny (model prog w) A (Builtin.«issubclass.nested» ⟨[.type "str", .type "str", .int dep tk], []⟩) Q E s := by
  have h1 : (Value.type "str" == Value.type "str") = true := by decide +kernel
  repeat (any_goals (first | assumption | wp_step))
  exact wpAny_of_eq sub_str (wpAny_pure hq)
theorem nested_tup {prog : Program} {w : World} {A : Around} {E : Value → Shared → Prop} {s : Shared} {a : Addr} {n : Nat} {Q : Fin → Shared → Prop} (ha : s.heap.get? a = some { cls := .type "tuple", data := .seq #[.type "str", .type "bytes"] n }) (hq : ∀ tk, Q (.done (.ret (.bool true))) { s with toks := tk }) : wpAny (model prog w) A (Builtin.«issubclass.nested» ⟨[.type "str", .ref a, rawInt 0], []⟩) Q E s := by
  repeat (any_goals (first | assumption | wp_step))
  refine wpAny_of_eq sub_tup ?_
  iterate 5 (any_goals (first | assumption | wp_step))
  refine wpAny_load ha (wpAny_pure (wpAny_bind ?_))
  rw [Option.getD_some, ← Array.forIn_toList]
  show wpAny _ _ (forIn [Value.type "str", Value.type "bytes"] _ _) _ _ _
  rw [List.forIn_cons]
  refine wpAny_bind (wpAny_bind (call_function_meets (by decide +kernel) (by decide +kernel) F.entry_issubclass_nested (by unfold argsOk; kernel_rfl) (S := fun _ R s => ∀ tk, R (.ok (.ret (.bool true))) { s with toks := tk }) (fun _ _ _ _ s hs => nested_str (hs s.toks)) fun tk => ?_))
  show wpAny _ _ (truthy (.bool true) >>= _) _ _ _
  refine wpAny_bind (wpAny_pure ?_)
  exact wpAny_pure (wpAny_pure (wpAny_pure (hq tk)))
theorem CallV.subStr : CallV C (.builtin "issubclass") [.val (.type "str"), .tup [.val (.type "str"), .val (.type "bytes")]] (.bool true) := ⟨fun z h _ _ => keeper_builtin h, fun z vs r s h0 hb hz => by
  cases r using RepAll.consE with
  | cons r rs =>
    cases rs using RepAll.consE with
    | cons r2 rs =>
      cases rs
      cases r
      cases r2 using Rep.tupE with
      | @tup a ws n _ ha hr =>
        cases hr using RepAll.consE with
        | cons h1 hr =>
          cases hr using RepAll.consE with
          | cons h2 hr =>
            cases hr; cases h1; cases h2
            refine call_issubclass (S := fun _ R s => s.heap.get? a = some { cls := .type "tuple", data := .seq #[.type "str", .type "bytes"] n } ∧ ∀ tk, R (.ok (.ret (.bool true))) { s with toks := tk }) (fun _ _ _ _ s hs => issubclass_outer (nested_tup hs.1 hs.2)) ⟨hz _ _ ha, fun tk => PostOp.tok hz (.val _)⟩⟩

/-! defs by their text -/
abbrev FD := Arguments × List Stmt × Scope
def HasDef (B : Heap) (mg : Str → Option Value) (x : Str) (d : FD) : Prop := ∃ f, mg x = some (.ref f) ∧ ∃ o pm cd doc, B.get? f = some o ∧ o.data = .func (docDef x d.1 d.2.1 d.2.2 pm cd doc) ∧ B.CodeRec cd x
def Plain (d : FD) (k : Nat) : Prop := d.1.args.length = k ∧ (∀ x pm cd doc vs, vs.length = k → bindArgs (docDef x d.1 d.2.1 d.2.2 pm cd doc) ⟨vs, []⟩ = pure ((d.1.args.map (·.arg)).zip vs)) ∧
  ((d.1.args.map (·.arg)).all fun x => decide (d.2.2.names.lookup x = some .local)) = true ∧ d.2.2.isCoroutine = false ∧ d.2.2.isGenerator = false ∧ d.2.2.kind = .function ∧ ((d.2.2.names.all fun x => decide (x.2 ≠ .cell)) = true)
theorem len2 {α : Type} : ∀ {l : List α}, l.length = 2 → ∃ a b, l = [a, b]
  | [a, b], _ => ⟨a, b, rfl⟩
theorem len3 {α : Type} : ∀ {l : List α}, l.length = 3 → ∃ a b c, l = [a, b, c]
  | [a, b, c], _ => ⟨a, b, c, rfl⟩
theorem Plain.k0 {d : FD} (h1 : d.1.args.length = 0) (h2 : ∀ x pm cd doc, bindArgs (docDef x d.1 d.2.1 d.2.2 pm cd doc) ⟨[], []⟩ = pure ((d.1.args.map (·.arg)).zip [])) (h3 : ((d.1.args.map (·.arg)).all fun x => decide (d.2.2.names.lookup x = some .local)) = true) (h4 : d.2.2.isCoroutine = false) (h5 : d.2.2.isGenerator = false) (h6 : d.2.2.kind = .function) (h7 : (d.2.2.names.all fun x => decide (x.2 ≠ .cell)) = true) : Plain d 0 :=
  ⟨h1, fun x pm cd doc vs h => by
    rw [List.length_eq_zero_iff.mp h]; exact h2 _ _ _ _, h3, h4, h5, h6, h7⟩
theorem Plain.k1 {d : FD} (h1 : d.1.args.length = 1) (h2 : ∀ x pm cd doc a, bindArgs (docDef x d.1 d.2.1 d.2.2 pm cd doc) ⟨[a], []⟩ = pure ((d.1.args.map (·.arg)).zip [a])) (h3 : ((d.1.args.map (·.arg)).all fun x => decide (d.2.2.names.lookup x = some .local)) = true) (h4 : d.2.2.isCoroutine = false) (h5 : d.2.2.isGenerator = false) (h6 : d.2.2.kind = .function) (h7 : (d.2.2.names.all fun x => decide (x.2 ≠ .cell)) = true) : Plain d 1 :=
  ⟨h1, fun x pm cd doc vs h => by
    obtain ⟨a, rfl⟩ := List.length_eq_one_iff.mp h; exact h2 _ _ _ _ _, h3, h4, h5, h6, h7⟩
theorem Plain.k2 {d : FD} (h1 : d.1.args.length = 2) (h2 : ∀ x pm cd doc a b, bindArgs (docDef x d.1 d.2.1 d.2.2 pm cd doc) ⟨[a, b], []⟩ = pure ((d.1.args.map (·.arg)).zip [a, b])) (h3 : ((d.1.args.map (·.arg)).all fun x => decide (d.2.2.names.lookup x = some .local)) = true) (h4 : d.2.2.isCoroutine = false) (h5 : d.2.2.isGenerator = false) (h6 : d.2.2.kind = .function) (h7 : (d.2.2.names.all fun x => decide (x.2 ≠ .cell)) = true) : Plain d 2 :=
  ⟨h1, fun x pm cd doc vs h => by
    obtain ⟨a, b, rfl⟩ := len2 h; exact h2 _ _ _ _ _ _, h3, h4, h5, h6, h7⟩
theorem Plain.k3 {d : FD} (h1 : d.1.args.length = 3) (h2 : ∀ x pm cd doc a b c, bindArgs (docDef x d.1 d.2.1 d.2.2 pm cd doc) ⟨[a, b, c], []⟩ = pure ((d.1.args.map (·.arg)).zip [a, b, c])) (h3 : ((d.1.args.map (·.arg)).all fun x => decide (d.2.2.names.lookup x = some .local)) = true) (h4 : d.2.2.isCoroutine = false) (h5 : d.2.2.isGenerator = false) (h6 : d.2.2.kind = .function) (h7 : (d.2.2.names.all fun x => decide (x.2 ≠ .cell)) = true) : Plain d 3 :=
  ⟨h1, fun x pm cd doc vs h => by
    obtain ⟨a, b, c, rfl⟩ := len3 h; exact h2 _ _ _ _ _ _ _, h3, h4, h5, h6, h7⟩
theorem Plain.k4 {d : FD} (h1 : d.1.args.length = 4) (h2 : ∀ x pm cd doc a b c e, bindArgs (docDef x d.1 d.2.1 d.2.2 pm cd doc) ⟨[a, b, c, e], []⟩ = pure ((d.1.args.map (·.arg)).zip [a, b, c, e])) (h3 : ((d.1.args.map (·.arg)).all fun x => decide (d.2.2.names.lookup x = some .local)) = true) (h4 : d.2.2.isCoroutine = false) (h5 : d.2.2.isGenerator = false) (h6 : d.2.2.kind = .function) (h7 : (d.2.2.names.all fun x => decide (x.2 ≠ .cell)) = true) : Plain d 4 :=
  ⟨h1, fun x pm cd doc vs h => by
    cases vs with
    | nil => cases h
    | cons a vs =>
      obtain ⟨b, c, e, rfl⟩ := len3 (Nat.succ.inj h)
      exact h2 _ _ _ _ _ _ _ _, h3, h4, h5, h6, h7⟩
theorem zip_all {β : Type} (p : Str → Bool) : ∀ (xs : List Str) (ys : List β), xs.all p = true → (xs.zip ys).all (fun x => p x.1) = true
  | [], _, _ => rfl
  | _ :: _, [], _ => rfl
  | x :: xs, y :: ys, h => by
    rw [List.all_cons, Bool.and_eq_true] at h
    rw [List.zip_cons_cons, List.all_cons, Bool.and_eq_true]
    exact ⟨h.1, zip_all p xs ys h.2⟩
theorem CallD.def (G : Gd C) {n : Nat} (R : Room C n) {x : Str} {d : FD} {k : Nat} {ds : List D} {r : D} (hf : HasDef C.B C.mg x d) (hp : Plain d k) (hk : ds.length = k)
    (h : ∀ L f cd, Ex (C.call x d.2.2 L f cd) (((d.1.args.map (·.arg)).zip ds).reverse) [] d.2.1 (Gives r)) : CallD C x ds r := by
  obtain ⟨f, hm, o, pm, cd, doc, ho, hd, hc⟩ := hf
  obtain ⟨p1, p2, p3, p4, p5, p6, p7⟩ := hp
  have F : Fn C x f d.1 d.2.1 d.2.2 := ⟨hm, o, pm, cd, doc, ho, hd, hc⟩
  refine ⟨.ref f, .inl hm, F.keeper, fun z vs r => ?_⟩
  refine Op.def G R F r (fun pm cd doc => p2 x pm cd doc vs (by rw [r.length]; exact hk)) (zip_all _ _ _ p3) (fun L cd => h L f cd) p4 p5 p6 ?_
  intro y hy
  have := List.all_eq_true.mp p7 y hy
  exact of_decide_eq_true this
end
end Mine
end

section
open PySem PySem.W PySem.Calls PyProof.Rows PySem.Builtin.Str PySem.SeqAt
set_option maxRecDepth 100000
namespace Mine
set_option linter.unusedVariables false

/-! comparing lists -/
/-- data that == may meet, n deep -/
inductive Eqq : Nat → D → Prop
  | int {n : Nat} (i : Int) : Eqq n (.int i)
  | str {n : Nat} (x : List Nat) : Eqq n (.str x)
  | list {n : Nat} {ds : List D} : (∀ d ∈ ds, Eqq n d) → Eqq (n + 1) (.list ds)
theorem str_ext {x y : Str} (h : x.cps.toList = y.cps.toList) : x = y := by
  obtain ⟨⟨l⟩⟩ := x; obtain ⟨⟨m⟩⟩ := y
  simp only at h; rw [h]
theorem str_beq_list (x y : Str) : (x == y) = (x.cps.toList == y.cps.toList) := by
  rw [Bool.eq_iff_iff, beq_iff_eq, beq_iff_eq]
  exact ⟨fun h => by rw [h], str_ext⟩
theorem eqAt_same {P : Params} {z : PH} {s : Shared} (hz : z.inH s.heap) : ∀ {n : Nat} {d : D} (q : Eqq n d) {A : Around} {a b : Value}, A.units + n < cLine → Rep P z a d → Rep P z b d → EqAt A s a b true := by
  intro n d q
  induction q with
  | int i =>
    intro A a b hu r1 r2
    cases r1 using Rep.intE with
    | int _ t =>
      cases r2 using Rep.intE with
      | int _ u =>
        have := EqAt.int_int (A := A) (s := s) i t i u
        rw [beq_self_eq_true] at this; exact this
  | str x =>
    intro A a b hu r1 r2
    generalize he : D.str x = dd at r1 r2
    cases r1 with
    | str y t =>
      injection he with he
      generalize hf : D.str y.cps.toList = ee at r2
      cases r2 with
      | str w u =>
        injection hf with hf
        have := EqAt.str_str (A := A) (s := s) y t w u
        rw [str_ext hf, beq_self_eq_true] at this
        rw [str_ext hf]; exact this
      | _ => cases hf
    | _ => cases he
  | @list n ds hd ih =>
    intro A a b hu r1 r2
    cases r1 using Rep.listE with
    | @list a vs k _ ha hr =>
      cases r2 using Rep.listE with
      | @list b ws k2 _ hb hs =>
        by_cases hab : a = b
        · subst hab; exact EqAt.same _
        refine EqAt.of_refs hab ?_
        have hl : s.heap.IsList a vs.toArray := ⟨_, hz _ _ ha, rfl, k, rfl⟩
        have hl2 : s.heap.IsList b ws.toArray := ⟨_, hz _ _ hb, rfl, k2, rfl⟩
        have := RcAt.lists (A := A) (e := fun _ => true) hl hl2 (by simp [hr.length, hs.length]) (by (first | lia | omega)) fun j h1 h2 => by
          have h1' : j < vs.length := by simpa using h1
          have hdj : j < ds.length := by rw [← hr.length]; exact h1'
          obtain ⟨v, e1, q1⟩ := hr.get (List.getElem?_eq_getElem hdj)
          obtain ⟨w, e2, q2⟩ := hs.get (List.getElem?_eq_getElem hdj)
          have e1' : vs.toArray[j] = v := by have := List.getElem?_eq_some_iff.mp e1; obtain ⟨_, e⟩ := this; simpa using e
          have e2' : ws.toArray[j] = w := by have := List.getElem?_eq_some_iff.mp e2; obtain ⟨_, e⟩ := this; simpa using e
          rw [e1', e2']
          exact ih _ (List.getElem_mem hdj) (A := A.in1) (by show A.units + 1 + n < cLine; (first | lia | omega)) q1 q2
        rw [show ((List.range vs.toArray.size).all fun _ => true) = true from by simp] at this
        exact this
section
variable {C : Cx} {ρ : Loc} {cs : Own}
theorem lists_same {z : PH} {s : Shared} (hz : z.inH s.heap) {n : Nat} {ds : List D} (q : ∀ d ∈ ds, Eqq n d) {A : Around} {vs ws : List Value} (hr : RepAll C.P z vs ds) (hs : RepAll C.P z ws ds) (hu : A.units + n < cLine) :
    ∀ j (h1 : j < vs.toArray.size) (h2 : j < ws.toArray.size), EqAt A s vs.toArray[j] ws.toArray[j] true := fun j h1 h2 => by
  have h1' : j < vs.length := by simpa using h1
  have hdj : j < ds.length := by rw [← hr.length]; exact h1'
  obtain ⟨v, e1, q1⟩ := hr.get (List.getElem?_eq_getElem hdj)
  obtain ⟨w, e2, q2⟩ := hs.get (List.getElem?_eq_getElem hdj)
  have e1' : vs.toArray[j] = v := by have := List.getElem?_eq_some_iff.mp e1; obtain ⟨_, e⟩ := this; simpa using e
  have e2' : ws.toArray[j] = w := by have := List.getElem?_eq_some_iff.mp e2; obtain ⟨_, e⟩ := this; simpa using e
  rw [e1', e2']
  exact eqAt_same hz (q _ (List.getElem_mem hdj)) hu q1 q2
theorem Cmp.eqSame {k : Nat} (R : Room C k) {n : Nat} {ds : List D} (q : ∀ d ∈ ds, Eqq n d) (hn : n ≤ 100) : Cmp C .Eq (.list ds) (.list ds) true := by
  intro z v u r1 r2 s h0 hb hz
  cases r1 using Rep.listE with
  | @list a vs k1 _ ha hr =>
    cases r2 using Rep.listE with
    | @list b ws k2 _ hb2 hs =>
      have hR : C.A.units + 1 + n < cLine := by obtain ⟨_, h⟩ := R; show _ < 9900; (first | lia | omega)
      refine eq_listAt (e := fun _ => true) ⟨_, hz _ _ ha, rfl, k1, rfl⟩ ⟨_, hz _ _ hb2, rfl, k2, rfl⟩ (by simp [hr.length, hs.length]) (by (first | lia | omega)) (lists_same hz q hr hs (by exact hR)) ?_
      exact PostOp.now hz (by simp)
theorem Cmp.neSame {k : Nat} (R : Room C k) {n : Nat} {ds : List D} (q : ∀ d ∈ ds, Eqq n d) (hn : n ≤ 100) : Cmp C .NotEq (.list ds) (.list ds) false := by
  intro z v u r1 r2 s h0 hb hz
  cases r1 using Rep.listE with
  | @list a vs k1 _ ha hr =>
    cases r2 using Rep.listE with
    | @list b ws k2 _ hb2 hs =>
      have hR : C.A.units + 1 + n < cLine := by obtain ⟨_, h⟩ := R; show _ < 9900; (first | lia | omega)
      refine (RcNeAt.lists (A := C.A) (e := fun _ => true) ⟨_, hz _ _ ha, rfl, k1, rfl⟩ ⟨_, hz _ _ hb2, rfl, k2, rfl⟩ (by simp [hr.length, hs.length]) (by (first | lia | omega)) (lists_same hz q hr hs (by exact hR))) C.prog C.w _ _ ?_
      exact PostOp.now hz (by simp)
theorem all_eq_beq : ∀ {xs ys : List (List Nat)}, xs.length = ys.length → ((List.range xs.length).all fun j => (xs[j]? == ys[j]?)) = (xs == ys) := by
  intro xs ys h
  rw [Bool.eq_iff_iff, List.all_eq_true, beq_iff_eq]
  constructor
  · intro q
    apply List.ext_getElem?
    intro j
    by_cases hj : j < xs.length
    · simpa using q j (List.mem_range.mpr hj)
    · rw [List.getElem?_eq_none (by (first | lia | omega)), List.getElem?_eq_none (by (first | lia | omega))]
  · rintro rfl j _; simp
theorem Cmp.eqStrs {k : Nat} (R : Room C k) {xs ys : List (List Nat)} : Cmp C .Eq (.list (xs.map .str)) (.list (ys.map .str)) (xs == ys) := by
  intro z v u r1 r2 s h0 hb hz
  cases r1 using Rep.listE with
  | @list a vs k1 _ ha hr =>
    cases r2 using Rep.listE with
    | @list b ws k2 _ hb2 hs =>
      have hR : C.A.units < cLine := by obtain ⟨_, h⟩ := R; show _ < 9900; (first | lia | omega)
      have n1 : vs.length = xs.length := by simpa using hr.length
      have n2 : ws.length = ys.length := by simpa using hs.length
      by_cases hl : xs.length = ys.length
      · refine eq_listAt (e := fun j => xs[j]? == ys[j]?) ⟨_, hz _ _ ha, rfl, k1, rfl⟩ ⟨_, hz _ _ hb2, rfl, k2, rfl⟩ (by simp [n1, n2, hl]) hR (fun j h1 h2 => ?_) (PostOp.now hz ?_)
        · obtain ⟨l1, rfl, e1⟩ := hr.strs
          obtain ⟨l2, rfl, e2⟩ := hs.strs
          have h1' : j < l1.length := by simpa [strValues] using h1
          have h2' : j < l2.length := by simpa [strValues] using h2
          have a1 : xs[j]? = some (l1[j].1.cps.toList) := by rw [← e1, List.getElem?_map, List.getElem?_eq_getElem h1']; rfl
          have a2 : ys[j]? = some (l2[j].1.cps.toList) := by rw [← e2, List.getElem?_map, List.getElem?_eq_getElem h2']; rfl
          have b1 : (strValues l1).toArray[j] = .str l1[j].1 l1[j].2 := by simp [strValues]
          have b2 : (strValues l2).toArray[j] = .str l2[j].1 l2[j].2 := by simp [strValues]
          rw [a1, a2, b1, b2, show (some (l1[j].1.cps.toList) == some (l2[j].1.cps.toList)) = (l1[j].1 == l2[j].1) from by rw [str_beq_list]; rfl]
          exact EqAt.str_str _ _ _ _
        · rw [List.size_toArray, n1, all_eq_beq hl]
      · refine eq_list_lengthsAt ⟨_, hz _ _ ha, rfl, k1, rfl⟩ ⟨_, hz _ _ hb2, rfl, k2, rfl⟩ (by simp [n1, n2]; exact hl) hR (PostOp.now hz ?_)
        rw [show (xs == ys) = false from beq_eq_false_iff_ne.mpr fun e => hl (by rw [e])]

/-! in a tuple -/
theorem Cmp.inInts {i : Int} {xs : List Int} : Cmp C .In (.int i) (.tup (xs.map .int)) (xs.any (· == i)) := by
  intro z v u r1 r2 s h0 hb hz
  cases r1 using Rep.intE with
  | int _ t =>
    cases r2 using Rep.tupE with
    | @tup a vs k _ ha hr =>
      have sh : ∀ {vs : List Value} {xs : List Int}, RepAll C.P z vs (xs.map D.int) → ∃ l : List (Int × Tok), vs = l.map (fun p => .int p.1 p.2) ∧ l.map (·.1) = xs := by
        intro vs xs h
        induction vs generalizing xs with
        | nil => cases xs with
          | nil => exact ⟨[], rfl, rfl⟩
          | cons => cases h
        | cons v vs ih =>
          cases xs with
          | nil => cases h
          | cons x xs =>
            cases h using RepAll.consE with
            | cons h r =>
              obtain ⟨l, rfl, e⟩ := ih r
              cases h using Rep.intE with
              | int _ t => exact ⟨(x, t) :: l, rfl, by rw [List.map_cons, e]⟩
      obtain ⟨l, rfl, rfl⟩ := sh hr
      refine in_tupleAt (items := (l.map fun p => Value.int p.1 p.2).toArray) (fun y => match y with | .int j _ => j == i | _ => false) ⟨_, hz _ _ ha, rfl, k, rfl⟩ (fun y hy => ?_) (PostOp.now hz ?_)
      · obtain ⟨p, _, rfl⟩ := List.mem_map.mp (List.mem_toArray.mp hy)
        exact EqAt.int_int _ _ _ _
      · simp [List.any_map, Function.comp_def]
theorem Cmp.inStrs {x : List Nat} {xs : List (List Nat)} : Cmp C .In (.str x) (.tup (xs.map .str)) (xs.any (· == x)) := by
  intro z v u r1 r2 s h0 hb hz
  cases r1 using Rep.strE with
  | str x t =>
    cases r2 using Rep.tupE with
    | @tup a vs k _ ha hr =>
      obtain ⟨l, rfl, rfl⟩ := hr.strs
      refine in_tupleAt (items := (strValues l).toArray) (fun y => match y with | .str j _ => j == x | _ => false) ⟨_, hz _ _ ha, rfl, k, rfl⟩ (fun y hy => ?_) (PostOp.now hz ?_)
      · obtain ⟨p, _, rfl⟩ := List.mem_map.mp (List.mem_toArray.mp hy)
        exact EqAt.str_str _ _ _ _
      · simp only [strValues, List.any_map, Function.comp_def, str_beq_list, List.any_toArray]

/-! is -/
/-- an object is itself, and is no text -/
theorem Cmp.isNotSelf {a : Addr} : Cmp C .IsNot (.val (.ref a)) (.val (.ref a)) false := by
  intro z v u r1 r2 s h0 hb hz
  cases r1; cases r2
  show Wp C (do return Value.bool (!(← isSame (.ref a) (.ref a)))) _ s
  refine wpAny_bind ?_
  show Wp C (if a == a then pure true else _) _ s
  rw [if_pos (by simp)]
  exact wpAny_pure (wpAny_pure (PostOp.now hz rfl))
theorem Cmp.isSelf {a : Addr} : Cmp C .Is (.val (.ref a)) (.val (.ref a)) true := by
  intro z v u r1 r2 s h0 hb hz
  cases r1; cases r2
  show Wp C (do return Value.bool (← isSame (.ref a) (.ref a))) _ s
  refine wpAny_bind ?_
  show Wp C (if a == a then pure true else _) _ s
  rw [if_pos (by simp)]
  exact wpAny_pure (wpAny_pure (PostOp.now hz rfl))
theorem Cmp.isNotStr {x : List Nat} {a : Addr} : Cmp C .IsNot (.str x) (.val (.ref a)) true := by
  intro z v u r1 r2 s h0 hb hz
  cases r1; cases r2
  show Wp C (do return Value.bool (!(← isSame (.str _ _) (.ref a)))) _ s
  exact wpAny_bind (wpAny_pure (wpAny_pure (PostOp.now hz rfl)))
end
end Mine
end

section
open PySem PySem.W PySem.Calls PyProof.Rows PySem.Builtin.Str PySem.SeqAt
set_option maxRecDepth 100000
namespace Mine
set_option linter.unusedVariables false
theorem spl_length (c : Nat) : ∀ l : List Nat, (spl c l).length ≤ l.length + 1
  | [] => by simp [spl]
  | a :: l => by
    have ih := spl_length c l
    unfold spl
    split
    · simp; (first | lia | omega)
    · cases h : spl c l with
      | nil => simp
      | cons x y => rw [h] at ih; simp at ih ⊢; (first | lia | omega)
theorem strs_rep {P : Params} {z : PH} {l : List (Str × Tok)} {xs : List (List Nat)} (h : (l.map (·.1)).map (·.cps.toList) = xs) : RepAll P z (strValues l) (xs.map D.str) := by
  have := RepAll.ofStrs (P := P) (z := z) l
  rw [← h, List.map_map, List.map_map]
  exact this
section
variable {C : Cx} {ρ : Loc} {cs : Own}
theorem MethV.split {x : List Nat} {c : Nat} (hsz : x.length < 16777216) : MethV C "split" (.str x) [.str [c]] (.list ((spl c x).map .str)) := .of (id := "str.split") (fun y t A E s pl Q h => by with_reducible exact GM.split h) fun y t z vs e r s h0 hb hz => by
  cases r using RepAll.consE with
  | cons r rs =>
    cases rs
    generalize he : [c] = k at r
    cases r using Rep.strE with
    | str w u =>
      have := one_cps he.symm
      subst this; subst e
      have hx : y.length ≤ sizeLine := fits (by rw [str_len]; (first | lia | omega))
      have hy : ((⟨#[c]⟩ : Str).length == 0) = false := rfl
      have fin : ∀ (l : List (Str × Tok)) (k : Nat), l.map (·.1) = Txt.split y ⟨#[c]⟩ → PostOp z s (fun z' r => Rep C.P z' r (.list ((spl c y.cps.toList).map .str))) (.ref s.heap.objs.size) { s with heap := s.heap.push { cls := .type "list", data := .seq (strValues l).toArray }, toks := k } := fun l k hl =>
        PostOp.push hz rfl (.list (n := 0) (PH.add_at _ _ _) (strs_rep (by rw [hl, split_eq])))
      cases h1 : (decide (y.length < (⟨#[c]⟩ : Str).length) || decide (strKind y < strKind ⟨#[c]⟩))
      · cases hf : (occurrences y ⟨#[c]⟩ 0 y.length (y.length + 1)).isEmpty
        · have hsp : Txt.split y ⟨#[c]⟩ = partsBetween y (occurrences y ⟨#[c]⟩ 0 y.length (y.length + 1)) (⟨#[c]⟩ : Str).length := by
            unfold Txt.split; rw [h1, hf]; rfl
          have hn : (partsBetween y (occurrences y ⟨#[c]⟩ 0 y.length (y.length + 1)) (⟨#[c]⟩ : Str).length).length ≤ sizeLine := by
            rw [← hsp]
            have := congrArg List.length (split_eq y c)
            rw [List.length_map] at this
            rw [this]
            exact fits (Nat.le_trans (spl_length _ _) (by (first | lia | omega)))
          refine call_meets F.slot_str_split (typeIs_str _ _ _) F.entry_str_split (F.args_str_split_2 _ _) (meets_str_split_sep y ⟨#[c]⟩ t u h1 hy hf hx hn) ?_
          show wants _ _ _ { s with toks := _, heap := s.heap.push { cls := .type "list", data := .seq (strsFrom s.toks (partsBetween y (occurrences y ⟨#[c]⟩ 0 y.length (y.length + 1)) (⟨#[c]⟩ : Str).length)).toArray } }
          rw [strsFrom_eq]
          exact fin (numbered s.toks _) _ (by rw [numbered_texts, hsp])
        · exact call_meets F.slot_str_split (typeIs_str _ _ _) F.entry_str_split (F.args_str_split_2 _ _) (meets_str_split_not_found y ⟨#[c]⟩ t u h1 hy hf)
            (fin [(y, t)] _ (by unfold Txt.split; rw [h1, hf]; rfl))
      · exact call_meets F.slot_str_split (typeIs_str _ _ _) F.entry_str_split (F.args_str_split_2 _ _) (meets_str_split_cannot_occur y ⟨#[c]⟩ t u h1)
          (fin [(y, t)] _ (by unfold Txt.split; rw [h1]; rfl))
theorem foldl_len (n : Nat) : ∀ (l : List Str) (k : Nat), l.foldl (fun a (b : Str) => a + b.length + n) k = k + (l.map fun x => x.length + n).sum
  | [], k => by simp
  | x :: l, k => by rw [List.foldl_cons, foldl_len n l, List.map_cons, List.sum_cons]; (first | lia | omega)
theorem MethV.join {x : List Nat} {xs : List (List Nat)} (hsz : (xs.map fun y => y.length + x.length).sum ≤ 16777216) : MethV C "join" (.str x) [.list (xs.map .str)] (.str (jn x xs)) := .of (id := "str.join") (fun y t A E s pl Q h => by with_reducible exact GM.join h) fun y t z vs e r s h0 hb hz => by
  cases r using RepAll.consE with
  | cons r rs =>
    cases rs
    cases r using Rep.listE with
    | @list a ws n _ ha hr =>
      obtain ⟨l, rfl, rfl⟩ := hr.strs
      subst e
      refine SC.join (l := l) ⟨_, hz _ _ ha, rfl, n, rfl⟩ rfl ?_ fun t' k => PostOp.tok hz ?_
      · unfold JoinOk tooLong
        rw [Bool.not_eq_true', decide_eq_false_iff_not]
        rw [← Array.foldl_toList, foldl_len]
        have e : ((l.map (·.1)).map fun (q : Str) => q.length + y.length) = ((l.map fun p => p.1.cps.toList).map fun q => q.length + y.cps.toList.length) := by
          simp only [List.map_map, Function.comp_def, str_len]
        rw [e, sizeLine_eq]; (first | lia | omega)
      · have : (Txt.join y (l.map (·.1))).cps.toList = jn y.cps.toList (l.map fun p => p.1.cps.toList) := by
          unfold Txt.join
          rw [StrLaws.glued_eq_join, strJoin_jn, List.map_map]; rfl
        rw [← this]; exact .str _ _
theorem foldl_arr : ∀ (l : List (Array Nat)) (a : Array Nat), (l.foldl (· ++ ·) a).toList = a.toList ++ (l.map Array.toList).flatten
  | [], a => by simp
  | b :: l, a => by rw [List.foldl_cons, foldl_arr l]; simp
theorem sum_rep : ∀ (n a : Nat), (List.replicate n a).sum = n * a
  | 0, a => by simp
  | n + 1, a => by rw [List.replicate_succ, List.sum_cons, sum_rep n a, Nat.succ_mul]; (first | lia | omega)
theorem Bin.mulStr {x : List Nat} {n : Int} (h : x.length * n.toNat ≤ 16777216) (hn : -1000 ≤ n ∧ n ≤ 16777216) : Bin C .Mult (.str x) (.int n) (.str (List.replicate n.toNat x).flatten) := by
  intro z v u r1 r2 s h0 hb hz
  cases r1 using Rep.strE with
  | str x t =>
    cases r2 using Rep.intE with
    | int _ u =>
      have hlen := str_len x
      have a1 : ¬ n < -(2 ^ 63 : Int) := by (first | lia | omega)
      have a2 : ¬ n ≥ 2 ^ 63 := by (first | lia | omega)
      refine P.mul_str (by rw [decide_eq_false a1, decide_eq_false a2]; rfl) (fun h1 h2 => ?_) (fun h1 h2 => ?_) ?_
      · have h3 : (x.length : Int) * n ≤ 2 ^ 63 - 1 := by
          have : ((x.length * n.toNat : Nat) : Int) ≤ ((16777216 : Nat) : Int) := Int.ofNat_le.mpr (by rw [hlen]; exact h)
          rw [Int.natCast_mul, Int.toNat_of_nonneg (by (first | lia | omega))] at this
          (first | lia | omega)
        have := Int.le_ediv_of_mul_le (by (first | lia | omega) : 0 < n) h3
        (first | lia | omega)
      · unfold tooLong; rw [decide_eq_false_iff_not, sizeLine_eq, hlen]; (first | lia | omega)
      · split
        · rename_i h1
          refine ⟨by decide, ?_⟩
          have : n.toNat = 0 := by (first | lia | omega)
          rw [this]
          exact PostOp.tok hz (.str Str.empty _)
        · split
          · rename_i h1 h2
            refine PostOp.now hz ?_
            rw [Bool.or_eq_true, beq_iff_eq, beq_iff_eq] at h2
            rcases h2 with h2 | h2
            · rw [h2]; simp only [show (1 : Int).toNat = 1 from rfl, List.replicate_one, List.flatten_cons, List.flatten_nil, List.append_nil]; exact .str _ _
            · have : x.cps.toList = [] := List.length_eq_zero_iff.mp (by (first | lia | omega))
              have h3 : (List.replicate n.toNat x.cps.toList).flatten = x.cps.toList := by rw [this]; simp
              rw [h3]; exact .str _ _
          · have e : (⟨(List.replicate n.toNat x.cps).foldl (· ++ ·) #[]⟩ : Str).cps.toList = (List.replicate n.toNat x.cps.toList).flatten := by
              simp only [foldl_arr, List.map_replicate]; simp
            refine ⟨fits ?_, PostOp.tok hz ?_⟩
            · rw [str_len, e]; rw [List.length_flatten, List.map_replicate, sum_rep, Nat.mul_comm]; exact h
            · rw [← e]; exact .str _ _
theorem Ev.replace {o : Expr} {ap p q1 q2 : Pos} {n1 n2 : Nat} {y w : Str} {x r : List Nat} {c : Nat} (ho : Ev C ρ cs o (.str x)) (hy : y = ⟨#[c]⟩) (hw : w.cps.toList = r) (hne : (y == w) = false) (hb : x.length + (x.length + 1) * r.length ≤ 16777216)
    (hba : attributeBase o "replace" C.env (eval o C.env) = eval o C.env := by rfl) (hp : (ap.endLine == p.line) = true := by rfl) :
    Ev C ρ cs (.Call (.Attribute o "replace" ap) [.Constant (.str y) n1 q1, .Constant (.str w) n2 q2] [] p) (.str (rep c r x)) := by
  intro z
  show Tr C ρ cs z (do
    let ov ← attributeBase o "replace" C.env (eval o C.env)
    standAt ap.atName
    methodCall o "replace" ap p C.env ov 2 [(false, eval (.Constant (.str y) n1 q1) C.env), (false, eval (.Constant (.str w) n2 q2) C.env)] []) _
  rw [hba]
  refine Tr.bind (ho z) fun z1 v l1 r1 => Tr.standThen ?_
  cases r1 using Rep.strE with
  | str x' t =>
    unfold methodCall
    show Tr C ρ cs z1 (do
      let (f, first) ← holding [.str x' t] (getMethod (.str x' t) "replace" (do return (← importBound o C.env).getD true))
      let callPos ← methodCallPos true o C.env ap p
      callWith callPos f first [(false, eval (.Constant (.str y) n1 q1) C.env), (false, eval (.Constant (.str w) n2 q2) C.env)] []) _
    refine Tr.bind (Tr.hold (Tr.op (P := fun _ r => r = (Value.builtin "str.replace", [Value.str x' t])) fun s h0 hb hz => ?_)) fun z2 r l2 e => ?_
    · exact GM.replace (PostOp.now hz rfl)
    subst e
    have e2 : methodCallPos true o C.env ap p = pure p := by unfold methodCallPos; rw [hp]; rfl
    dsimp only
    rw [e2, pure_bind]
    intro k s h0 S
    refine callWith_of (P := fun _ => True) rfl (fun h _ => keeper_builtin (C := C) h) ?_
    refine evalArgs_any rfl ?_
    rw [spliced]
    refine wpAny_bind (wpAny_Constant_str ?_)
    simp only [Bool.false_eq_true, if_false]
    refine wpAny_bind (wpAny_pure (wpAny_bind (wpAny_holding ?_)))
    rw [spliced]
    refine wpAny_bind (wpAny_Constant_str ?_)
    simp only [Bool.false_eq_true, if_false]
    refine wpAny_bind (wpAny_pure (wpAny_bind (wpAny_holding (wpAny_pure (wpAny_pure (wpAny_pure ⟨trivial, ?_⟩))))))
    subst hy
    refine SC.replace (by exact Nat.ne_of_gt h0) (by show s.toks + 1 ≠ 0; (first | lia | omega)) (by show s.toks ≠ s.toks + 1; (first | lia | omega)) hne ?_ fun t' k' => ?_
    · rw [str_len, str_len, hw]; exact hb
    · refine ⟨z2, .refl, S, ?_, ⟨rfl, rfl⟩⟩
      rw [← hw, ← replace_eq]; exact .str _ _
end
end Mine
end

section
open PySem PySem.W PySem.Calls PyProof.Rows PySem.Builtin.Str PySem.SeqAt
set_option maxRecDepth 100000
namespace Mine
set_option linter.unusedVariables false
section
variable {C : Cx} {ρ : Loc} {cs : Own} {ss : List Stmt} {Φ : Out → Prop}
/-! reading a list that the frame owns -/
theorem EvB.own (G : Gd C) {x : Str} {p : Pos} {a : Addr} {ds : List D} (hx : ρ.lookup x = some (.val (.ref a))) (hm : (a, Cell.lst ds) ∈ cs) (hsz : ds.length ≤ 16777216) (hl : C.env.kindOf x = some .local) (hd : (x == ("__debug__" : Str)) = false) :
    EvB C ρ cs (.Name x p) (!ds.isEmpty) := fun z => by
  show Tr C ρ cs z (do let v ← eval (.Name x p) C.env; standAt (Expr.Name x p).pos; holding [v] (truthy v)) _
  refine Tr.bind (Ev.loc G hx hl hd z) fun z1 v l1 r1 => Tr.standThen (Tr.hold ?_)
  cases r1
  intro k s h0 S
  obtain ⟨_, _, _, o, ho, vs, n, rfl, rs⟩ := S.cell _ hm
  have hlen := rs.length
  refine wpAny_truthy_list ⟨_, ho, rfl, n, rfl⟩ (by rw [List.size_toArray, hlen]; (first | lia | omega)) ⟨z1, .refl, S, ?_, ⟨rfl, rfl⟩⟩
  cases vs <;> cases ds <;> simp at hlen ⊢
theorem Ev.ownLast (G : Gd C) {x : Str} {p q : Pos} {i : Expr} {a : Addr} {ds : List D} {d : D} (hx : ρ.lookup x = some (.val (.ref a))) (hm : (a, Cell.lst ds) ∈ cs) (hi : Ev C ρ cs i (.int (-1))) (hsz : ds.length ≤ 16777216) (hd : ds.getLast? = some d)
    (hl : C.env.kindOf x = some .local) (hdb : (x == ("__debug__" : Str)) = false) : Ev C ρ cs (.Subscript (.Name x p) i q) d := fun z => by
  rw [eval_Subscript]
  refine Tr.bind (Ev.loc G hx hl hdb z) fun z1 o l1 r1 => Tr.bind (Tr.hold (hi z1)) fun z2 iv l2 r2 => Tr.standThen ?_
  cases r1
  cases r2 using Rep.intE with
  | int _ t =>
    intro k s h0 S
    obtain ⟨_, _, _, o, ho, vs, n, rfl, rs⟩ := S.cell _ hm
    have hT : s.heap.IsList a vs.toArray := ⟨_, ho, rfl, n, rfl⟩
    obtain ⟨ops, hs⟩ : ∃ ops, subscripted i false (.ref a) (.int (-1) t) = PySem.operate ops (getItem (.ref a) (.int (-1) t)) := by unfold subscripted; split <;> first | exact ⟨_, rfl⟩ | (rename_i q; cases q)
    rw [List.getLast?_eq_getElem?] at hd
    obtain ⟨v, hv, rv⟩ := rs.get hd
    have hpos : 0 < ds.length := by
      have := (List.getElem?_eq_some_iff.mp hd).1; (first | lia | omega)
    refine tail_any hT.typeIs slot_list_getitem.lookup ?_ hs
    refine wpAny_getItem_list_neg (x := v) hT (by decide) (by rw [List.size_toArray, rs.length]; (first | lia | omega)) (by decide) ?_ ⟨z2, .refl, S, rv, Same.refl _⟩
    rw [List.size_toArray, rs.length, show (-1 + (ds.length : Int)).toNat = ds.length - 1 from by (first | lia | omega)]
    simpa using hv
theorem RepAll.unsnoc {P : Params} {z : PH} {d : D} {ds : List D} : ∀ {vs : List Value}, RepAll P z vs (ds ++ [d]) → ∃ p v, vs = p ++ [v] ∧ RepAll P z p ds ∧ Rep P z v d := by
  induction ds with
  | nil =>
    intro vs h
    cases h using RepAll.consE with
    | cons h r => cases r; exact ⟨[], _, rfl, .nil, h⟩
  | cons e ds ih =>
    intro vs h
    cases h using RepAll.consE with
    | cons h r =>
      obtain ⟨p, v, rfl, a, b⟩ := ih r
      exact ⟨_ :: p, v, rfl, .cons h a, b⟩
theorem Ex.pop (G : Gd C) {x : Str} {p1 ap cp q : Pos} {a : Addr} {ds : List D} {d : D} (hx : ρ.lookup x = some (.val (.ref a))) (hsz : ds.length < 16777216) (k : Ex C ρ ((a, .lst ds) :: cs) ss Φ)
    (hl : C.env.kindOf x = some .local) (hd : (x == ("__debug__" : Str)) = false) (hp : (ap.endLine == cp.line) = true := by rfl) : Ex C ρ ((a, .lst (ds ++ [d])) :: cs) (.Expr (.Call (.Attribute (.Name x p1) "pop" ap) [] [] cp) q :: ss) Φ := by
  refine Ex.cons fun kk z s h0 S => ?_
  have hint : interactive C.env = false := by unfold interactive; rw [G.kind]; rfl
  show Wp C (do
    standAt q
    if interactive C.env then printExpr (eval (.Call (.Attribute (.Name x p1) "pop" ap) [] [] cp) C.env)
    else if ← swapsWith (.Call (.Attribute (.Name x p1) "pop" ap) [] [] cp) none q.line C.env then do evalThenUse (.Call (.Attribute (.Name x p1) "pop" ap) [] [] cp) C.env fun _ => point; pure .next
    else do dropValue (.Call (.Attribute (.Name x p1) "pop" ap) [] [] cp) q (← eval (.Call (.Attribute (.Name x p1) "pop" ap) [] [] cp) C.env)) _ s
  rw [hint]
  refine wpAny_bind (wpAny_standAt (wpAny_bind (wpAny_pure ?_)))
  refine wpAny_bind ?_
  show Wp C (do
    let ov ← eval (.Name x p1) C.env
    standAt ap.atName
    methodCall (.Name x p1) "pop" ap cp C.env ov 0 [] []) _ s
  refine wpAny_bind (Wp.mono (Ev.loc G hx hl hd z kk s h0 S) fun v s1 ht1 ⟨z1, l1, S1, r1, sm1⟩ => ?_)
  cases r1
  refine wpAny_bind (wpAny_standAt ?_)
  unfold methodCall
  obtain ⟨_, _, _, o, ho, vs, n, rfl, rs⟩ := S1.cell (a, .lst (ds ++ [d])) (.head _)
  have hT : s1.heap.IsList a vs.toArray := ⟨_, ho, rfl, n, rfl⟩
  show Wp C (do
      let (f, first) ← holding [.ref a] (getMethod (.ref a) "pop" (do return (← importBound (.Name x p1) C.env).getD true))
      let callPos ← methodCallPos true (.Name x p1) C.env ap cp
      callWith callPos f first [] []) _ _
  refine wpAny_bind (wpAny_holding (getMethod_list_of PySem.F.slot_list_pop PySem.F.type_list_pop hT ⟨_, ho, rfl⟩ ?_))
  have e2 : methodCallPos true (.Name x p1) C.env ap cp = Pure.pure cp := by unfold methodCallPos; rw [hp]; rfl
  dsimp only
  rw [e2, pure_bind]
  refine callWith_of (P := fun _ => True) rfl (fun h _ => keeper_builtin (C := C) h) ?_
  refine evalArgs_any rfl ?_
  refine wpAny_pure ⟨trivial, ?_⟩
  obtain ⟨p, v, rfl, rp, rv⟩ := RepAll.unsnoc rs
  have hk : (p ++ [v]).toArray.size - 1 = p.length := by rw [List.size_toArray, List.length_append]; rfl
  have hpl := rp.length
  have hT' : s1.heap.IsList a (p ++ [v]).toArray := ⟨_, ho, rfl, n, rfl⟩
  refine call_meets PySem.F.slot_list_pop hT'.typeIs PySem.F.entry_list_pop (PySem.F.args_list_pop_1 _) (PySem.MeetsSeq.list_pop_last a _ n v (by rw [hk]; simp) (by rw [List.size_toArray, sizeLine_eq, List.length_append, hpl]; simp; (first | lia | omega))) ⟨ho, ?_⟩
  have e4 : (p ++ [v]).toArray.eraseIdxIfInBounds ((p ++ [v]).toArray.size - 1) = p.toArray := by
    rw [hk, kl_erase, List.append_nil]
  have ho2 := PySem.IsL.update (show s1.heap.get? a = some (W.listOf (p ++ [v]).toArray n) from ho) (fun xs => xs.eraseIdxIfInBounds ((p ++ [v]).toArray.size - 1))
  rw [e4, if_neg (by simp)] at ho2
  have S2 := S1.setCell (c' := .lst ds) (Heap.SameBut.update ..) ho2 ⟨p, n + 1, rfl, rp⟩
  exact wpAny_dropValue ⟨z1, .next _ _, l1, S2, k, sm1.trans ⟨rfl, rfl⟩⟩
/-! dicts with text keys -/
theorem RepKv.pairs {C : Cx} {z : PH} : ∀ {es : List DictEntry} {kvs : List (List Nat × D)}, RepKv C.P z es kvs → ∃ ps : List (Str × Value), Pairs (strKind C.prog C.w) es ps ∧ ps.map (·.1.cps.toList) = kvs.map (·.1) ∧ (∀ e ∈ es, ∃ k, (strKind C.prog C.w).is k e.key = true ∧ e.hash = (strKind C.prog C.w).hash k) ∧
    (∀ k : Str, match kvs.lookup k.cps.toList with | none => valueAt ps k = none | some d => ∃ v, valueAt ps k = some v ∧ Rep C.P z v d)
  | _, _, .nil => ⟨[], .nil, rfl, fun e he => (nomatch he), fun k => rfl⟩
  | _, _, .cons (k := k) (t := t) (v := v) (d := d) (es := es) (kvs := kvs) h r => by
    obtain ⟨ps, h1, h2, h3, h4⟩ := RepKv.pairs r
    refine ⟨(k, v) :: ps, .cons (strKind_is _ _ k t) rfl h1, by rw [List.map_cons, List.map_cons, h2], fun e he => ?_, fun k' => ?_⟩
    · rcases List.mem_cons.mp he with rfl | he
      · exact ⟨k, strKind_is _ _ k t, rfl⟩
      · exact h3 e he
    · rw [List.lookup_cons]
      by_cases q : k' = k
      · subst q
        simp only [beq_self_eq_true]
        exact ⟨v, by simp [valueAt], h⟩
      · have q2 : (k'.cps.toList == k.cps.toList) = false := beq_eq_false_iff_ne.mpr fun e => q (str_ext e)
        rw [q2]
        have q3 : valueAt ((k, v) :: ps) k' = valueAt ps k' := by
          unfold valueAt; rw [List.find?_cons, decide_eq_false (fun e => q e.symm)]
        rw [q3]
        exact h4 k'
theorem Rep.dictOf {C : Cx} {z : PH} {h : Heap} {a : Addr} {kvs : List (List Nat × D)} (r : Rep C.P z (.ref a) (.dict kvs)) (hz : z.inH h) : (a == sysModules) = false ∧ ∃ ps : List (Str × Value), h.DictOf (strKind C.prog C.w) a ps ∧
    (∀ k : Str, match kvs.lookup k.cps.toList with | none => valueAt ps k = none | some d => ∃ v, valueAt ps k = some v ∧ Rep C.P z v d) := by
  cases r with
  | dict ha h1 h2 h3 h4 h5 =>
    obtain ⟨ps, q1, q2, q3, q4⟩ := RepKv.pairs (C := C) h4
    refine ⟨h1, ps, ⟨_, _, _, hz _ _ ha, h2, h3, fun e he => q3 e (by simpa using he), q1, ?_⟩, q4⟩
    rw [← q2] at h5
    have : ps.map (fun x => x.1.cps.toList) = (ps.map (·.1)).map (·.cps.toList) := by rw [List.map_map]; rfl
    rw [this] at h5
    exact List.Pairwise.of_map (fun x : Str => x.cps.toList) (fun a b h e => h (by rw [e])) h5
theorem Cmp.inDict {x : List Nat} {kvs : List (List Nat × D)} : Cmp C .In (.str x) (.dict kvs) (kvs.lookup x).isSome := by
  intro z v u r1 r2 s h0 hb hz
  cases r1 using Rep.strE with
  | str x t =>
    obtain ⟨a, rfl⟩ : ∃ a, u = .ref a := by cases r2; exact ⟨_, rfl⟩
    obtain ⟨lo, ps, hd, hq⟩ := r2.dictOf hz
    refine wpAny_in_of (strKind_is _ _ x t) lo hd.mapOf (PostOp.tok hz ?_)
    have := hq x
    cases e : kvs.lookup x.cps.toList with
    | none => rw [e] at this; simp only at this; rw [this]; rfl
    | some d => rw [e] at this; obtain ⟨v, hv, _⟩ := this; rw [hv]; rfl
theorem Itm.dict {x : List Nat} {kvs : List (List Nat × D)} {d : D} (hd : kvs.lookup x = some d) : Itm C (.dict kvs) (.str x) d := by
  intro z o i value slice r1 r2
  cases r2 using Rep.strE with
  | str x t =>
    obtain ⟨a, rfl⟩ : ∃ a, o = .ref a := by cases r1; exact ⟨_, rfl⟩
    refine Op.subTail (T := "dict") (fun s hz => (r1.dictOf hz).2.choose_spec.1.typeIs) slot_dict_getitem.lookup fun s h0 hb hz => ?_
    obtain ⟨lo, ps, hdo, hq⟩ := r1.dictOf hz
    have := hq x
    rw [hd] at this
    obtain ⟨v, hv, rv⟩ := this
    exact wpAny_getItem_of (strKind_is _ _ x t) hdo.mapOf hv (PostOp.tok hz rv)
end
end Mine
end

section
open PySem PySem.W PySem.Calls PyProof.Rows PySem.Builtin.Str PySem.SeqAt
set_option maxRecDepth 100000
namespace Mine
set_option linter.unusedVariables false
section
variable {C : Cx} {ρ : Loc} {cs : Own} {ss : List Stmt} {Φ : Out → Prop}
theorem Itr.ofWalks {x : Str} {p : Pos} {I : Addr} {wr fp : List Addr} {n : Nat} {P : Nat → Value → Prop} {T : Nat → Heap → Prop} {z0 : PH} {ds : List D} (W : Walks C.prog C.w C.A I fp wr n P T) (hn : n = ds.length)
    (hP : ∀ i d v z1, ds[i]? = some d → P i v → z0.le z1 → Rep C.P z1 v d) (ex : ∀ i h, T i h → ∀ b ∈ fp, ∃ o, h.get? b = some o) (fpz : ∀ b ∈ fp, b ∈ wr ∨ ∃ o, z0 b = some o) : Itr C (.Name x p) I wr fp z0 ds T where
  frame := W.frame
  sub := W.sub
  ex := ex
  fpz := fpz
  item := fun i d hd s z1 Q l hz hw st hQ => by
    have hi : i < n := by rw [hn]; exact (List.getElem?_eq_some_iff.mp hd).1
    refine W.item i s _ _ hi st fun v h' tk hp st' hk => ⟨v, rfl, wpAny_pure (a := ()) ?_⟩
    exact hQ v z1 h' tk (PH.le.refl _) FreshZ.refl (fun b o e => hk b o (fun q => by rw [hw b q] at e; cases e) (hz _ _ e)) (hP i d v z1 hd hp l) st' hk
  done := fun s Q st hQ => W.done s Q _ (by rw [hn]; exact st) hQ
/-- what iterating over a value draws -/
def It (C : Cx) (tgt : Expr) (v : Value) (z : PH) (ds : List D) : Prop := ∀ s : Shared, BZ C z → z.inH s.heap →
  Wp C (pyIter v) (fun it s' => ∃ I wr fp T, it = .ref I ∧ Itr C tgt I wr fp z ds T ∧ T 0 s'.heap ∧ (∀ i (s : Shared) (Q : Value → Shared → Prop), T i s.heap → Q (.ref I) s → Wp C (pyIter (.ref I)) Q s) ∧ HK s.heap s'.heap ∧ (∀ b ∈ wr, s.heap.get? b = none) ∧ Same s s') s
theorem It.list (G : Gd C) {x : Str} {p : Pos} {v : Value} {z : PH} {ds : List D} (r : Rep C.P z v (.list ds)) : It C (.Name x p) v z ds := fun s hb hz => by
  cases r using Rep.listE with
  | @list a vs n _ ha hr =>
    have hget := hz _ _ ha
    have hne : a ≠ s.heap.objs.size := Nat.ne_of_lt (Heap.lt_size hget)
    refine wpAny_pyIter_list ⟨_, hget, rfl, n, rfl⟩ ⟨s.heap.objs.size, _, _, _, rfl, Itr.list G hne ha hr, ⟨⟨_, Heap.get?_push_size _ rfl, rfl, rfl⟩, Heap.get?_push_of_some _ hget⟩, fun i s Q st h => wpAny_pyIter_listiter st.1 h, fun b o e => Heap.get?_push_of_some _ e, fun b hb => by rw [List.mem_singleton.mp hb]; exact get_size _, ⟨rfl, rfl⟩⟩
theorem It.str (G : Gd C) {x : Str} {p : Pos} {v : Value} {z : PH} {l : List Nat} (r : Rep C.P z v (.str l)) : It C (.Name x p) v z (l.map fun c => .str [c]) := fun s hb hz => by
  cases r using Rep.strE with
  | str y t =>
    have nz : ∀ b ∈ [s.heap.objs.size], s.heap.get? b = none := fun b hb => by rw [List.mem_singleton.mp hb]; exact get_size _
    have go : ∀ {ty : String} (W : Walks C.prog C.w C.A s.heap.objs.size [s.heap.objs.size] [s.heap.objs.size] y.cps.size (SignAt y) (fun i h => h.IsStrIter s.heap.objs.size ty y t i)), Itr C (.Name x p) s.heap.objs.size [s.heap.objs.size] [s.heap.objs.size] z (y.cps.toList.map fun c => D.str [c]) (fun i h => h.IsStrIter s.heap.objs.size ty y t i) := fun W =>
      .ofWalks W (by simp) (fun i d v z1 hd hp l => by
        obtain ⟨c, u, hc, rfl⟩ := hp
        rw [List.getElem?_map, Array.getElem?_toList, hc] at hd
        cases hd
        exact .str ⟨#[c]⟩ u) (fun i h st b hb => by rw [List.mem_singleton.mp hb]; exact ⟨_, st.choose_spec.1⟩) (fun b hb => .inl hb)
    cases ha : y.cps.all (· < 128)
    · refine wpAny_pyIter_wide ha ⟨s.heap.objs.size, _, _, _, rfl, go (Walks.strWide G.hh _ y t), ⟨_, Heap.get?_push_size _ rfl, rfl, rfl⟩, fun i s Q st h => wpAny_pyIter_striter_wide st h, fun b o e => Heap.get?_push_of_some _ e, nz, ⟨rfl, rfl⟩⟩
    · refine wpAny_pyIter_ascii ha ⟨s.heap.objs.size, _, _, _, rfl, go (Walks.strAscii G.hh _ y t), ⟨_, Heap.get?_push_size _ rfl, rfl, rfl⟩, fun i s Q st h => wpAny_pyIter_striter_ascii st h, fun b o e => Heap.get?_push_of_some _ e, nz, ⟨rfl, rfl⟩⟩
theorem It.keys (G : Gd C) {x : Str} {p : Pos} {v : Value} {z : PH} {kvs : List (List Nat × D)} (r : Rep C.P z v (.dict kvs)) : It C (.Name x p) v z (kvs.map fun q => .str q.1) := fun s hb hz => by
  cases r with
  | @dict d o es n _ ha h1 h2 h3 h4 h5 =>
    obtain ⟨ps, q1, q2, q3, q4⟩ := RepKv.pairs (C := C) h4
    have hnd : (ps.map (·.1)).Nodup := by
      rw [← q2] at h5
      have : ps.map (fun x => x.1.cps.toList) = (ps.map (·.1)).map (·.cps.toList) := by rw [List.map_map]; rfl
      rw [this] at h5
      exact List.Pairwise.of_map (fun x : Str => x.cps.toList) (fun a b h e => h (by rw [e])) h5
    have hd : s.heap.DictAt (strKind C.prog C.w) d ps n := ⟨_, _, hz _ _ ha, h2, h3, fun e he => q3 e (by simpa using he), q1, hnd⟩
    have hne : d ≠ s.heap.objs.size := Nat.ne_of_lt (Heap.lt_size (hz _ _ ha))
    refine wpAny_pyIter_dict h1 hd ⟨s.heap.objs.size, _, _, _, rfl, .ofWalks (Walks.dictKeys G.hh _ d hne ps n) (by have := congrArg List.length q2; simpa using this) ?_ ?_ ?_, ⟨⟨_, Heap.get?_push_size _ rfl, rfl, rfl⟩, hd.push _⟩, fun i s Q st h => wpAny_pyIter_keyiter st.1 h, fun b o e => Heap.get?_push_of_some _ e, fun b hb => by rw [List.mem_singleton.mp hb]; exact get_size _, ⟨rfl, rfl⟩⟩
    · intro i dd v z1 hdd hp l
      obtain ⟨k, x', hk, hv⟩ := hp
      have e : (kvs.map fun q => q.1)[i]? = some k.cps.toList := by rw [← q2, List.getElem?_map, hk]; rfl
      rw [List.getElem?_map] at hdd e
      cases q : kvs[i]? with
      | none => rw [q] at e; cases e
      | some kv =>
        rw [q] at hdd e
        simp only [Option.map_some, Option.some.injEq] at hdd e
        subst hdd
        obtain ⟨t, rfl⟩ := Value.isStrOf_shape hv
        rw [e]
        exact .str k t
    · intro i h st b hb
      simp at hb
      rcases hb with rfl | rfl
      · exact ⟨_, st.1.choose_spec.1⟩
      · obtain ⟨o, es, ho, _⟩ := st.2; exact ⟨o, ho⟩
    · intro b hb
      simp at hb
      rcases hb with rfl | rfl
      · exact .inl (by simp)
      · exact .inr ⟨_, ha⟩
theorem Ex.forIt (G : Gd C) {tgt : Expr} {q : Pos} {iter : Expr} {body orelse : List Stmt} {ds : List D} {d : D} {adds : D → Loc} (h : Ev C ρ cs iter d) (hIt : ∀ z v, Rep C.P z v d → It C tgt v z ds) (has : ∀ d ∈ ds, As C tgt d (adds d))
    (hF : FL C adds body orelse (Then C ss Φ) ds ρ cs) (hs : ∀ x, foldedSetIterable iter C.env x = pure x := by intro _; rfl) : Ex C ρ cs (.For tgt iter body orelse q :: ss) Φ := by
  refine Ex.cons fun k z s h0 S => ?_
  refine wpAny_For (Wp.mono (h z k s h0 S) fun v s' ht ⟨z', l, S', r, sm⟩ => ?_) hs
  refine Wp.mono (hIt z' v r s' S'.base S'.low) fun it s2 ht2 q => ?_
  obtain ⟨I, wr, fp, T, rfl, W, hT, _, hk, hw, sm2⟩ := q
  have S2 : St C k z' ρ cs s2.heap := S'.step hk (PH.le.refl _) FreshZ.refl fun b o e => hk _ _ (S'.low _ _ e)
  refine codeAny_mono (FL.sound W has ds 0 ρ cs k z' _ rfl (Nat.zero_le _) (Nat.lt_of_lt_of_le h0 (Nat.le_trans ht ht2)) S2 (PH.le.refl _) hT (Off.new S' hw) hF) fun r s'' q => by
    cases r with
    | ok f => exact PostX.after l (sm.trans sm2) q
    | error e => exact False.elim q
end
end Mine
end

section
open PySem PySem.W PySem.Calls PyProof.Rows PySem.Builtin.Str PySem.SeqAt
set_option maxRecDepth 100000
namespace Mine
set_option linter.unusedVariables false
/-- the frame of a comprehension -/
abbrev Cx.comp (C : Cx) (scope : Scope) (cl : List (Str × Addr)) (L : Addr) : Cx := { C with env := compEnvC scope cl L C.env }
theorem Gd.comp {C : Cx} (G : Gd C) {scope : Scope} {cl : List (Str × Addr)} {L : Addr} (hk : scope.kind = .function) : Gd (C.comp scope cl L) :=
  ⟨G.g, G.b, G.nolimit, G.hh, hk, G.glob, G.blt, G.sm⟩
theorem Itr.cast {C C' : Cx} {tgt : Expr} {I : Addr} {wr fp : List Addr} {z0 : PH} {ds : List D} {T : Nat → Heap → Prop} (W : Itr C tgt I wr fp z0 ds T) (hp : C'.prog = C.prog) (hw : C'.w = C.w) (hA : C'.A = C.A) : Itr C' tgt I wr fp z0 ds T := by
  obtain ⟨prog, w, B, mg, mb, A, env⟩ := C
  obtain ⟨prog', w', B', mg', mb', A', env'⟩ := C'
  simp only at hp hw hA
  subst hp hw hA
  exact ⟨W.frame, W.sub, W.ex, W.fpz, W.item, W.done⟩
section
variable {C : Cx} {ρ : Loc} {cs : Own} {ss : List Stmt} {Φ : Out → Prop}
theorem St.locs {k z : PH} {h : Heap} {ρ' : Loc} (S : St C k z ρ cs h) (hs : ∀ x d, ρ'.lookup x = some d → ρ.lookup x = some d) : St C k z ρ' cs h :=
  let ⟨m, F, hm⟩ := S.fr
  ⟨⟨m, F, fun x d e => hm x d (hs x d e)⟩, S.base, S.low, S.keep, S.zL, S.kL, S.cell, S.nodup⟩
theorem compLoop {elt iter : Expr} {x : Str} {px pos : Pos} {scope : Scope} (G : Gd C) (hx : C.env.kindOf x = some .local) {I a : Addr} {wr fp : List Addr} {z0 : PH} {all : List D} {T : Nat → Heap → Prop} {outs : List D} (hol : outs.length = all.length) (hsz : all.length ≤ 16777216)
    (W : Itr C (.Name x px) I wr fp z0 all T) (he : ∀ (i : Nat) d e, all[i]? = some d → outs[i]? = some e → ∀ cs', cs ⊆ cs' → Ev C [(x, d)] cs' elt e) :
    ∀ (ds : List D) (i : Nat) (done : List D) (k z : PH) (s : Shared), all.drop i = ds → i ≤ all.length → done.length = i → 0 < s.toks → St C k z [] ((a, .lst done) :: cs) s.heap → z0.le z → T i s.heap → Off C k z ((a, .lst done) :: cs) wr →
      codeAny C.M C.A (.compLoop (.ListComp elt [⟨.Name x px, iter, [], 0⟩] scope pos) 0 (.ref I) (.ref a) C.env) (fun r s' => r = .ok .next ∧ ∃ z', Grow k z z' ∧ St C k z' [] ((a, .lst (done ++ outs.drop i)) :: cs) s'.heap ∧ Same s s') s
  | [], i, done, k, z, s, hd, hi, hdl, h0, S, hz0, hT, O => by
    have hi' : i = all.length := by
      have := congrArg List.length hd
      simp only [List.length_drop, List.length_nil] at this; (first | lia | omega)
    subst hi'
    refine codeAny_of_tree ?_
    have hu : C.A.under (.compLoop (.ListComp elt [⟨.Name x px, iter, [], 0⟩] scope pos) 0 (.ref I) (.ref a) C.env) = C.A := Around.under_of_weight rfl rfl
    rw [hu]
    show wpAny _ C.A ((compTurn (.ListComp elt [⟨.Name x px, iter, [], 0⟩] scope pos) 0 (.ref I) (.ref a) C.env).onRaise (fun x => do noteFrame x C.env; theTreesLotGoes x)) _ _ s
    refine wpAny_onRaise (wpAny_mono (E := fun _ _ => False) ?_ (fun _ _ q => q) fun _ _ q => q.elim)
    rw [compTurn_list1]
    refine wpAny_bind (wpAny_standAt (wpAny_bind ?_))
    refine W.done s _ hT fun h' tk hk => ?_
    have S' := S.wr O hk (PH.le.refl z) FreshZ.refl fun b o e => hk b o (fun q => by rw [O.z _ q] at e; cases e) (S.low b o e)
    exact wpAny_pure ⟨rfl, z, .refl, by rw [List.drop_of_length_le (by (first | lia | omega))]; simpa using S', ⟨rfl, rfl⟩⟩
  | d :: ds, i, done, k, z, s, hd, hi, hdl, h0, S, hz0, hT, O => by
    have hit : all[i]? = some d := by
      have := congrArg List.head? hd
      rwa [List.head?_drop, List.head?_cons] at this
    have hlt : i < all.length := (List.getElem?_eq_some_iff.mp hit).1
    obtain ⟨eo, hoe⟩ : ∃ e, outs[i]? = some e := ⟨outs[i]'(by (first | lia | omega)), List.getElem?_eq_getElem _⟩
    have hod : outs.drop i = eo :: outs.drop (i + 1) := by
      rw [List.drop_eq_getElem_cons (show i < outs.length from by (first | lia | omega))]
      rw [List.getElem?_eq_getElem (show i < outs.length from by (first | lia | omega))] at hoe; cases hoe; rfl
    have hd' : all.drop (i + 1) = ds := by
      have := congrArg List.tail hd
      rwa [List.tail_drop, List.tail_cons] at this
    refine codeAny_of_tree ?_
    have hu : C.A.under (.compLoop (.ListComp elt [⟨.Name x px, iter, [], 0⟩] scope pos) 0 (.ref I) (.ref a) C.env) = C.A := Around.under_of_weight rfl rfl
    rw [hu]
    show wpAny _ C.A ((compTurn (.ListComp elt [⟨.Name x px, iter, [], 0⟩] scope pos) 0 (.ref I) (.ref a) C.env).onRaise (fun x => do noteFrame x C.env; theTreesLotGoes x)) _ _ s
    refine wpAny_onRaise (wpAny_mono (E := fun _ _ => False) ?_ (fun _ _ q => q) fun _ _ q => q.elim)
    rw [compTurn_list1]
    refine wpAny_bind (wpAny_standAt (wpAny_bind ?_))
    refine Wp.mono (W.item i d hit s z (fun v s'' => s.toks ≤ s''.toks → wpAny C.M C.A (assign (.Name x px) C.env v >>= fun _ =>
        (eval elt C.env >>= fun y => call (.builtin "list.append") [.ref a, y] >>= fun _ => pure ()) >>= fun _ =>
          again (.compLoop (.ListComp elt [⟨.Name x px, iter, [], 0⟩] scope pos) 0 (.ref I) (.ref a) C.env))
        (fun fin s' => match fin with | .done f => (fun r s' => r = .ok .next ∧ ∃ z', Grow k z z' ∧ St C k z' [] ((a, .lst (done ++ outs.drop i)) :: cs) s'.heap ∧ Same s s') (Except.ok f : Result) s' | .again c' => c'.quiet = true ∧ codeAny C.M C.A c' (fun r s' => r = .ok .next ∧ ∃ z', Grow k z z' ∧ St C k z' [] ((a, .lst (done ++ outs.drop i)) :: cs) s'.heap ∧ Same s s') s') (fun _ _ => False) s'') hz0 S.low O.z hT ?_) fun r s' ht q => ?_
    · intro v z2 h' tk l2 f2 i2 r2 hT' hk ht
      have S2 := S.wr O hk l2 f2 i2
      have hex := W.ex _ _ hT'
      have O2 : Off C k z2 ((a, .lst done) :: cs) wr := ⟨(fun b hb => by
        cases e : z2 b with
        | none => rfl
        | some o => rcases f2 b o e with r | r
                    · rw [O.z b hb] at r; cases r
                    · obtain ⟨o', e'⟩ := W.ex _ _ hT b (W.sub b hb); rw [e'] at r; cases r), O.k, O.L, O.c⟩
      have g2 : Grow k z z2 := .of S.keep l2 f2
      refine wpAny_bind (Wp.mono (As.name G hx _ _ _ z2 { s with heap := h', toks := tk } v (Nat.lt_of_lt_of_le h0 ht) S2.all r2) fun _ s3 ht3 ⟨z3, g3, S3, sm3⟩ => ?_)
      refine wpAny_bind (wpAny_bind (Wp.mono (he i d eo hit hoe _ (List.subset_cons_self _ _) z3 _ s3 (Nat.lt_of_lt_of_le h0 (Nat.le_trans ht ht3)) S3) fun y s4 ht4 ⟨z4, g4, S4, r4, sm4⟩ => ?_))
      refine wpAny_bind (append_cell S4 r4 (by (first | lia | omega)) fun h5 S5 => wpAny_pure (wpAny_pure ?_))
      have g : Grow k z z4 := g2.trans ((g3.trans g4).back S2.kall)
      have smAll : Same s s4 := Same.trans (a := s) (b := s3) ⟨sm3.1, sm3.2⟩ sm4
      have h04 : 0 < s4.toks := Nat.lt_of_lt_of_le h0 (Nat.le_trans ht (Nat.le_trans ht3 ht4))
      refine ⟨rfl, codeAny_mono (compLoop (scope := scope) G hx hol hsz W he ds (i + 1) (done ++ [eo]) k z4 { s4 with heap := h5 } hd' hlt (by simp; (first | lia | omega)) h04 ((S5.back (k := k) fun b o e => ?_).nil) (hz0.trans g.1) ?_ ?_) fun r s5 q => ?_⟩
      · exact S2.kall b o e
      · refine W.frame _ _ _ hT' fun b hb o e => ?_
        rcases W.fpz b hb with hw | ⟨o', e'⟩
        · exact S5.keep _ _ (allBut_of (O2.L b hw) (O2.c b hw) e)
        · have e2 := l2 _ _ (hz0 _ _ e')
          have := i2 _ _ e2
          rw [e] at this; cases this
          exact S5.low _ _ ((g3.trans g4).1 _ _ e2)
      · exact O2.keep (fun b hb => hex b (W.sub b hb)) (g3.trans g4) S5
      · obtain ⟨e, z5, g5, S5', sm5⟩ := q
        refine ⟨e, z5, g.trans g5, by rw [hod]; simpa using S5', smAll.trans (a := s) (b := s4) ⟨sm5.1, sm5.2⟩⟩
    · obtain ⟨v, rfl, q⟩ := q
      refine wpAny_bind (Wp.mono q fun _ s'' ht2 q => q (Nat.le_trans ht ht2))
theorem St.offL {k z : PH} {h h' : Heap} {L : Addr} (S : St C k z ρ cs h) (hs : Heap.SameBut L h h') (zL : z L = none) (kL : k L = none) (ne : L ≠ C.L) (nc : ∀ p ∈ cs, p.1 ≠ L) : St C k z ρ cs h' := by
  obtain ⟨m, ⟨oL, es, ep, e1, r1⟩, hm⟩ := S.fr
  refine ⟨⟨m, ⟨oL, es, ep, (hs.2 _ (Ne.symm ne)).trans e1, r1⟩, hm⟩, S.base, fun b o e => (hs.2 _ (fun q => by rw [q, zL] at e; cases e)).trans (S.low b o e), fun b o e => (hs.2 _ (fun q => by rw [q, kL] at e; cases e)).trans (S.keep b o e), S.zL, S.kL, fun p hp => ?_, S.nodup⟩
  obtain ⟨a, b, c, o, d, e⟩ := S.cell p hp
  exact ⟨a, b, c, o, (hs.2 _ (nc p hp)).trans d, e⟩
/-- all but the cells -/
def butCells (cs : Own) (h : Heap) : PH := fun b => if b ∈ cs.map (·.1) then none else h.get? b
/-- what a comprehension gives -/
theorem comp_core (G : Gd C) {elt iter : Expr} {x : Str} {px pos ipos : Pos} {scope : Scope} {cl : List (Str × Addr)} {d : D} {all outs : List D} (hol : outs.length = all.length) (hsz : all.length ≤ 16777216) {use : Option (Value → Sem Unit)}
    (hi : Ev C ρ cs iter d) (hIt : ∀ z v, Rep C.P z v d → It C (.Name x px) v z all) (he : ∀ L (i : Nat) d e, all[i]? = some d → outs[i]? = some e → ∀ cs', cs ⊆ cs' → Ev (C.comp scope cl L) [(x, d)] cs' elt e)
    (hclos : closureFor scope C.env = pure cl) (hkind : scope.kind = .function) (hcell : ∀ y ∈ scope.names, y.2 ≠ .cell) (hnm : ∀ y ∈ scope.names, y.2 = .local → scope.names.lookup y.1 = some .local) (hx : scope.names.lookup x = some .local)
    (hs : ∀ x, foldedSetIterable iter C.env x = pure x) {k z : PH} {s : Shared} (h0 : 0 < s.toks) (S : St C k z ρ cs s.heap) {Q : Value → Shared → Prop}
    (hQ : ∀ D z' (s' : Shared) L m, s.toks ≤ s'.toks → Grow k z z' → St C k z' ρ cs s'.heap → s'.heap.Ns L m → z' L = none → k L = none → L ≠ C.L → (∀ p ∈ cs, p.1 ≠ L) → Rep C.P z' (.ref D) (.list outs) → Same s s' → compPost C.M C.A (fun _ _ => False) use Q (.ref D) L (.ok .next) s') :
    Wp C (comprehension (.ListComp elt [⟨.Name x px, iter, [], 0⟩] scope pos) scope C.env ipos (PySem.newList []) false (eval iter C.env) use) Q s := by
  refine wpAny_comprehension_free rfl hs hclos hkind hnm (Wp.mono (hi z k s h0 S) fun v s1 ht1 ⟨z1, g1, S1, r1, sm1⟩ => ?_)
  refine Wp.mono (hIt z1 v r1 s1 S1.base S1.low) fun it s2 ht2 q => ?_
  obtain ⟨I, wr, fp, T, rfl, WI, hT, self, hk2, hw, sm2⟩ := q
  have hwx : ∀ b ∈ wr, ∃ o, s2.heap.get? b = some o := fun b hb => WI.ex _ _ hT b (WI.sub b hb)
  refine wpAny_newObj_type (hd := by size_fits) (wpAny_newFunctionEnv hcell (by intro y hy; simp at hy) (fun h₁ hns₁ hsb₁ => ?_) hkind)
  dsimp only at hns₁ hsb₁ ⊢
  generalize hH3 : s2.heap.push { cls := .type "list", dict := none, data := .seq ([] : List Value).toArray } = H3 at hns₁ hsb₁ ⊢
  have hL : H3.objs.size = s2.heap.objs.size + 1 := by rw [← hH3, Heap.size_push]
  have hget3 : H3.get? s2.heap.objs.size = some (W.listOf #[] 0) := by rw [← hH3]; exact Heap.get?_push_size _ rfl
  have old2 : HK s1.heap H3 := fun b o e => by rw [← hH3]; exact Heap.get?_push_of_some _ (hk2 _ _ e)
  have lt : ∀ {b o}, H3.get? b = some o → b ≠ H3.objs.size := fun e => Nat.ne_of_lt (Heap.lt_size e)
  have old3 : ∀ b o, H3.get? b = some o → h₁.get? b = some o := fun b o e => hsb₁.extBut _ _ (lt e) (Heap.get?_push_of_some _ e)
  have hDL : s2.heap.objs.size ≠ H3.objs.size := by (first | lia | omega)
  have n1 : s1.heap.get? s2.heap.objs.size = none := by
    cases q : s1.heap.get? s2.heap.objs.size with
    | none => rfl
    | some o => have := hk2 _ _ q; rw [get_size] at this; cases this
  have nL : s1.heap.get? H3.objs.size = none := by
    cases q : s1.heap.get? H3.objs.size with
    | none => rfl
    | some o => have := old2 _ _ q; rw [get_size] at this; cases this
  have k1 : ∀ b o, k b = some o → butCells cs s1.heap b = some o := fun b o e => by
    unfold butCells
    rw [if_neg]
    · exact S1.keep _ _ e
    · intro q
      obtain ⟨p, hp, rfl⟩ := List.mem_map.mp q
      obtain ⟨_, kn, _⟩ := S1.cell p hp
      rw [kn] at e; cases e
  have bsub : ∀ b o, butCells cs s1.heap b = some o → s1.heap.get? b = some o := fun b o e => by unfold butCells at e; split at e; cases e; exact e
  have bnone : ∀ b, s1.heap.get? b = none → butCells cs s1.heap b = none := fun b e => by unfold butCells; split <;> first | rfl | exact e
  -- the frame of the comprehension
  have S3 : St (C.comp scope cl H3.objs.size) (butCells cs s1.heap) z1 [] ((s2.heap.objs.size, .lst []) :: cs) h₁ := by
    refine ⟨⟨_, hns₁, fun x d e => (nomatch e)⟩, S1.base, fun b o e => old3 _ _ (old2 _ _ (S1.low _ _ e)), fun b o e => old3 _ _ (old2 _ _ (bsub _ _ e)), inH_none S1.low nL, bnone _ nL, fun p hp => ?_, ?_⟩
    · rcases List.mem_cons.mp hp with rfl | hp
      · exact ⟨inH_none S1.low n1, bnone _ n1, hDL, _, old3 _ _ hget3, [], 0, rfl, .nil⟩
      · obtain ⟨a, b, c, o, e, ci⟩ := S1.cell p hp
        refine ⟨a, ?_, ?_, o, old3 _ _ (old2 _ _ e), ci⟩
        · unfold butCells; rw [if_pos (List.mem_map_of_mem hp)]
        · intro q
          have : s1.heap.get? H3.objs.size = some o := by rw [← e]; exact congrArg _ q.symm
          rw [nL] at this; cases this
    · rw [List.map_cons, List.nodup_cons]
      refine ⟨fun q => ?_, S1.nodup⟩
      obtain ⟨p, hp, e⟩ := List.mem_map.mp q
      obtain ⟨_, _, _, o', e', _⟩ := S1.cell p hp
      have e : p.1 = s2.heap.objs.size := e
      rw [e, n1] at e'; cases e'
  have O : Off (C.comp scope cl H3.objs.size) (butCells cs s1.heap) z1 ((s2.heap.objs.size, .lst []) :: cs) wr := by
    refine ⟨fun b hb => inH_none S1.low (hw b hb), fun b hb => bnone _ (hw b hb), fun b hb q => ?_, fun b hb p hp q => ?_⟩
    · obtain ⟨o, e⟩ := hwx b hb
      have : b < s2.heap.objs.size := Heap.lt_size e
      exact Nat.ne_of_lt (Nat.lt_succ_of_lt this) (Eq.trans (b := H3.objs.size) q hL)
    · rcases List.mem_cons.mp hp with rfl | hp
      · obtain ⟨o, e⟩ := hwx b hb
        have : b < s2.heap.objs.size := Heap.lt_size e
        exact Nat.ne_of_lt this (Eq.symm q)
      · obtain ⟨_, _, _, o', e', _⟩ := S1.cell p hp
        rw [q, hw b hb] at e'; cases e'
  have hT1 : T 0 h₁ := WI.frame _ _ _ hT fun b hb o e => old3 _ _ (by rw [← hH3]; exact Heap.get?_push_of_some _ e)
  have G' : Gd (C.comp scope cl H3.objs.size) := G.comp hkind
  have hx' : (C.comp scope cl H3.objs.size).env.kindOf x = some .local := lookup_relabel_local hx
  have loop : ∀ s₃ : Shared, s₃ = { s2 with heap := h₁, toks := s2.toks + ([] : List (Str × Value)).length } →
      codeAny C.M C.A (.compLoop (.ListComp elt [⟨.Name x px, iter, [], 0⟩] scope pos) 0 (.ref I) (.ref s2.heap.objs.size) (compEnvC scope cl H3.objs.size C.env)) (compPost C.M C.A (fun _ _ => False) use Q (.ref s2.heap.objs.size) H3.objs.size) s₃ := by
    rintro s₃ rfl
    refine codeAny_mono (codeAny_toks_of (Nat.le_refl _) (compLoop (C := C.comp scope cl H3.objs.size) (iter := iter) (pos := pos) (scope := scope) (a := s2.heap.objs.size) (cs := cs) G' hx' hol hsz (WI.cast rfl rfl rfl) (he _) all 0 [] _ z1 _ rfl (Nat.zero_le _) rfl (Nat.lt_of_lt_of_le h0 (Nat.le_trans ht1 (Nat.le_trans ht2 (Nat.le_add_right _ _)))) S3 (PH.le.refl _) hT1 O)) fun r s5 q => ?_
    obtain ⟨tk5, rfl, z5, g5, S5, sm5⟩ := q
    obtain ⟨z6, g6, S6, r6⟩ := S5.freeze
    have g : Grow (butCells cs s1.heap) z1 z6 := g5.trans g6
    obtain ⟨m1, ⟨oL, es, ep, e1, q1⟩, hm1⟩ := S1.fr
    have cL : butCells cs s1.heap C.L = some oL := by
      unfold butCells
      rw [if_neg]
      · exact e1
      · intro q
        obtain ⟨p, hp, e⟩ := List.mem_map.mp q
        obtain ⟨_, _, c, _⟩ := S1.cell p hp
        exact c e
    have neL : H3.objs.size ≠ C.L := fun q => by rw [← q, nL] at e1; cases e1
    have zL6 : z6 C.L = none := by
      cases q : z6 C.L with
      | none => rfl
      | some o => rcases g.2 _ _ q with r | r
                  · rw [S1.zL] at r; cases r
                  · rw [cL] at r; cases r
    obtain ⟨m6, F6, _⟩ := S6.fr
    have kL : ∀ b, s1.heap.get? b = none → k b = none := fun b e => by
      cases q : k b with
      | none => rfl
      | some o => rw [S1.keep _ _ q] at e; cases e
    refine hQ s2.heap.objs.size z6 s5 H3.objs.size m6 (Nat.le_trans ht1 (Nat.le_trans ht2 (Nat.le_trans (Nat.le_add_right _ _) tk5))) (g1.trans (g.back k1)) ⟨⟨m1, ⟨oL, es, ep, S6.keep _ _ cL, q1⟩, fun x d e => let ⟨v, a, b⟩ := hm1 x d e; ⟨v, a, b.mono g.1⟩⟩, S6.base, S6.low, fun b o e => S6.keep _ _ (k1 _ _ e), zL6, S1.kL, fun p hp => ?_, S1.nodup⟩ F6 S6.zL (kL _ nL) neL (fun p hp => (S6.cell p hp).2.2.1) (by simpa using r6) ((sm1.trans sm2).trans ⟨sm5.1, sm5.2⟩)
    obtain ⟨a, b, c, o, e, ci⟩ := S6.cell p hp
    obtain ⟨_, kn, nc, _⟩ := S1.cell p hp
    exact ⟨a, kn, nc, o, e, ci⟩
  exact codeAny_compStart_list (loop _ rfl) (wpAny_mono (self 0 _ _ hT1 (loop _ rfl)) (fun _ _ q => q) fun _ _ f => f.elim)
end
end Mine
end

section
open PySem PySem.W PySem.Calls PyProof.Rows PySem.Builtin.Str PySem.SeqAt
set_option maxRecDepth 100000
namespace Mine
set_option linter.unusedVariables false
section
variable {C : Cx} {ρ : Loc} {cs : Own} {ss : List Stmt} {Φ : Out → Prop}
theorem he_map {scope : Scope} {cl : List (Str × Addr)} {elt : Expr} {x : Str} {all : List D} {F : D → D} (he : ∀ L, ∀ d ∈ all, ∀ cs', cs ⊆ cs' → Ev (C.comp scope cl L) [(x, d)] cs' elt (F d)) : ∀ L (i : Nat) d e, all[i]? = some d → (all.map F)[i]? = some e → ∀ cs', cs ⊆ cs' → Ev (C.comp scope cl L) [(x, d)] cs' elt e := fun L i d e h1 h2 cs' hc => by
  rw [List.getElem?_map, h1] at h2; cases h2
  exact he L d (List.mem_of_getElem? h1) cs' hc
theorem Ev.compI (G : Gd C) {elt iter : Expr} {x : Str} {px pos : Pos} {scope : Scope} {cl : List (Str × Addr)} {d : D} {all outs : List D} (hol : outs.length = all.length) (hsz : all.length ≤ 16777216)
    (hi : Ev C ρ cs iter d) (hIt : ∀ z v, Rep C.P z v d → It C (.Name x px) v z all) (he : ∀ L (i : Nat) d e, all[i]? = some d → outs[i]? = some e → ∀ cs', cs ⊆ cs' → Ev (C.comp scope cl L) [(x, d)] cs' elt e)
    (hclos : closureFor scope C.env = pure cl) (hkind : scope.kind = .function) (hcell : ∀ y ∈ scope.names, y.2 ≠ .cell) (hnm : ∀ y ∈ scope.names, y.2 = .local → scope.names.lookup y.1 = some .local) (hx : scope.names.lookup x = some .local)
    (hs : ∀ x, foldedSetIterable iter C.env x = pure x := by intro _; rfl) : Ev C ρ cs (.ListComp elt [⟨.Name x px, iter, [], 0⟩] scope pos) (.list outs) := by
  intro z k s h0 S
  rw [eval_ListComp]
  refine comp_core (use := none) G hol hsz hi hIt he hclos hkind hcell hnm hx hs h0 S ?_
  intro D z' s' L m ht g S' F zL kL ne nc r sm
  exact ⟨m, F, fun h' hs' => ⟨z', g, S'.offL hs' zL kL ne nc, r, sm.trans ⟨rfl, rfl⟩⟩⟩
theorem Ev.comp (G : Gd C) {elt iter : Expr} {x : Str} {px pos : Pos} {scope : Scope} {cl : List (Str × Addr)} {d : D} {all : List D} (F : D → D) (hsz : all.length ≤ 16777216)
    (hi : Ev C ρ cs iter d) (hIt : ∀ z v, Rep C.P z v d → It C (.Name x px) v z all) (he : ∀ L, ∀ d ∈ all, ∀ cs', cs ⊆ cs' → Ev (C.comp scope cl L) [(x, d)] cs' elt (F d))
    (hclos : closureFor scope C.env = pure cl) (hkind : scope.kind = .function) (hcell : ∀ y ∈ scope.names, y.2 ≠ .cell) (hnm : ∀ y ∈ scope.names, y.2 = .local → scope.names.lookup y.1 = some .local) (hx : scope.names.lookup x = some .local)
    (hs : ∀ x, foldedSetIterable iter C.env x = pure x := by intro _; rfl) : Ev C ρ cs (.ListComp elt [⟨.Name x px, iter, [], 0⟩] scope pos) (.list (all.map F)) :=
  Ev.compI G (List.length_map ..) hsz hi hIt (he_map he) hclos hkind hcell hnm hx hs
theorem Ex.assignCompI (G : Gd C) {elt iter : Expr} {x y : Str} {px py pos spos : Pos} {scope : Scope} {cl : List (Str × Addr)} {d : D} {all outs : List D} (hol : outs.length = all.length) (hsz : all.length ≤ 16777216)
    (hi : Ev C ρ cs iter d) (hIt : ∀ z v, Rep C.P z v d → It C (.Name x px) v z all) (he : ∀ L (i : Nat) d e, all[i]? = some d → outs[i]? = some e → ∀ cs', cs ⊆ cs' → Ev (C.comp scope cl L) [(x, d)] cs' elt e)
    (hclos : closureFor scope C.env = pure cl) (hkind : scope.kind = .function) (hcell : ∀ y ∈ scope.names, y.2 ≠ .cell) (hnm : ∀ y ∈ scope.names, y.2 = .local → scope.names.lookup y.1 = some .local) (hx : scope.names.lookup x = some .local)
    (hy : C.env.kindOf y = some .local) (k : Ex C ((y, .list outs) :: ρ) cs ss Φ) (hsw : swapsWith (.ListComp elt [⟨.Name x px, iter, [], 0⟩] scope pos) (some (.Name y py)) spos.line C.env = pure true)
    (hs : ∀ x, foldedSetIterable iter C.env x = pure x := by intro _; rfl) : Ex C ρ cs (.Assign [.Name y py] (.ListComp elt [⟨.Name x px, iter, [], 0⟩] scope pos) spos :: ss) Φ := by
  refine Ex.cons fun kk z s h0 S => ?_
  rw [exec_Assign_Name_used _ _ _ _ hsw]
  refine wpAny_bind (wpAny_standAt (wpAny_bind ?_))
  show wpAny _ C.A (do let _ ← comprehension (.ListComp elt [⟨.Name x px, iter, [], 0⟩] scope pos) scope C.env _ (PySem.newList []) false (eval iter C.env) (some (PySem.assign (.Name y py) C.env))) _ _ s
  refine wpAny_bind (wpAny_mono (comp_core (use := some (PySem.assign (.Name y py) C.env)) (Q := fun _ s' => PostX C kk z s (Then C ss Φ) Flow.next s') G hol hsz hi hIt he hclos hkind hcell hnm hx hs h0 S ?_) (fun _ s' hq => wpAny_pure (wpAny_pure hq)) fun _ _ e => e)
  intro D z' s' L m ht g S' F zL kL ne nc r sm
  show wpAny _ C.A (PySem.assign (.Name y py) C.env (.ref D)) _ _ _
  refine Wp.mono (As.name G hy _ _ _ z' s' _ (Nat.lt_of_lt_of_le h0 ht) S'.all r) fun _ s2 ht2 ⟨z2, g2, S2, sm2⟩ => ?_
  obtain ⟨oL, es, ep, e1, q1⟩ := F
  have kL2 : allBut C cs s'.heap L = some oL := allBut_of ne (fun p hp => nc p hp) e1
  have e2 := S2.keep _ _ kL2
  have zL2 : z2 L = none := by
    cases q : z2 L with
    | none => rfl
    | some o => rcases g2.2 _ _ q with r | r
                · rw [zL] at r; cases r
                · rw [kL2] at r; cases r
  refine ⟨m, ⟨oL, es, ep, e2, q1⟩, fun h' hs' => ?_⟩
  exact ⟨z2, .next _ cs, g.trans (g2.back S'.kall), ((S2.back S'.kall).offL hs' zL2 kL ne nc), k, (sm.trans sm2).trans ⟨rfl, rfl⟩⟩
end
end Mine
end

section
open PySem PySem.W PySem.Calls PyProof.Rows PySem.Builtin.Str PySem.SeqAt
set_option maxRecDepth 100000
namespace Mine
set_option linter.unusedVariables false
/-- pairs with their data -/
inductive PsRep (P : Params) (z : PH) : List (Str × Value) → List (List Nat × D) → Prop
  | nil : PsRep P z [] []
  | cons {k : Str} {v : Value} {ps : List (Str × Value)} {d : D} {kvs : List (List Nat × D)} : Rep P z v d → PsRep P z ps kvs → PsRep P z ((k, v) :: ps) ((k.cps.toList, d) :: kvs)
theorem PsRep.keys {P : Params} {z : PH} : ∀ {ps : List (Str × Value)} {kvs : List (List Nat × D)}, PsRep P z ps kvs → (ps.map (·.1)).map (·.cps.toList) = kvs.map (·.1)
  | _, _, .nil => rfl
  | _, _, .cons _ r => by simp only [List.map_cons, r.keys]
theorem PsRep.snoc {P : Params} {z : PH} {k : Str} {v : Value} {d : D} : ∀ {ps : List (Str × Value)} {kvs : List (List Nat × D)}, PsRep P z ps kvs → Rep P z v d → PsRep P z (ps ++ [(k, v)]) (kvs ++ [(k.cps.toList, d)])
  | _, _, .nil, h => .cons h .nil
  | _, _, .cons a r, h => .cons a (r.snoc h)
theorem nodup_keys {xs : List Str} (h : (xs.map (·.cps.toList)).Nodup) : xs.Nodup := List.Pairwise.of_map (fun x : Str => x.cps.toList) (fun a b h e => h (by rw [e])) h
theorem nodup_cps {xs : List Str} (h : xs.Nodup) : (xs.map (·.cps.toList)).Nodup := List.Pairwise.map (fun x : Str => x.cps.toList) (fun a b h e => h (str_ext e)) h
section
variable {C : Cx} {ρ : Loc} {cs : Own} {ss : List Stmt} {Φ : Out → Prop}
theorem RepKv.ps {z : PH} : ∀ {es : List DictEntry} {kvs : List (List Nat × D)}, RepKv C.P z es kvs → ∃ ps : List (Str × Value), Pairs (strKind C.prog C.w) es ps ∧ PsRep C.P z ps kvs ∧ (∀ e ∈ es, ∃ k, (strKind C.prog C.w).is k e.key = true ∧ e.hash = (strKind C.prog C.w).hash k)
  | _, _, .nil => ⟨[], .nil, .nil, fun e he => nomatch he⟩
  | _, _, .cons (k := k) (t := t) (v := v) h r => by
    obtain ⟨ps, a, b, c⟩ := RepKv.ps r
    refine ⟨(k, v) :: ps, .cons (strKind_is _ _ k t) rfl a, .cons h b, fun e he => ?_⟩
    rcases List.mem_cons.mp he with rfl | he
    · exact ⟨k, strKind_is _ _ k t, rfl⟩
    · exact c e he
theorem RepKv.of {z : PH} {es : List DictEntry} {ps : List (Str × Value)} {kvs : List (List Nat × D)} (hp : Pairs (strKind C.prog C.w) es ps) (hr : PsRep C.P z ps kvs) (hh : ∀ e ∈ es, ∃ k, (strKind C.prog C.w).is k e.key = true ∧ e.hash = (strKind C.prog C.w).hash k) : RepKv C.P z es kvs := by
  induction hp generalizing kvs with
  | nil => cases hr; exact .nil
  | @cons e kv es ps h1 h2 r ih =>
    cases hr with
    | @cons k v _ d kvs hv rs =>
      obtain ⟨h, key, val⟩ := e
      obtain ⟨t, rfl⟩ := Value.isStrOf_shape h1
      obtain ⟨k', a, b⟩ := hh _ (.head _)
      have a2 : Value.isStrOf k' (.str k t) = true := a
      obtain ⟨t', e'⟩ := Value.isStrOf_shape a2
      injection e' with e1 e2
      subst e1
      simp only at h2 b
      subst h2
      have : h = PyData.keyHash C.P k := b
      subst this
      exact .cons hv (ih rs fun e he => hh e (.tail _ he))
theorem cell_dictOf {z : PH} {o : Obj} {kvs : List (List Nat × D)} {h : Heap} {a : Addr} (ho : h.get? a = some o) (c : CellIs C.P z o (.dct kvs)) : ∃ ps, h.DictOf (strKind C.prog C.w) a ps ∧ PsRep C.P z ps kvs := by
  obtain ⟨es, n, h1, h2, r, hn⟩ := c
  obtain ⟨ps, a, b, c⟩ := RepKv.ps (C := C) r
  exact ⟨ps, ⟨o, es, n, ho, h1, h2, fun e he => c e (by simpa using he), a, nodup_keys (by rw [b.keys]; exact hn)⟩, b⟩
theorem dictOf_cell {z : PH} {ps : List (Str × Value)} {kvs : List (List Nat × D)} {h : Heap} {a : Addr} (d : h.DictOf (strKind C.prog C.w) a ps) (r : PsRep C.P z ps kvs) : ∃ o, h.get? a = some o ∧ CellIs C.P z o (.dct kvs) := by
  obtain ⟨o, es, n, ho, h1, h2, hk, hp, hn⟩ := d
  exact ⟨o, ho, es, n, h1, h2, RepKv.of hp r fun e he => hk e (by simpa using he), by rw [← r.keys]; exact nodup_cps hn⟩
theorem new_sys (G : Gd C) {z : PH} {h : Heap} (hb : BZ C z) (hz : z.inH h) : (h.objs.size == sysModules) = false := by
  obtain ⟨a, o, ha, ho⟩ := G.sm
  have := Heap.lt_size (hz _ _ (hb _ _ ho))
  rw [beq_eq_false_iff_ne]
  exact Nat.ne_of_gt (Nat.lt_of_le_of_lt ha this)

/-! a display of literals -/
inductive LitKV : List (Option Expr) → List Expr → List (Str × Str) → Prop
  | nil : LitKV [] [] []
  | cons {k v : Str} {n m : Nat} {p q : Pos} {ks : List (Option Expr)} {vs : List Expr} {kvs : List (Str × Str)} : LitKV ks vs kvs → LitKV (some (.Constant (.str k) n p) :: ks) (.Constant (.str v) m q :: vs) ((k, v) :: kvs)
theorem LitKV.shape {ks : List (Option Expr)} {vs : List Expr} {kvs : List (Str × Str)} (h : LitKV ks vs kvs) : ks.all (·.isSome) = true ∧ ks.length = vs.length ∧ ks.length = kvs.length := by
  induction h with
  | nil => exact ⟨rfl, rfl, rfl⟩
  | cons _ ih => exact ⟨by simp [ih.1], by simp [ih.2.1], by simp [ih.2.2]⟩
theorem LitKV.run {P : Params} {z : PH} {ks : List (Option Expr)} {vs : List Expr} {kvs : List (Str × Str)} (h : LitKV ks vs kvs) {A : Around} {E : Value → Shared → Prop} {env : Env} {pos : Pos} : ∀ (s : Shared) (Q : List (Value × Value) → Shared → Prop),
    (∀ ws ps tk, Carries (strKind C.prog C.w) ws ps → ps.map (·.1) = kvs.map (·.1) → PsRep P z ps (kvs.map fun p => (p.1.cps.toList, .str p.2.cps.toList)) → Q ws { s with toks := tk }) → wpAny (model C.prog C.w) A (evalPairs (pairTrees ks vs env pos)) Q E s := by
  induction h with
  | nil => exact fun s Q h => pairTrees_nil_walk (h [] [] s.toks trivial rfl .nil)
  | @cons k v n m p q ks vs kvs r ih =>
    intro s Q h
    refine pairTrees_cons_walk (wpAny_Constant_str (wpAny_Constant_str (ih _ _ fun ws ps tk hc hk hr => ?_)))
    exact h _ ((k, .str v _) :: ps) tk ⟨strKind_is _ _ k _, rfl, hc⟩ (by rw [List.map_cons, hk]; rfl) (.cons (.str v _) hr)
theorem Ev.dictLit (G : Gd C) {ks : List (Option Expr)} {vs : List Expr} {p : Pos} {kvs : List (Str × Str)} (h : LitKV ks vs kvs) (h0 : ks ≠ []) (hlen : kvs.length ≤ 15) (hn : (kvs.map (·.1)).Nodup) :
    Ev C ρ cs (.Dict ks vs p) (.dict (kvs.map fun p => (p.1.cps.toList, .str p.2.cps.toList))) := fun z => by
  obtain ⟨s1, s2, s3⟩ := h.shape
  refine Tr.op fun s t0 hb hz => ?_
  refine wpAny_Dict_walk (knd := strKind C.prog C.w) s1 s2 h0 (by rw [s3]; exact hlen) (h.run (P := C.P) (z := z) _ _ fun ws ps tk hc hk hr => ⟨ps, hc, ⟨_, #[], 0, Heap.get?_push_size _ rfl, ⟨rfl, rfl, rfl⟩, rfl, fun e he => by simp at he, .nil, List.nodup_nil⟩, fun h' hd hs => ?_⟩)
  have hnd : (ps.map (·.1)).Nodup := by rw [hk]; exact hn
  rw [merged_nil_of_nodup _ hnd] at hd
  obtain ⟨o, ho, es, n, a, b, c, e⟩ := dictOf_cell hd hr
  have hk1 : HK s.heap h' := fun x ob e => hs.extBut _ _ (Nat.ne_of_lt (Heap.lt_size e)) (Heap.get?_push_of_some _ e)
  have zn := inH_none hz (get_size s.heap)
  have ht : s.heap.objs.size = s.heap.objs.size := rfl
  refine ⟨hk1, ⟨z.add s.heap.objs.size o, PH.le_add zn, fun x ob e => ?_, fun x ob e => ?_, .dict (PH.add_at _ _ _) (new_sys G hb hz) a b (c.mono (PH.le_add zn)) e⟩, ⟨rfl, rfl⟩⟩
  · unfold PH.add at e; split at e
    · rename_i q; subst q; exact .inr (get_size _)
    · exact .inl e
  · unfold PH.add at e; split at e
    · rename_i q; subst q; cases e; exact ho
    · exact hk1 _ _ (hz _ _ e)
end
end Mine
end

section
open PySem PySem.W PySem.Calls PyProof.Rows PySem.Builtin.Str PySem.SeqAt
set_option maxRecDepth 100000
namespace Mine
set_option linter.unusedVariables false
theorem compTurn_dict1 (kx vx target iter : Expr) (scope : Scope) (pos : Pos) (it : Value) (D : Addr) (env : Env) :
    compTurn (.DictComp kx vx [⟨target, iter, [], 0⟩] scope pos) 0 it (.ref D) env = (standAt iter.pos >>= fun _ => pyNext it >>= fun r => match r with
      | none => pure (.done .next)
      | some v => letOwnedTupleGo target it v >>= fun _ => assign target env v >>= fun _ =>
        (eval kx env >>= fun kv => holding [kv] (eval vx env) >>= fun vv => standAt { kx.pos with endLine := vx.pos.endLine, endCol := vx.pos.endCol } >>= fun _ => holding [kv, vv] (dictSet D kv vv)) >>= fun _ =>
          again (.compLoop (.DictComp kx vx [⟨target, iter, [], 0⟩] scope pos) 0 it (.ref D) env)) := by rfl
section
variable {C : Cx} {ρ : Loc} {cs : Own} {ss : List Stmt} {Φ : Out → Prop}
theorem dset_cell {k z : PH} {s : Shared} {a : Addr} {kvs : List (List Nat × D)} {kv v : Value} {x : List Nat} {d : D} {Q : Unit → Shared → Prop} (S : St C k z ρ ((a, .dct kvs) :: cs) s.heap) (rk : Rep C.P z kv (.str x)) (r : Rep C.P z v d) (hf : x ∉ kvs.map (·.1)) (hsz : kvs.length ≤ 16777216)
    (hQ : ∀ h', St C k z ρ ((a, .dct (kvs ++ [(x, d)])) :: cs) h' → Q () { s with heap := h', toks := s.toks + 1 }) : Wp C (dictSet a kv v) Q s := by
  cases rk using Rep.strE with
  | str y t =>
    obtain ⟨_, _, _, o, ho, ci⟩ := S.cell (a, .dct kvs) (.head _)
    obtain ⟨ps, hd, hr⟩ := cell_dictOf (C := C) ho ci
    have hlen : ps.length = kvs.length := by have := congrArg List.length hr.keys; simpa using this
    refine wpAny_dictSet_pairs (strKind_is C.prog C.w y t) hd (fun h' hd' hs => ?_) (by rw [hlen]; exact fits hsz)
    have hst : stored ps y v = ps ++ [(y, v)] := by
      unfold stored
      rw [if_neg]
      intro q
      rw [List.any_eq_true] at q
      obtain ⟨p, hp, e⟩ := q
      refine hf ?_
      rw [← hr.keys, List.map_map]
      have e : p.1 = y := of_decide_eq_true e
      exact List.mem_map.mpr ⟨p, hp, by simp [e]⟩
    rw [hst] at hd'
    obtain ⟨o', ho', ci'⟩ := dictOf_cell (C := C) hd' (hr.snoc r)
    exact hQ h' (S.setCell hs ho' ci')
theorem St.freezeD {k z : PH} {h : Heap} {a : Addr} {kvs : List (List Nat × D)} (S : St C k z ρ ((a, .dct kvs) :: cs) h) (hsys : (a == sysModules) = false) : ∃ z', Grow k z z' ∧ St C k z' ρ cs h ∧ Rep C.P z' (.ref a) (.dict kvs) := by
  obtain ⟨za, ka, aL, o, ho, es, n, h1, h2, rs, hn⟩ := S.cell (a, .dct kvs) (.head _)
  have l : z.le (z.add a o) := PH.le_add za
  have at' : ∀ {b : Addr}, b ≠ a → z.add a o b = z b := fun q => if_neg q
  refine ⟨_, ⟨l, fun b o e => ?_⟩, ?_, .dict (PH.add_at _ _ _) hsys h1 h2 (rs.mono l) hn⟩
  · by_cases q : b = a
    · subst q; exact .inr ka
    · rw [at' q] at e; exact .inl e
  · obtain ⟨m, F, hm⟩ := S.fr
    refine ⟨⟨m, F, fun x d e => let ⟨v, p, q⟩ := hm x d e; ⟨v, p, q.mono l⟩⟩, S.base.mono l, fun b o e => ?_, S.keep, by rw [at' (Ne.symm aL)]; exact S.zL, S.kL, fun p hp => ?_, (List.nodup_cons.mp S.nodup).2⟩
    · by_cases q : b = a
      · subst q; rw [PH.add_at] at e; cases e; exact ho
      · rw [at' q] at e; exact S.low _ _ e
    · obtain ⟨x, y, w, o', e, r⟩ := S.cell p (.tail _ hp)
      have q : p.1 ≠ a := fun q => (List.nodup_cons.mp S.nodup).1 (List.mem_map.mpr ⟨p, hp, q⟩)
      exact ⟨by rw [at' q]; exact x, y, w, o', e, r.mono l⟩
theorem dcompLoop {kx vx iter : Expr} {x : Str} {px pos : Pos} {scope : Scope} (G : Gd C) (hx : C.env.kindOf x = some .local) {I a : Addr} {wr fp : List Addr} {z0 : PH} {all : List D} {T : Nat → Heap → Prop} (F : D → List Nat × D) (hnd : (all.map fun d => (F d).1).Nodup) (hsz : all.length ≤ 16777216)
    (W : Itr C (.Name x px) I wr fp z0 all T) (he : ∀ d ∈ all, ∀ cs', cs ⊆ cs' → Ev C [(x, d)] cs' kx (.str (F d).1) ∧ Ev C [(x, d)] cs' vx (F d).2) :
    ∀ (ds : List D) (i : Nat) (done : List (List Nat × D)) (k z : PH) (s : Shared), all.drop i = ds → i ≤ all.length → done = (all.take i).map F → 0 < s.toks → St C k z [] ((a, .dct done) :: cs) s.heap → z0.le z → T i s.heap → Off C k z ((a, .dct done) :: cs) wr →
      codeAny C.M C.A (.compLoop (.DictComp kx vx [⟨.Name x px, iter, [], 0⟩] scope pos) 0 (.ref I) (.ref a) C.env) (fun r s' => r = .ok .next ∧ ∃ z', Grow k z z' ∧ St C k z' [] ((a, .dct (done ++ ds.map F)) :: cs) s'.heap ∧ Same s s') s
  | [], i, done, k, z, s, hd, hi, hdl, h0, S, hz0, hT, O => by
    have hi' : i = all.length := by
      have := congrArg List.length hd
      simp only [List.length_drop, List.length_nil] at this; (first | lia | omega)
    subst hi'
    refine codeAny_of_tree ?_
    have hu : C.A.under (.compLoop (.DictComp kx vx [⟨.Name x px, iter, [], 0⟩] scope pos) 0 (.ref I) (.ref a) C.env) = C.A := Around.under_of_weight rfl rfl
    rw [hu]
    show wpAny _ C.A ((compTurn (.DictComp kx vx [⟨.Name x px, iter, [], 0⟩] scope pos) 0 (.ref I) (.ref a) C.env).onRaise (fun x => do noteFrame x C.env; theTreesLotGoes x)) _ _ s
    refine wpAny_onRaise (wpAny_mono (E := fun _ _ => False) ?_ (fun _ _ q => q) fun _ _ q => q.elim)
    rw [compTurn_dict1]
    refine wpAny_bind (wpAny_standAt (wpAny_bind ?_))
    refine W.done s _ hT fun h' tk hk => ?_
    have S' := S.wr O hk (PH.le.refl z) FreshZ.refl fun b o e => hk b o (fun q => by rw [O.z _ q] at e; cases e) (S.low b o e)
    exact wpAny_pure ⟨rfl, z, .refl, by simpa using S', ⟨rfl, rfl⟩⟩
  | d :: ds, i, done, k, z, s, hd, hi, hdl, h0, S, hz0, hT, O => by
    have hit : all[i]? = some d := by
      have := congrArg List.head? hd
      rwa [List.head?_drop, List.head?_cons] at this
    have hlt : i < all.length := (List.getElem?_eq_some_iff.mp hit).1
    have hd' : all.drop (i + 1) = ds := by
      have := congrArg List.tail hd
      rwa [List.tail_drop, List.tail_cons] at this
    refine codeAny_of_tree ?_
    have hu : C.A.under (.compLoop (.DictComp kx vx [⟨.Name x px, iter, [], 0⟩] scope pos) 0 (.ref I) (.ref a) C.env) = C.A := Around.under_of_weight rfl rfl
    rw [hu]
    show wpAny _ C.A ((compTurn (.DictComp kx vx [⟨.Name x px, iter, [], 0⟩] scope pos) 0 (.ref I) (.ref a) C.env).onRaise (fun x => do noteFrame x C.env; theTreesLotGoes x)) _ _ s
    refine wpAny_onRaise (wpAny_mono (E := fun _ _ => False) ?_ (fun _ _ q => q) fun _ _ q => q.elim)
    rw [compTurn_dict1]
    refine wpAny_bind (wpAny_standAt (wpAny_bind ?_))
    refine Wp.mono (W.item i d hit s z (fun v s'' => s.toks ≤ s''.toks → wpAny C.M C.A (assign (.Name x px) C.env v >>= fun _ =>
        (eval kx C.env >>= fun kv => holding [kv] (eval vx C.env) >>= fun vv => standAt { kx.pos with endLine := vx.pos.endLine, endCol := vx.pos.endCol } >>= fun _ => holding [kv, vv] (dictSet a kv vv)) >>= fun _ =>
          again (.compLoop (.DictComp kx vx [⟨.Name x px, iter, [], 0⟩] scope pos) 0 (.ref I) (.ref a) C.env))
        (fun fin s' => match fin with | .done f => (fun r s' => r = .ok .next ∧ ∃ z', Grow k z z' ∧ St C k z' [] ((a, .dct (done ++ (d :: ds).map F)) :: cs) s'.heap ∧ Same s s') (Except.ok f : Result) s' | .again c' => c'.quiet = true ∧ codeAny C.M C.A c' (fun r s' => r = .ok .next ∧ ∃ z', Grow k z z' ∧ St C k z' [] ((a, .dct (done ++ (d :: ds).map F)) :: cs) s'.heap ∧ Same s s') s') (fun _ _ => False) s'') hz0 S.low O.z hT ?_) fun r s' ht q => ?_
    · intro v z2 h' tk l2 f2 i2 r2 hT' hk ht
      have S2 := S.wr O hk l2 f2 i2
      have hex := W.ex _ _ hT'
      have O2 : Off C k z2 ((a, .dct done) :: cs) wr := ⟨(fun b hb => by
        cases e : z2 b with
        | none => rfl
        | some o => rcases f2 b o e with r | r
                    · rw [O.z b hb] at r; cases r
                    · obtain ⟨o', e'⟩ := W.ex _ _ hT b (W.sub b hb); rw [e'] at r; cases r), O.k, O.L, O.c⟩
      have g2 : Grow k z z2 := .of S.keep l2 f2
      refine wpAny_bind (Wp.mono (As.name G hx _ _ _ z2 { s with heap := h', toks := tk } v (Nat.lt_of_lt_of_le h0 ht) S2.all r2) fun _ s3 ht3 ⟨z3, g3, S3, sm3⟩ => ?_)
      obtain ⟨he1, he2⟩ := he d (List.mem_of_getElem? hit) ((a, .dct done) :: cs) (List.subset_cons_self _ _)
      refine wpAny_bind (wpAny_bind (Wp.mono (he1 z3 _ s3 (Nat.lt_of_lt_of_le h0 (Nat.le_trans ht ht3)) S3) fun y s3' ht3' ⟨z3', g3', S3', r3', sm3'⟩ => ?_))
      refine wpAny_bind (wpAny_holding (Wp.mono (he2 z3' _ s3' (Nat.lt_of_lt_of_le h0 (Nat.le_trans ht (Nat.le_trans ht3 ht3'))) S3') fun y2 s4 ht4 ⟨z4, g4', S4, r4, sm4'⟩ => ?_))
      have g4 := g3'.trans g4'
      have sm4 := sm3'.trans sm4'
      have hfresh : (F d).1 ∉ done.map (·.1) := by
        rw [hdl, List.map_map]
        have e1 : all = all.take i ++ d :: ds := by rw [← hd, List.take_append_drop]
        rw [e1, List.map_append, List.nodup_append] at hnd
        intro hm
        exact hnd.2.2 _ hm _ (List.mem_cons_self ..) rfl
      refine wpAny_bind (wpAny_standAt (wpAny_holding (dset_cell S4 (r3'.mono g4'.1) r4 hfresh (by rw [hdl]; simp; (first | lia | omega)) fun h5 S5 => wpAny_pure ?_)))
      have g : Grow k z z4 := g2.trans ((g3.trans g4).back S2.kall)
      have smAll : Same s s4 := Same.trans (a := s) (b := s3) ⟨sm3.1, sm3.2⟩ sm4
      have h04 : 0 < s4.toks := Nat.lt_of_lt_of_le h0 (Nat.le_trans ht (Nat.le_trans ht3 (Nat.le_trans ht3' ht4)))
      refine ⟨rfl, codeAny_mono (dcompLoop (scope := scope) G hx F hnd hsz W he ds (i + 1) (done ++ [F d]) k z4 { s4 with heap := h5, toks := s4.toks + 1 } hd' hlt (by rw [hdl, List.take_add_one, hit]; simp) (Nat.succ_pos _) ((S5.back (k := k) fun b o e => ?_).nil) (hz0.trans g.1) ?_ ?_) fun r s5 q => ?_⟩
      · exact S2.kall b o e
      · refine W.frame _ _ _ hT' fun b hb o e => ?_
        rcases W.fpz b hb with hw | ⟨o', e'⟩
        · exact S5.keep _ _ (allBut_of (O2.L b hw) (O2.c b hw) e)
        · have e2 := l2 _ _ (hz0 _ _ e')
          have := i2 _ _ e2
          rw [e] at this; cases this
          exact S5.low _ _ ((g3.trans g4).1 _ _ e2)
      · exact O2.keep (fun b hb => hex b (W.sub b hb)) (g3.trans g4) S5
      · obtain ⟨e, z5, g5, S5', sm5⟩ := q
        refine ⟨e, z5, g.trans g5, by simpa using S5', smAll.trans (a := s) (b := s4) ⟨sm5.1, sm5.2⟩⟩
    · obtain ⟨v, rfl, q⟩ := q
      refine wpAny_bind (Wp.mono q fun _ s'' ht2 q => q (Nat.le_trans ht ht2))
/-- what a dict comprehension gives -/
theorem dcomp_core (G : Gd C) {kx vx iter : Expr} {x : Str} {px pos ipos : Pos} {scope : Scope} {cl : List (Str × Addr)} {d : D} {all : List D} (F : D → List Nat × D) (hnd : (all.map fun d => (F d).1).Nodup) (hsz : all.length ≤ 16777216) {use : Option (Value → Sem Unit)}
    (hi : Ev C ρ cs iter d) (hIt : ∀ z v, Rep C.P z v d → It C (.Name x px) v z all) (he : ∀ L, ∀ d ∈ all, ∀ cs', cs ⊆ cs' → Ev (C.comp scope cl L) [(x, d)] cs' kx (.str (F d).1) ∧ Ev (C.comp scope cl L) [(x, d)] cs' vx (F d).2)
    (hclos : closureFor scope C.env = pure cl) (hkind : scope.kind = .function) (hcell : ∀ y ∈ scope.names, y.2 ≠ .cell) (hnm : ∀ y ∈ scope.names, y.2 = .local → scope.names.lookup y.1 = some .local) (hx : scope.names.lookup x = some .local)
    (hs : ∀ x, foldedSetIterable iter C.env x = pure x) {k z : PH} {s : Shared} (h0 : 0 < s.toks) (S : St C k z ρ cs s.heap) {Q : Value → Shared → Prop}
    (hQ : ∀ D z' (s' : Shared) L m, s.toks ≤ s'.toks → Grow k z z' → St C k z' ρ cs s'.heap → s'.heap.Ns L m → z' L = none → k L = none → L ≠ C.L → (∀ p ∈ cs, p.1 ≠ L) → Rep C.P z' (.ref D) (.dict (all.map F)) → Same s s' → compPost C.M C.A (fun _ _ => False) use Q (.ref D) L (.ok .next) s') :
    Wp C (comprehension (.DictComp kx vx [⟨.Name x px, iter, [], 0⟩] scope pos) scope C.env ipos PySem.newDict false (eval iter C.env) use) Q s := by
  refine wpAny_comprehension_free rfl hs hclos hkind hnm (Wp.mono (hi z k s h0 S) fun v s1 ht1 ⟨z1, g1, S1, r1, sm1⟩ => ?_)
  refine Wp.mono (hIt z1 v r1 s1 S1.base S1.low) fun it s2 ht2 q => ?_
  obtain ⟨I, wr, fp, T, rfl, WI, hT, self, hk2, hw, sm2⟩ := q
  have hwx : ∀ b ∈ wr, ∃ o, s2.heap.get? b = some o := fun b hb => WI.ex _ _ hT b (WI.sub b hb)
  refine wpAny_newObj_type (wpAny_newFunctionEnv hcell (by intro y hy; simp at hy) (fun h₁ hns₁ hsb₁ => ?_) hkind)
  dsimp only at hns₁ hsb₁ ⊢
  generalize hH3 : s2.heap.push { cls := .type "dict", data := .dict #[] } = H3 at hns₁ hsb₁ ⊢
  have hL : H3.objs.size = s2.heap.objs.size + 1 := by rw [← hH3, Heap.size_push]
  have hget3 : H3.get? s2.heap.objs.size = some { cls := .type "dict", data := .dict #[] } := by rw [← hH3]; exact Heap.get?_push_size _ rfl
  have old2 : HK s1.heap H3 := fun b o e => by rw [← hH3]; exact Heap.get?_push_of_some _ (hk2 _ _ e)
  have lt : ∀ {b o}, H3.get? b = some o → b ≠ H3.objs.size := fun e => Nat.ne_of_lt (Heap.lt_size e)
  have old3 : ∀ b o, H3.get? b = some o → h₁.get? b = some o := fun b o e => hsb₁.extBut _ _ (lt e) (Heap.get?_push_of_some _ e)
  have hDL : s2.heap.objs.size ≠ H3.objs.size := by (first | lia | omega)
  have n1 : s1.heap.get? s2.heap.objs.size = none := by
    cases q : s1.heap.get? s2.heap.objs.size with
    | none => rfl
    | some o => have := hk2 _ _ q; rw [get_size] at this; cases this
  have nL : s1.heap.get? H3.objs.size = none := by
    cases q : s1.heap.get? H3.objs.size with
    | none => rfl
    | some o => have := old2 _ _ q; rw [get_size] at this; cases this
  have k1 : ∀ b o, k b = some o → butCells cs s1.heap b = some o := fun b o e => by
    unfold butCells
    rw [if_neg]
    · exact S1.keep _ _ e
    · intro q
      obtain ⟨p, hp, rfl⟩ := List.mem_map.mp q
      obtain ⟨_, kn, _⟩ := S1.cell p hp
      rw [kn] at e; cases e
  have bsub : ∀ b o, butCells cs s1.heap b = some o → s1.heap.get? b = some o := fun b o e => by unfold butCells at e; split at e; cases e; exact e
  have bnone : ∀ b, s1.heap.get? b = none → butCells cs s1.heap b = none := fun b e => by unfold butCells; split <;> first | rfl | exact e
  -- the frame of the comprehension
  have S3 : St (C.comp scope cl H3.objs.size) (butCells cs s1.heap) z1 [] ((s2.heap.objs.size, .dct []) :: cs) h₁ := by
    refine ⟨⟨_, hns₁, fun x d e => (nomatch e)⟩, S1.base, fun b o e => old3 _ _ (old2 _ _ (S1.low _ _ e)), fun b o e => old3 _ _ (old2 _ _ (bsub _ _ e)), inH_none S1.low nL, bnone _ nL, fun p hp => ?_, ?_⟩
    · rcases List.mem_cons.mp hp with rfl | hp
      · exact ⟨inH_none S1.low n1, bnone _ n1, hDL, _, old3 _ _ hget3, #[], 0, ⟨rfl, rfl, rfl⟩, rfl, .nil, List.nodup_nil⟩
      · obtain ⟨a, b, c, o, e, ci⟩ := S1.cell p hp
        refine ⟨a, ?_, ?_, o, old3 _ _ (old2 _ _ e), ci⟩
        · unfold butCells; rw [if_pos (List.mem_map_of_mem hp)]
        · intro q
          have : s1.heap.get? H3.objs.size = some o := by rw [← e]; exact congrArg _ q.symm
          rw [nL] at this; cases this
    · rw [List.map_cons, List.nodup_cons]
      refine ⟨fun q => ?_, S1.nodup⟩
      obtain ⟨p, hp, e⟩ := List.mem_map.mp q
      obtain ⟨_, _, _, o', e', _⟩ := S1.cell p hp
      have e : p.1 = s2.heap.objs.size := e
      rw [e, n1] at e'; cases e'
  have O : Off (C.comp scope cl H3.objs.size) (butCells cs s1.heap) z1 ((s2.heap.objs.size, .dct []) :: cs) wr := by
    refine ⟨fun b hb => inH_none S1.low (hw b hb), fun b hb => bnone _ (hw b hb), fun b hb q => ?_, fun b hb p hp q => ?_⟩
    · obtain ⟨o, e⟩ := hwx b hb
      have : b < s2.heap.objs.size := Heap.lt_size e
      exact Nat.ne_of_lt (Nat.lt_succ_of_lt this) (Eq.trans (b := H3.objs.size) q hL)
    · rcases List.mem_cons.mp hp with rfl | hp
      · obtain ⟨o, e⟩ := hwx b hb
        have : b < s2.heap.objs.size := Heap.lt_size e
        exact Nat.ne_of_lt this (Eq.symm q)
      · obtain ⟨_, _, _, o', e', _⟩ := S1.cell p hp
        rw [q, hw b hb] at e'; cases e'
  have hT1 : T 0 h₁ := WI.frame _ _ _ hT fun b hb o e => old3 _ _ (by rw [← hH3]; exact Heap.get?_push_of_some _ e)
  have G' : Gd (C.comp scope cl H3.objs.size) := G.comp hkind
  have hx' : (C.comp scope cl H3.objs.size).env.kindOf x = some .local := lookup_relabel_local hx
  have hsys : (s2.heap.objs.size == sysModules) = false := new_sys G S1.base fun b o e => hk2 _ _ (S1.low _ _ e)
  have loop : ∀ s₃ : Shared, s₃ = { s2 with heap := h₁, toks := s2.toks + ([] : List (Str × Value)).length } →
      codeAny C.M C.A (.compLoop (.DictComp kx vx [⟨.Name x px, iter, [], 0⟩] scope pos) 0 (.ref I) (.ref s2.heap.objs.size) (compEnvC scope cl H3.objs.size C.env)) (compPost C.M C.A (fun _ _ => False) use Q (.ref s2.heap.objs.size) H3.objs.size) s₃ := by
    rintro s₃ rfl
    refine codeAny_mono (codeAny_toks_of (Nat.le_refl _) (dcompLoop (C := C.comp scope cl H3.objs.size) (iter := iter) (pos := pos) (scope := scope) (a := s2.heap.objs.size) (cs := cs) G' hx' F hnd hsz (WI.cast rfl rfl rfl) (he _) all 0 [] _ z1 _ rfl (Nat.zero_le _) rfl (Nat.lt_of_lt_of_le h0 (Nat.le_trans ht1 (Nat.le_trans ht2 (Nat.le_add_right _ _)))) S3 (PH.le.refl _) hT1 O)) fun r s5 q => ?_
    obtain ⟨tk5, rfl, z5, g5, S5, sm5⟩ := q
    obtain ⟨z6, g6, S6, r6⟩ := S5.freezeD hsys
    have g : Grow (butCells cs s1.heap) z1 z6 := g5.trans g6
    obtain ⟨m1, ⟨oL, es, ep, e1, q1⟩, hm1⟩ := S1.fr
    have cL : butCells cs s1.heap C.L = some oL := by
      unfold butCells
      rw [if_neg]
      · exact e1
      · intro q
        obtain ⟨p, hp, e⟩ := List.mem_map.mp q
        obtain ⟨_, _, c, _⟩ := S1.cell p hp
        exact c e
    have neL : H3.objs.size ≠ C.L := fun q => by rw [← q, nL] at e1; cases e1
    have zL6 : z6 C.L = none := by
      cases q : z6 C.L with
      | none => rfl
      | some o => rcases g.2 _ _ q with r | r
                  · rw [S1.zL] at r; cases r
                  · rw [cL] at r; cases r
    obtain ⟨m6, F6, _⟩ := S6.fr
    have kL : ∀ b, s1.heap.get? b = none → k b = none := fun b e => by
      cases q : k b with
      | none => rfl
      | some o => rw [S1.keep _ _ q] at e; cases e
    refine hQ s2.heap.objs.size z6 s5 H3.objs.size m6 (Nat.le_trans ht1 (Nat.le_trans ht2 (Nat.le_trans (Nat.le_add_right _ _) tk5))) (g1.trans (g.back k1)) ⟨⟨m1, ⟨oL, es, ep, S6.keep _ _ cL, q1⟩, fun x d e => let ⟨v, a, b⟩ := hm1 x d e; ⟨v, a, b.mono g.1⟩⟩, S6.base, S6.low, fun b o e => S6.keep _ _ (k1 _ _ e), zL6, S1.kL, fun p hp => ?_, S1.nodup⟩ F6 S6.zL (kL _ nL) neL (fun p hp => (S6.cell p hp).2.2.1) (by simpa using r6) ((sm1.trans sm2).trans ⟨sm5.1, sm5.2⟩)
    obtain ⟨a, b, c, o, e, ci⟩ := S6.cell p hp
    obtain ⟨_, kn, nc, _⟩ := S1.cell p hp
    exact ⟨a, kn, nc, o, e, ci⟩
  exact codeAny_compStart_dict (loop _ rfl) (wpAny_mono (self 0 _ _ hT1 (loop _ rfl)) (fun _ _ q => q) fun _ _ f => f.elim)
theorem Ev.dcomp (G : Gd C) {kx vx iter : Expr} {x : Str} {px pos : Pos} {scope : Scope} {cl : List (Str × Addr)} {d : D} {all : List D} (F : D → List Nat × D) (hnd : (all.map fun d => (F d).1).Nodup) (hsz : all.length ≤ 16777216)
    (hi : Ev C ρ cs iter d) (hIt : ∀ z v, Rep C.P z v d → It C (.Name x px) v z all) (he : ∀ L, ∀ d ∈ all, ∀ cs', cs ⊆ cs' → Ev (C.comp scope cl L) [(x, d)] cs' kx (.str (F d).1) ∧ Ev (C.comp scope cl L) [(x, d)] cs' vx (F d).2)
    (hclos : closureFor scope C.env = pure cl) (hkind : scope.kind = .function) (hcell : ∀ y ∈ scope.names, y.2 ≠ .cell) (hnm : ∀ y ∈ scope.names, y.2 = .local → scope.names.lookup y.1 = some .local) (hx : scope.names.lookup x = some .local)
    (hs : ∀ x, foldedSetIterable iter C.env x = pure x := by intro _; rfl) : Ev C ρ cs (.DictComp kx vx [⟨.Name x px, iter, [], 0⟩] scope pos) (.dict (all.map F)) := by
  intro z k s h0 S
  show Wp C (comprehension (.DictComp kx vx [⟨.Name x px, iter, [], 0⟩] scope pos) scope C.env (firstIterPos [⟨.Name x px, iter, [], 0⟩] pos) PySem.newDict false (eval iter C.env) none) _ s
  refine dcomp_core (use := none) G F hnd hsz hi hIt he hclos hkind hcell hnm hx hs h0 S ?_
  intro D z' s' L m ht g S' F zL kL ne nc r sm
  exact ⟨m, F, fun h' hs' => ⟨z', g, S'.offL hs' zL kL ne nc, r, sm.trans ⟨rfl, rfl⟩⟩⟩
end
end Mine
end

section
open PySem PySem.W PySem.Calls PyProof.Rows PySem.Builtin.Str PySem.SeqAt
set_option maxRecDepth 100000
namespace Mine
set_option linter.unusedVariables false
noncomputable def dFspath : {b // PySem.Challenge.pw_il0088_01.theDef "fspath" = some b} := ⟨_, rfl⟩
noncomputable def dGetSepP : {b // PySem.Challenge.pw_il0088_01.theDef "_get_sep" = some b} := ⟨_, rfl⟩
noncomputable def dJoin : {b // PySem.Challenge.pw_il0088_01.theDef "join" = some b} := ⟨_, rfl⟩
noncomputable def dSplit : {b // PySem.Challenge.pw_il0088_01.theDef "split" = some b} := ⟨_, rfl⟩
noncomputable def dSplitextP : {b // PySem.Challenge.pw_il0088_01.theDef "_splitext" = some b} := ⟨_, rfl⟩
noncomputable def dSplitext : {b // PySem.Challenge.pw_il0088_01.theDef "splitext" = some b} := ⟨_, rfl⟩
noncomputable def dSplitroot : {b // PySem.Challenge.pw_il0088_01.theDef "splitroot" = some b} := ⟨_, rfl⟩
noncomputable def dNormpath : {b // PySem.Challenge.pw_il0088_01.theDef "normpath" = some b} := ⟨_, rfl⟩
noncomputable def dTranslate : {b // PySem.Challenge.pw_il0088_01.theDef "translate" = some b} := ⟨_, rfl⟩
noncomputable def dEscape : {b // PySem.Challenge.pw_il0088_01.theDef "escape" = some b} := ⟨_, rfl⟩
noncomputable def dTranslateP : {b // PySem.Challenge.pw_il0088_01.theDef "_translate" = some b} := ⟨_, rfl⟩
noncomputable def dJoinTranslatedPartsP : {b // PySem.Challenge.pw_il0088_01.theDef "_join_translated_parts" = some b} := ⟨_, rfl⟩
noncomputable def dEscapeCdataP : {b // PySem.Challenge.pw_il0088_01.theDef "_escape_cdata" = some b} := ⟨_, rfl⟩
noncomputable def dEscapeAttribP : {b // PySem.Challenge.pw_il0088_01.theDef "_escape_attrib" = some b} := ⟨_, rfl⟩
noncomputable def dEscapeAttribHtmlP : {b // PySem.Challenge.pw_il0088_01.theDef "_escape_attrib_html" = some b} := ⟨_, rfl⟩
noncomputable def dEscapeCdataC14nP : {b // PySem.Challenge.pw_il0088_01.theDef "_escape_cdata_c14n" = some b} := ⟨_, rfl⟩
noncomputable def dEscapeAttribC14nP : {b // PySem.Challenge.pw_il0088_01.theDef "_escape_attrib_c14n" = some b} := ⟨_, rfl⟩
noncomputable def dLawDrawnP : {b // PySem.Challenge.pw_il0088_01.theDef "_law_drawn" = some b} := ⟨_, rfl⟩
noncomputable def dLawSpelledP : {b // PySem.Challenge.pw_il0088_01.theDef "_law_spelled" = some b} := ⟨_, rfl⟩
noncomputable def dLawTablesP : {b // PySem.Challenge.pw_il0088_01.theDef "_law_tables" = some b} := ⟨_, rfl⟩
noncomputable def dLawBarredP : {b // PySem.Challenge.pw_il0088_01.theDef "_law_barred" = some b} := ⟨_, rfl⟩
noncomputable def dLawRunsP : {b // PySem.Challenge.pw_il0088_01.theDef "_law_runs" = some b} := ⟨_, rfl⟩
noncomputable def dLawBareP : {b // PySem.Challenge.pw_il0088_01.theDef "_law_bare" = some b} := ⟨_, rfl⟩
noncomputable def dLawReadP : {b // PySem.Challenge.pw_il0088_01.theDef "_law_read" = some b} := ⟨_, rfl⟩
noncomputable def dLawAgreesP : {b // PySem.Challenge.pw_il0088_01.theDef "_law_agrees" = some b} := ⟨_, rfl⟩
noncomputable def dLaw : {b // PySem.Challenge.pw_il0088_01.theDef "law" = some b} := ⟨_, rfl⟩
/-- what stands at the top -/
structure Kn (C : Cx) : Prop where
  type : Glo C "type" (.type "type")
  issubclass : Glo C "issubclass" (.builtin "issubclass")
  str : Glo C "str" (.type "str")
  bytes : Glo C "bytes" (.type "bytes")
  isinstance : Glo C "isinstance" (.builtin "isinstance")
  len : Glo C "len" (.builtin "len")
  zip : Glo C "zip" (.type "zip")
  object : Glo C "object" (.type "object")
  dFspath : HasDef C.B C.mg "fspath" dFspath.1
  dGetSepP : HasDef C.B C.mg "_get_sep" dGetSepP.1
  dJoin : HasDef C.B C.mg "join" dJoin.1
  dSplit : HasDef C.B C.mg "split" dSplit.1
  dSplitextP : HasDef C.B C.mg "_splitext" dSplitextP.1
  dSplitext : HasDef C.B C.mg "splitext" dSplitext.1
  dSplitroot : HasDef C.B C.mg "splitroot" dSplitroot.1
  dNormpath : HasDef C.B C.mg "normpath" dNormpath.1
  dTranslate : HasDef C.B C.mg "translate" dTranslate.1
  dEscape : HasDef C.B C.mg "escape" dEscape.1
  dTranslateP : HasDef C.B C.mg "_translate" dTranslateP.1
  dJoinTranslatedPartsP : HasDef C.B C.mg "_join_translated_parts" dJoinTranslatedPartsP.1
  dEscapeCdataP : HasDef C.B C.mg "_escape_cdata" dEscapeCdataP.1
  dEscapeAttribP : HasDef C.B C.mg "_escape_attrib" dEscapeAttribP.1
  dEscapeAttribHtmlP : HasDef C.B C.mg "_escape_attrib_html" dEscapeAttribHtmlP.1
  dEscapeCdataC14nP : HasDef C.B C.mg "_escape_cdata_c14n" dEscapeCdataC14nP.1
  dEscapeAttribC14nP : HasDef C.B C.mg "_escape_attrib_c14n" dEscapeAttribC14nP.1
  dLawDrawnP : HasDef C.B C.mg "_law_drawn" dLawDrawnP.1
  dLawSpelledP : HasDef C.B C.mg "_law_spelled" dLawSpelledP.1
  dLawTablesP : HasDef C.B C.mg "_law_tables" dLawTablesP.1
  dLawBarredP : HasDef C.B C.mg "_law_barred" dLawBarredP.1
  dLawRunsP : HasDef C.B C.mg "_law_runs" dLawRunsP.1
  dLawBareP : HasDef C.B C.mg "_law_bare" dLawBareP.1
  dLawReadP : HasDef C.B C.mg "_law_read" dLawReadP.1
  dLawAgreesP : HasDef C.B C.mg "_law_agrees" dLawAgreesP.1
theorem Kn.cast {C C' : Cx} (K : Kn C) (h1 : C'.B = C.B) (h2 : C'.mg = C.mg) (h3 : C'.mb = C.mb) : Kn C' := by
  obtain ⟨prog, w, B, mg, mb, A, env⟩ := C
  obtain ⟨prog', w', B', mg', mb', A', env'⟩ := C'
  simp only at h1 h2 h3
  subst h1 h2 h3
  exact ⟨K.type, K.issubclass, K.str, K.bytes, K.isinstance, K.len, K.zip, K.object, K.dFspath, K.dGetSepP, K.dJoin, K.dSplit, K.dSplitextP, K.dSplitext, K.dSplitroot, K.dNormpath, K.dTranslate, K.dEscape, K.dTranslateP, K.dJoinTranslatedPartsP, K.dEscapeCdataP, K.dEscapeAttribP, K.dEscapeAttribHtmlP, K.dEscapeCdataC14nP, K.dEscapeAttribC14nP, K.dLawDrawnP, K.dLawSpelledP, K.dLawTablesP, K.dLawBarredP, K.dLawRunsP, K.dLawBareP, K.dLawReadP, K.dLawAgreesP⟩
section
variable {C : Cx} {ρ : Loc} {cs : Own}
theorem eL (G : Gd C) {x : Str} {p : Pos} {d : D} (h : ρ.lookup x = some d := by rfl) (hl : C.env.kindOf x = some .local := by rfl) (hd : (x == ("__debug__" : Str)) = false := by rfl) : Ev C ρ cs (.Name x p) d := Ev.loc G h hl hd
theorem eG (G : Gd C) {x : Str} {p : Pos} {v : Value} (h : Glo C x v) (hl : C.env.kindOf x = some .globalImplicit := by rfl) (hd : (x == ("__debug__" : Str)) = false := by rfl) : Ev C ρ cs (.Name x p) (.val v) := Ev.glo G h hl hd
theorem eS {x : Str} {n : Nat} {p : Pos} (l : List Nat) (h : x.cps.toList = l := by rfl) : Ev C ρ cs (.Constant (.str x) n p) (.str l) := h ▸ Ev.str
/-- a call of a def by its name -/
theorem eC (G : Gd C) {x : Str} {q : Pos} {args : List Expr} {p : Pos} {ds : List D} {d : D} (ha : EvA C ρ cs args ds) (h : CallD C x ds d) (hl : C.env.kindOf x = some .globalImplicit := by rfl) (hd : (x == ("__debug__" : Str)) = false := by rfl) : Ev C ρ cs (.Call (.Name x q) args [] p) d := Ev.callG G ha h hl hd
/-- a call of a built-in by its name -/
theorem eB (G : Gd C) {x : Str} {q : Pos} {args : List Expr} {p : Pos} {ds : List D} {d : D} {f : Value} (hg : Glo C x f) (ha : EvA C ρ cs args ds) (h : CallV C f ds d) (hl : C.env.kindOf x = some .globalImplicit := by rfl) (hd : (x == ("__debug__" : Str)) = false := by rfl) : Ev C ρ cs (.Call (.Name x q) args [] p) d := Ev.callV (Ev.glo G hg hl hd) ha h
theorem a0 : EvA C ρ cs [] [] := .nil
theorem a1 {e : Expr} {d : D} (h : Ev C ρ cs e d) (he : starEach [e] C.env = [(false, eval e C.env)] := by exact star_cons rfl) : EvA C ρ cs [e] [d] := .cons h .nil he
theorem a2 {e f : Expr} {d d' : D} (h : Ev C ρ cs e d) (h' : Ev C ρ cs f d') (he : starEach [e, f] C.env = (false, eval e C.env) :: starEach [f] C.env := by exact star_cons rfl) (he' : starEach [f] C.env = [(false, eval f C.env)] := by exact star_cons rfl) : EvA C ρ cs [e, f] [d, d'] := .cons h (a1 h' he') he
theorem a3 {e f g : Expr} {d d' d'' : D} (h : Ev C ρ cs e d) (h' : Ev C ρ cs f d') (h'' : Ev C ρ cs g d'') (he : starEach [e, f, g] C.env = (false, eval e C.env) :: starEach [f, g] C.env := by exact star_cons rfl) (he' : starEach [f, g] C.env = (false, eval f C.env) :: starEach [g] C.env := by exact star_cons rfl) (he'' : starEach [g] C.env = [(false, eval g C.env)] := by exact star_cons rfl) : EvA C ρ cs [e, f, g] [d, d', d''] := .cons h (a2 h' h'' he' he'') he
end
theorem pFspath : Plain dFspath.1 1 := .k1 rfl (fun _ _ _ _ _ => rfl) (by decide +kernel) rfl rfl rfl (by decide +kernel)
theorem c_fspath {C : Cx} (G : Gd C) (K : Kn C) (R : Room C 0) {x : List Nat} : CallD C "fspath" [.str x] (.str x) := by
  refine CallD.def G R K.dFspath pFspath rfl fun L f cd => ?_
  have G' := G.call (x := "fspath") (scope := dFspath.1.2.2) (L := L) (f := f) (cd := cd) rfl
  have K' : Kn (C.call "fspath" dFspath.1.2.2 L f cd) := K.cast rfl rfl rfl
  refine Ex.assign G' (eB G' K'.type (a1 (eL G')) .typeStr) ?_ rfl
  refine Ex.ite (b := true) (.plain (eB G' K'.issubclass (a2 (eL G') (Ev.tup (a2 (eG G' K'.str) (eG G' K'.bytes)) (by decide))) .subStr) .bool) (fun _ => ?_) (fun h => nomatch h)
  exact Ex.ret (eL G') ⟨_, rfl⟩
theorem pGetSepP : Plain dGetSepP.1 1 := .k1 rfl (fun _ _ _ _ _ => rfl) (by decide +kernel) rfl rfl rfl (by decide +kernel)
theorem c_get_sep {C : Cx} (G : Gd C) (K : Kn C) (R : Room C 0) {x : List Nat} : CallD C "_get_sep" [.str x] (.str [47]) := by
  refine CallD.def G R K.dGetSepP pGetSepP rfl fun L f cd => ?_
  have G' := G.call (x := "_get_sep") (scope := dGetSepP.1.2.2) (L := L) (f := f) (cd := cd) rfl
  have K' : Kn (C.call "_get_sep" dGetSepP.1.2.2 L f cd) := K.cast rfl rfl rfl
  refine Ex.ite (b := false) (.plain (eB G' K'.isinstance (a2 (eL G') (eG G' K'.bytes)) .isBytes) .bool) (fun h => nomatch h) fun _ => ?_
  exact Ex.ret (eS _) ⟨_, rfl⟩
end Mine
end

section
open PySem PySem.W PySem.Calls PyProof.Rows PySem.Builtin.Str PySem.SeqAt
set_option maxRecDepth 100000
namespace Mine
set_option linter.unusedVariables false
/-- names kept -/
inductive Sub (ρ' : Loc) : Loc → Prop
  | nil : Sub ρ' []
  | cons {k : Str} {d : D} {r : Loc} : ρ'.lookup k = some d → Sub ρ' r → Sub ρ' ((k, d) :: r)
theorem Sub.look {ρ' : Loc} : ∀ {ρ : Loc}, Sub ρ' ρ → ∀ x d, ρ.lookup x = some d → ρ'.lookup x = some d
  | _, .nil, x, d, h => nomatch h
  | _, .cons (k := k) h r, x, d, q => by
    rw [List.lookup_cons] at q
    by_cases e : x = k
    · subst e; simp only [beq_self_eq_true] at q; cases q; exact h
    · have : (x == k) = false := by simpa using e
      rw [this] at q
      exact r.look x d q
section
variable {C : Cx} {ρ ρ' : Loc} {cs : Own} {ss : List Stmt} {Φ : Out → Prop}
theorem Ex.sub (h : Sub ρ ρ') (k : Ex C ρ' cs ss Φ) : Ex C ρ cs ss Φ := Ex.locs h.look k
theorem Lp.sub {t : Expr} {body orelse : List Stmt} {Ψ : Out → Prop} (h : Sub ρ ρ') (k : Lp C ρ' cs t body orelse Ψ) : Lp C ρ cs t body orelse Ψ := fun kk z s h0 S => k kk z s h0 (S.locs h.look)
theorem FL.sub {adds : D → Loc} {body orelse : List Stmt} {Ψ : Out → Prop} (h : Sub ρ ρ') : ∀ {ds : List D}, FL C adds body orelse Ψ ds ρ' cs → FL C adds body orelse Ψ ds ρ cs
  | [], k => Ex.locs h.look k
  | d :: ds, k => by
    refine Ex.locs (fun x e q => ?_) k
    rw [List.lookup_append] at q ⊢
    cases w : (adds d).lookup x with
    | some v => rw [w] at q; exact q
    | none => rw [w] at q; simp only [Option.none_or] at q ⊢; exact h.look x e q
end
theorem Ex.doc {C : Cx} {ρ : Loc} {cs : Own} {ss : List Stmt} {Φ : Out → Prop} (G : Gd C) {x : Str} {n : Nat} {p q : Pos} (k : Ex C ρ cs ss Φ) : Ex C ρ cs (.Expr (.Constant (.str x) n p) q :: ss) Φ := by
  refine Ex.cons fun kk z s h0 S => ?_
  have hint : interactive C.env = false := by unfold interactive; rw [G.kind]; rfl
  show Wp C (do
    standAt q
    if interactive C.env then printExpr (eval (.Constant (.str x) n p) C.env)
    else if ← swapsWith (.Constant (.str x) n p) none q.line C.env then do evalThenUse (.Constant (.str x) n p) C.env fun _ => point; pure .next
    else do dropValue (.Constant (.str x) n p) q (← eval (.Constant (.str x) n p) C.env)) _ s
  rw [hint]
  refine wpAny_bind (wpAny_standAt (wpAny_bind (wpAny_pure ?_)))
  refine wpAny_bind (wpAny_Constant_str ?_)
  exact wpAny_dropValue ⟨z, .next ρ cs, .refl, S, k, ⟨rfl, rfl⟩⟩
theorem eT {C : Cx} {ρ : Loc} {cs : Own} {es : List Expr} {n : Nat} {p : Pos} {ds : List D} (h : EvA C ρ cs es ds) (hsz : ds.length ≤ 16777216 := by exact Nat.le_of_ble_eq_true rfl) : Ev C ρ cs (.Tuple es n p) (.tup ds) := Ev.tup h hsz
theorem eLs {C : Cx} {ρ : Loc} {cs : Own} {es : List Expr} {p : Pos} {ds : List D} (h : EvA C ρ cs es ds) (hsz : ds.length ≤ 16777216 := by exact Nat.le_of_ble_eq_true rfl) : Ev C ρ cs (.List es p) (.list ds) := Ev.list h hsz
section
variable {C : Cx} {ρ : Loc} {cs : Own} {ss : List Stmt} {Φ : Out → Prop}
theorem Lp.ind {ι : Type} (inv : ι → Loc) (cinv : ι → Own) (m : ι → Nat) (ok : ι → Prop) {t : Expr} {body orelse : List Stmt} {Ψ : Out → Prop} (step : ∀ i, ok i → (∀ j, ok j → m j < m i → Lp C (inv j) (cinv j) t body orelse Ψ) → Lp C (inv i) (cinv i) t body orelse Ψ) : ∀ i, ok i → Lp C (inv i) (cinv i) t body orelse Ψ := fun i => by
  induction h : m i using Nat.strongRecOn generalizing i with
  | ind n ih =>
    subst h
    exact fun hi => step i hi fun j hj hm => ih _ hm j rfl hj
/-- a while with an invariant -/
theorem Ex.loop {ι : Type} (inv : ι → Loc) (cinv : ι → Own) (m : ι → Nat) (ok : ι → Prop) {t : Expr} {body orelse : List Stmt} {p : Pos} (i : ι) (hi : ok i) (hs : Sub ρ (inv i)) (hc : cs = cinv i)
    (step : ∀ i, ok i → (∀ j, ok j → m j < m i → Lp C (inv j) (cinv j) t body orelse (Then C ss Φ)) → Lp C (inv i) (cinv i) t body orelse (Then C ss Φ)) : Ex C ρ cs (.While t body orelse p :: ss) Φ :=
  Ex.while_ (hc ▸ Lp.sub hs (Lp.ind inv cinv m ok step i hi))
/-- what a for's turn hands on -/
def FlN {ι : Type} (inv : ι → Loc) (cinv : ι → Own) (ok : ι → List D → Prop) (ds : List D) (Ψ : Out → Prop) : Out → Prop
  | .next ρ' cs' | .cont ρ' cs' => ∃ j, ok j ds ∧ Sub ρ' (inv j) ∧ cs' = cinv j
  | .brk ρ' cs' => Ψ (.next ρ' cs')
  | .ret d cs' => Ψ (.ret d cs')
theorem FL.ind {ι : Type} (inv : ι → Loc) (cinv : ι → Own) (ok : ι → List D → Prop) {adds : D → Loc} {body orelse : List Stmt} {Ψ : Out → Prop} (last : ∀ i, ok i [] → Ex C (inv i) (cinv i) orelse Ψ)
    (step : ∀ i d ds, ok i (d :: ds) → Ex C (adds d ++ inv i) (cinv i) body (FlN inv cinv ok ds Ψ)) : ∀ ds i, ok i ds → FL C adds body orelse Ψ ds (inv i) (cinv i)
  | [], i, h => last i h
  | d :: ds, i, h => (step i d ds h).mono fun o q => by
    cases o with
    | next ρ' cs' => obtain ⟨j, a, b, rfl⟩ := q; exact FL.sub b (FL.ind inv cinv ok last step ds j a)
    | cont ρ' cs' => obtain ⟨j, a, b, rfl⟩ := q; exact FL.sub b (FL.ind inv cinv ok last step ds j a)
    | brk ρ' cs' => exact q
    | ret d' cs' => exact q
end
def HasDefAt (B : Heap) (mg : Str → Option Value) (x : Str) (d : FD) (f : Addr) : Prop := mg x = some (.ref f) ∧ ∃ o pm cd doc, B.get? f = some o ∧ o.data = .func (docDef x d.1 d.2.1 d.2.2 pm cd doc) ∧ B.CodeRec cd x
theorem CallV.def {C : Cx} (G : Gd C) {n : Nat} (R : Room C n) {x : Str} {d : FD} {f : Addr} {k : Nat} {ds : List D} {r : D} (hf : HasDefAt C.B C.mg x d f) (hp : Plain d k) (hk : ds.length = k)
    (h : ∀ L cd, Ex (C.call x d.2.2 L f cd) (((d.1.args.map (·.arg)).zip ds).reverse) [] d.2.1 (Gives r)) : CallV C (.ref f) ds r := by
  obtain ⟨hm, o, pm, cd, doc, ho, hd, hc⟩ := hf
  obtain ⟨p1, p2, p3, p4, p5, p6, p7⟩ := hp
  have F : Fn C x f d.1 d.2.1 d.2.2 := ⟨hm, o, pm, cd, doc, ho, hd, hc⟩
  refine ⟨F.keeper, fun z vs r => ?_⟩
  refine Op.def G R F r (fun pm cd doc => p2 x pm cd doc vs (by rw [r.length]; exact hk)) (zip_all _ _ _ p3) (fun L cd => h L cd) p4 p5 p6 ?_
  intro y hy
  have := List.all_eq_true.mp p7 y hy
  exact of_decide_eq_true this
/-- an if whose two ends meet again -/
def Meets' (ρ1 : Loc) (cs1 : Own) : Out → Prop
  | .next ρ' cs' => Sub ρ' ρ1 ∧ cs' = cs1
  | _ => False
theorem Ex.iteJ {C : Cx} {ρ : Loc} {cs : Own} {ss : List Stmt} {Φ : Out → Prop} (ρ1 : Loc) (cs1 : Own) {t : Expr} {body orelse : List Stmt} {p : Pos} {b : Bool} (ht : EvB C ρ cs t b) (h1 : b = true → Ex C ρ cs body (Meets' ρ1 cs1)) (h2 : b = false → Ex C ρ cs orelse (Meets' ρ1 cs1)) (k : Ex C ρ1 cs1 ss Φ) : Ex C ρ cs (.If t body orelse p :: ss) Φ := by
  have go : ∀ o, Meets' ρ1 cs1 o → Then C ss Φ o := fun o h => by
    cases o with
    | next ρ' cs' => obtain ⟨a, rfl⟩ := h; exact Ex.sub a k
    | _ => exact h.elim
  exact Ex.ite ht (fun h => (h1 h).mono go) fun h => (h2 h).mono go
section
variable {C : Cx} {ρ : Loc} {cs : Own} {ss : List Stmt} {Φ : Out → Prop}
theorem eComp (G : Gd C) {elt iter : Expr} {x : Str} {px pos : Pos} {scope : Scope} (cl : List (Str × Addr)) {d : D} {all : List D} (F : D → D) (hsz : all.length ≤ 16777216)
    (hi : Ev C ρ cs iter d) (hIt : ∀ z v, Rep C.P z v d → It C (.Name x px) v z all) (he : ∀ L, Gd (C.comp scope cl L) → ∀ d ∈ all, ∀ cs', cs ⊆ cs' → Ev (C.comp scope cl L) [(x, d)] cs' elt (F d))
    (hclos : closureFor scope C.env = pure cl := by rfl) (hkind : scope.kind = .function := by rfl) (hcell : ∀ y ∈ scope.names, y.2 ≠ .cell := by decide +kernel) (hnm : ∀ y ∈ scope.names, y.2 = .local → scope.names.lookup y.1 = some .local := by decide +kernel) (hx : scope.names.lookup x = some .local := by rfl)
    (hs : ∀ x, foldedSetIterable iter C.env x = pure x := by intro _; rfl) : Ev C ρ cs (.ListComp elt [⟨.Name x px, iter, [], 0⟩] scope pos) (.list (all.map F)) :=
  Ev.comp G F hsz hi hIt (fun L => he L (G.comp hkind)) hclos hkind hcell hnm hx hs
theorem eDcomp (G : Gd C) {kx vx iter : Expr} {x : Str} {px pos : Pos} {scope : Scope} (cl : List (Str × Addr)) {d : D} {all : List D} (F : D → List Nat × D) (hnd : (all.map fun d => (F d).1).Nodup) (hsz : all.length ≤ 16777216)
    (hi : Ev C ρ cs iter d) (hIt : ∀ z v, Rep C.P z v d → It C (.Name x px) v z all) (he : ∀ L, Gd (C.comp scope cl L) → ∀ d ∈ all, ∀ cs', cs ⊆ cs' → Ev (C.comp scope cl L) [(x, d)] cs' kx (.str (F d).1) ∧ Ev (C.comp scope cl L) [(x, d)] cs' vx (F d).2)
    (hclos : closureFor scope C.env = pure cl := by rfl) (hkind : scope.kind = .function := by rfl) (hcell : ∀ y ∈ scope.names, y.2 ≠ .cell := by decide +kernel) (hnm : ∀ y ∈ scope.names, y.2 = .local → scope.names.lookup y.1 = some .local := by decide +kernel) (hx : scope.names.lookup x = some .local := by rfl)
    (hs : ∀ x, foldedSetIterable iter C.env x = pure x := by intro _; rfl) : Ev C ρ cs (.DictComp kx vx [⟨.Name x px, iter, [], 0⟩] scope pos) (.dict (all.map F)) :=
  Ev.dcomp G F hnd hsz hi hIt (fun L => he L (G.comp hkind)) hclos hkind hcell hnm hx hs
end
theorem eCut {C : Cx} {ρ : Loc} {cs : Own} {value : Expr} {lower upper : Option Expr} {p q : Pos} {x y : List Nat} {lo hi : Option Int} (hx : Ev C ρ cs value (.str x)) (h1 : EvO C ρ cs lower lo) (h2 : EvO C ρ cs upper hi) (hsz : x.length ≤ 16777216) (e : pyCut lo hi x = y) :
    Ev C ρ cs (.Subscript value (.Slice lower upper none p) q) (.str y) := e ▸ Ev.cut_str hx h1 h2 hsz
theorem eCutL {C : Cx} {ρ : Loc} {cs : Own} {value : Expr} {lower upper : Option Expr} {p q : Pos} {x y : List D} {lo hi : Option Int} (hx : Ev C ρ cs value (.list x)) (h1 : EvO C ρ cs lower lo) (h2 : EvO C ρ cs upper hi) (hsz : x.length ≤ 16777216) (e : pyCut lo hi x = y) :
    Ev C ρ cs (.Subscript value (.Slice lower upper none p) q) (.list y) := e ▸ Ev.cut_list hx h1 h2 hsz
theorem clipAt_nat (n a : Nat) : clipAt n (a : Int) = min a n := by
  unfold clipAt
  split <;> (first | lia | omega)
theorem cut_takeG {α : Type} (l : List α) (a : Nat) : pyCut none (some (a : Int)) l = l.take a := by
  unfold pyCut
  simp only [Option.elim_none, Option.elim_some, clipAt_nat, List.drop_zero, Nat.sub_zero]
  exact List.take_eq_take_min.symm
theorem cut_take (l : List Nat) (a : Nat) : pyCut none (some (a : Int)) l = l.take a := cut_takeG l a
theorem cut_drop {α : Type} (l : List α) (a : Nat) : pyCut (some (a : Int)) none l = l.drop a := by
  unfold pyCut
  simp only [Option.elim_none, Option.elim_some, clipAt_nat]
  by_cases h : a ≤ l.length
  · rw [Nat.min_eq_left h, List.take_of_length_le (by simp)]
  · rw [Nat.min_eq_right (show l.length ≤ a from by (first | lia | omega)), List.drop_length, List.drop_of_length_le (by (first | lia | omega))]; simp
theorem cut_mid {α : Type} (l : List α) (a b : Nat) : pyCut (some (a : Int)) (some (b : Int)) l = (l.drop a).take (b - a) := by
  unfold pyCut
  simp only [Option.elim_some, clipAt_nat]
  by_cases h : a ≤ l.length
  · rw [Nat.min_eq_left h, ← Nat.sub_min_sub_right, ← List.length_drop]; exact List.take_eq_take_min.symm
  · rw [Nat.min_eq_right (Nat.le_of_not_le h), List.drop_length, List.drop_of_length_le (Nat.le_of_not_le h)]; simp
theorem clip_neg (n a : Nat) (h0 : 0 < a) : clipAt n (-(a : Int)) = n - a := by unfold clipAt; split <;> (first | lia | omega)
theorem cut_last {α : Type} (l : List α) (a : Nat) (h : a ≤ l.length) (h0 : 0 < a) : pyCut (some (-(a : Int))) none l = l.drop (l.length - a) := by
  unfold pyCut
  simp only [Option.elim_none, Option.elim_some, clip_neg _ _ h0]
  rw [List.take_of_length_le (by simp)]
theorem cut_init {α : Type} (l : List α) : pyCut none (some (-1)) l = l.dropLast := by
  have e : clipAt l.length (-1) = l.length - 1 := clip_neg _ 1 Nat.one_pos
  unfold pyCut
  simp only [Option.elim_none, Option.elim_some, e, List.drop_zero, Nat.sub_zero]
  rw [List.dropLast_eq_take]
end Mine
end

section
open PySem PySem.W PySem.Calls PyProof.Rows PySem.Builtin.Str PySem.SeqAt
set_option maxRecDepth 100000
namespace Mine
set_option linter.unusedVariables false
section
variable {C : Cx} {ρ : Loc} {cs : Own}
theorem eTupFrom {value : Expr} {lower : Option Expr} {p q : Pos} {x y : List D} {a : Nat} (hx : Ev C ρ cs value (.tup x)) (h1 : EvO C ρ cs lower (some (a : Int))) (ha : 1 ≤ a) (hb : a ≤ x.length) (hsz : x.length ≤ 16777216) (e : x.drop a = y) :
    Ev C ρ cs (.Subscript value (.Slice lower none none p) q) (.tup y) := by
  intro z
  subst e
  refine Tr.subscript (P1 := fun z v => Rep C.P z v (.tup x)) (P2 := fun z v => SliceAt z v (some (a : Int)) none) (fun _ _ _ l r => Rep.mono l r) (hx z) (fun z' _ => Tr.slice h1 .nil) fun z' o i l r1 r2 => ?_
  cases r1 using Rep.tupE with
  | @tup b vs n _ hb2 hr =>
    obtain ⟨a', vl, vu, rfl, ha', ⟨u, rfl⟩, rfl⟩ := r2
    have hT : ∀ s : Shared, z'.inH s.heap → s.heap.IsTuple b vs.toArray := fun s hz => ⟨_, hz _ _ hb2, rfl, n, rfl⟩
    refine Op.subTail (T := "tuple") (fun s hz => ⟨_, hz _ _ hb2, rfl⟩) PyProof.Rows.slot_tuple_getitem.lookup fun s h0 hbz hz => ?_
    refine getItem_tuple_from (items := vs.toArray) (by exact ⟨_, hz _ _ hb2, rfl, n, rfl⟩) ⟨_, hz _ _ ha', rfl, rfl⟩ ha (by rw [List.size_toArray, hr.length]; exact hb) ?_ (by rw [sizeLine_eq, List.size_toArray, hr.length]; exact hsz)
    refine PostOp.push hz rfl (.tup (n := 0) (vs := vs.drop a) (PH.add_at _ _ _) ((hr.drop a).mono (PH.le_add (inH_none hz (get_size _)))))
end
end Mine
end

section
open PySem PySem.W PySem.Calls PyProof.Rows PySem.Builtin.Str PySem.SeqAt
set_option maxRecDepth 100000
namespace Mine
set_option linter.unusedVariables false
theorem pSplitroot : Plain dSplitroot.1 1 := .k1 rfl (fun _ _ _ _ _ => rfl) (by decide +kernel) rfl rfl rfl (by decide +kernel)
def xRoot (p : List Nat) : List Nat × List Nat :=
  if (pyCut none (some 1) p != [47]) = true then ([], p)
  else if ((pyCut (some 1) (some 2) p != [47]) || (pyCut (some 2) (some 3) p == [47])) = true then ([47], pyCut (some 1) none p)
  else (pyCut none (some 2) p, pyCut (some 2) none p)
theorem c_splitroot {C : Cx} (G : Gd C) (K : Kn C) {n : Nat} (R : Room C (n + 1)) {x : List Nat} (hsz : x.length ≤ 16777216) : CallD C "splitroot" [.str x] (.tup [.str [], .str (xRoot x).1, .str (xRoot x).2]) := by
  refine CallD.def G R K.dSplitroot pSplitroot rfl fun L f cd => ?_
  have G' := G.call (x := "splitroot") (scope := dSplitroot.1.2.2) (L := L) (f := f) (cd := cd) rfl
  have K' : Kn (C.call "splitroot" dSplitroot.1.2.2 L f cd) := K.cast rfl rfl rfl
  have R' : Room (C.call "splitroot" dSplitroot.1.2.2 L f cd) 0 := R.call.le (Nat.zero_le _)
  refine Ex.doc G' ?_
  refine Ex.assign G' (eC G' (a1 (eL G')) (c_fspath G' K' R')) ?_ rfl
  refine Ex.ite (b := false) (.plain (eB G' K'.isinstance (a2 (eL G') (eG G' K'.bytes)) .isBytes) .bool) (fun h => nomatch h) fun _ => ?_
  refine Ex.assign G' (eS [47]) (Ex.assign G' (eS []) (Ex.nil ?_) rfl) rfl
  refine Ex.ite (.cmp (Ev.cut_str (eL G') .nil (.one Ev.int) hsz) (eL G') .neStr) (fun h => ?_) fun h => ?_
  · refine Ex.ret (eT (a3 (eL G') (eL G') (eL G'))) ⟨[], ?_⟩
    unfold xRoot; rw [if_pos h]
  · refine Ex.ite (.or (.cmp (Ev.cut_str (eL G') (.one Ev.int) (.one Ev.int) hsz) (eL G') .neStr) fun _ => .cmp (Ev.cut_str (eL G') (.one Ev.int) (.one Ev.int) hsz) (eL G') .eqStr) (fun h2 => ?_) fun h2 => ?_
    · refine Ex.ret (eT (a3 (eL G') (eL G') (Ev.cut_str (eL G') (.one Ev.int) .nil hsz))) ⟨[], ?_⟩
      unfold xRoot; rw [if_neg (by rw [h]; decide), if_pos h2]
    · refine Ex.ret (eT (a3 (eL G') (Ev.cut_str (eL G') .nil (.one Ev.int) hsz) (Ev.cut_str (eL G') (.one Ev.int) .nil hsz))) ⟨[], ?_⟩
      unfold xRoot; rw [if_neg (by rw [h]; decide), if_neg (by rw [h2]; decide)]
theorem pSplitextP : Plain dSplitextP.1 4 := .k4 rfl (fun _ _ _ _ _ _ _ _ => rfl) (by decide +kernel) rfl rfl rfl (by decide +kernel)
/-- a name without '/' and its ending -/
def xExt (p : List Nat) : List Nat × List Nat :=
  let d := (rfnd 46 p).toNat
  if (p.take d).any (· != 46) then (p.take d, p.drop d) else (p, [])
theorem rfnd_le (c : Nat) (p : List Nat) : -1 ≤ rfnd c p ∧ rfnd c p < p.length := by
  rcases rfnd_spec c p with ⟨e, _⟩ | ⟨i, e, h, _⟩
  · rw [e]; (first | lia | omega)
  · have := (List.getElem?_eq_some_iff.mp h).1
    rw [e]; (first | lia | omega)
theorem c_splitextP {C : Cx} (G : Gd C) (K : Kn C) (R : Room C 0) {x : List Nat} (hsz : x.length ≤ 16777216) (hx : 47 ∉ x) : CallD C "_splitext" [.str x, .str [47], .none, .str [46]] (.tup [.str (xExt x).1, .str (xExt x).2]) := by
  refine CallD.def G R K.dSplitextP pSplitextP rfl fun L f cd => ?_
  have G' := G.call (x := "_splitext") (scope := dSplitextP.1.2.2) (L := L) (f := f) (cd := cd) rfl
  have hs : rfnd 47 x = -1 := by
    rcases rfnd_spec 47 x with ⟨e, _⟩ | ⟨i, e, h, _⟩
    · exact e
    · exact absurd (List.mem_of_getElem? h) hx
  refine Ex.doc G' ?_
  refine Ex.assign G' (Ev.meth (eL G') (a1 (eL G')) MethV.rfind) ?_ rfl
  refine Ex.ite (b := false) (.plain (eL G') .none) (fun h => nomatch h) fun _ => Ex.nil ?_
  refine Ex.assign G' (Ev.meth (eL G') (a1 (eL G')) MethV.rfind) ?_ rfl
  rw [hs]
  obtain ⟨h1, h2⟩ := rfnd_le 46 x
  refine Ex.ite (.cmp (eL G') (eL G') .gtInt) (fun h => ?_) fun h => ?_
  · have h3 : rfnd 46 x > -1 := of_decide_eq_true h
    obtain ⟨d, hd⟩ := Int.eq_ofNat_of_zero_le (show 0 ≤ rfnd 46 x by (first | lia | omega))
    have hdl : d < x.length := by (first | lia | omega)
    rw [hd]
    have hxe : xExt x = if (x.take d).any (· != 46) then (x.take d, x.drop d) else (x, []) := by unfold xExt; rw [hd]; rfl
    refine Ex.assign G' (Ev.bin (eL G') Ev.int .addInt) ?_ rfl
    refine Ex.loop (fun i : Nat => [("filenameIndex", .int i), ("dotIndex", .int d), ("p", .str x), ("extsep", .str [46])]) (fun _ => []) (fun i => d - i) (fun i => i ≤ d ∧ (x.take i).any (· != 46) = false) 0 ⟨Nat.zero_le _, by simp⟩ (.cons rfl (.cons rfl (.cons rfl (.cons rfl .nil)))) rfl ?_
    intro i ⟨hi, hi2⟩ ih
    refine Lp.turn (.cmp (eL G') (eL G') .ltInt) (fun h4 => ?_) fun h4 => Ex.nil ?_
    · have hid : i < d := by have : (i : Int) < d := of_decide_eq_true h4; (first | lia | omega)
      have hix : i < x.length := by (first | lia | omega)
      have hc : pyCut (some (i : Int)) (some ((i : Int) + 1)) x = [x[i]] := by
        have := cut_mid x i (i + 1)
        rw [show ((i + 1 : Nat) : Int) = (i : Int) + 1 from by (first | lia | omega)] at this
        rw [this, Nat.add_sub_cancel_left, List.drop_eq_getElem_cons hix]; rfl
      refine Ex.ite (.cmp (Ev.cut_str (eL G') (.one (eL G')) (.one (Ev.bin (eL G') Ev.int .addInt)) hsz) (eL G') .neStr) (fun h5 => ?_) fun h5 => Ex.nil ?_
      · refine Ex.ret (eT (a2 (Ev.cut_str (eL G') .nil (.one (eL G')) hsz) (Ev.cut_str (eL G') (.one (eL G')) .nil hsz))) ⟨[], ?_⟩
        rw [hc] at h5
        have h6 : (x.take d).any (· != 46) = true := by
          rw [List.any_eq_true]
          refine ⟨x[i], ?_, ?_⟩
          · rw [List.mem_take_iff_getElem]; exact ⟨i, by (first | lia | omega), rfl⟩
          · simpa using h5
        rw [hxe, if_pos h6, cut_take, cut_drop]
      · refine Ex.aug G' rfl Ev.int .addInt ?_ rfl
        refine Ex.nil (Lp.sub (.cons rfl (.cons rfl (.cons rfl (.cons rfl .nil)))) (ih (i + 1) ⟨hid, ?_⟩ (by (first | lia | omega))))
        rw [hc] at h5
        rw [List.take_add_one, List.getElem?_eq_getElem hix, List.any_append, hi2]
        simpa using h5
    · have hid : ¬ i < d := by have : ¬ (i : Int) < d := of_decide_eq_false h4; (first | lia | omega)
      have : i = d := by (first | lia | omega)
      subst this
      refine Ex.nil ?_
      refine Ex.ret (eT (a2 (eL G') (Ev.cut_str (eL G') .nil (.one Ev.int) hsz))) ⟨[], ?_⟩
      rw [hxe, hi2]; rfl
  · have h3 : ¬ rfnd 46 x > -1 := of_decide_eq_false h
    refine Ex.nil (Ex.ret (eT (a2 (eL G') (Ev.cut_str (eL G') .nil (.one Ev.int) hsz))) ⟨[], ?_⟩)
    have h4 : rfnd 46 x = -1 := by (first | lia | omega)
    unfold xExt; rw [h4]; rfl
end Mine
end

section
open PySem PySem.W PySem.Calls PyProof.Rows PySem.Builtin.Str PySem.SeqAt
set_option maxRecDepth 100000
namespace Mine
set_option linter.unusedVariables false
theorem pSplitext : Plain dSplitext.1 1 := .k1 rfl (fun _ _ _ _ _ => rfl) (by decide +kernel) rfl rfl rfl (by decide +kernel)
theorem c_splitext {C : Cx} (G : Gd C) (K : Kn C) (R : Room C 1) {x : List Nat} (hsz : x.length ≤ 16777216) (hx : 47 ∉ x) : CallD C "splitext" [.str x] (.tup [.str (xExt x).1, .str (xExt x).2]) := by
  refine CallD.def G R K.dSplitext pSplitext rfl fun L f cd => ?_
  have G' := G.call (x := "splitext") (scope := dSplitext.1.2.2) (L := L) (f := f) (cd := cd) rfl
  have K' : Kn (C.call "splitext" dSplitext.1.2.2 L f cd) := K.cast rfl rfl rfl
  have R' : Room (C.call "splitext" dSplitext.1.2.2 L f cd) 0 := R.call
  refine Ex.assign G' (eC G' (a1 (eL G')) (c_fspath G' K' R')) ?_ rfl
  refine Ex.ite (b := false) (.plain (eB G' K'.isinstance (a2 (eL G') (eG G' K'.bytes)) .isBytes) .bool) (fun h => nomatch h) fun _ => ?_
  refine Ex.assign G' (eS [47]) (Ex.assign G' (eS [46]) (Ex.nil ?_) rfl) rfl
  exact Ex.ret (eC G' (.cons (eL G') (.cons (eL G') (.cons Ev.cnone (.cons (eL G') .nil)))) (c_splitextP G' K' R' hsz hx)) ⟨[], rfl⟩

theorem pSplit : Plain dSplit.1 1 := .k1 rfl (fun _ _ _ _ _ => rfl) (by decide +kernel) rfl rfl rfl (by decide +kernel)
def xSplit (p : List Nat) : List Nat × List Nat :=
  let i := (rfnd 47 p + 1).toNat
  (if (!(p.take i).isEmpty && (p.take i != List.replicate (p.take i).length 47)) then rst 47 (p.take i) else p.take i, p.drop i)
theorem rep_one (n : Nat) (c : Nat) : (List.replicate n [c]).flatten = List.replicate n c := by
  induction n with
  | zero => rfl
  | succ n ih => rw [List.replicate_succ, List.flatten_cons, ih, List.replicate_succ]; rfl
theorem c_split {C : Cx} (G : Gd C) (K : Kn C) (R : Room C 1) {x : List Nat} (hsz : x.length ≤ 16777216) : CallD C "split" [.str x] (.tup [.str (xSplit x).1, .str (xSplit x).2]) := by
  refine CallD.def G R K.dSplit pSplit rfl fun L f cd => ?_
  have G' := G.call (x := "split") (scope := dSplit.1.2.2) (L := L) (f := f) (cd := cd) rfl
  have K' : Kn (C.call "split" dSplit.1.2.2 L f cd) := K.cast rfl rfl rfl
  have R' : Room (C.call "split" dSplit.1.2.2 L f cd) 0 := R.call
  refine Ex.doc G' ?_
  refine Ex.assign G' (eC G' (a1 (eL G')) (c_fspath G' K' R')) ?_ rfl
  refine Ex.assign G' (eC G' (a1 (eL G')) (c_get_sep G' K' R')) ?_ rfl
  refine Ex.assign G' (Ev.bin (Ev.meth (eL G') (a1 (eL G')) MethV.rfind) Ev.int .addInt) ?_ rfl
  obtain ⟨h1, h2⟩ := rfnd_le 47 x
  obtain ⟨i, hi⟩ := Int.eq_ofNat_of_zero_le (show 0 ≤ rfnd 47 x + 1 by (first | lia | omega))
  rw [hi]
  have hx : xSplit x = (if (!(x.take i).isEmpty && (x.take i != List.replicate (x.take i).length 47)) then rst 47 (x.take i) else x.take i, x.drop i) := by unfold xSplit; rw [hi]; rfl
  have hl : (x.take i).length ≤ 16777216 := Nat.le_trans (by rw [List.length_take]; exact Nat.min_le_right _ _) hsz
  refine Ex.unpackS (xs := ["head", "tail"]) G' (eT (a2 (Ev.cut_str (eL G') .nil (.one (eL G')) hsz) (Ev.cut_str (eL G') (.one (eL G')) .nil hsz))) rfl rfl rfl ?_
  rw [cut_take, cut_drop]
  have hm : ([47] : List Nat).length * ((((x.take i).length : Nat) : Int)).toNat ≤ 16777216 := by
    rw [Int.toNat_natCast, List.length_singleton, Nat.one_mul]; exact hl
  refine Ex.iteJ [("head", .str (xSplit x).1), ("tail", .str (x.drop i))] [] (b := !(x.take i).isEmpty && (x.take i != List.replicate (x.take i).length 47)) (.and (.plain (eL G') (.str hl)) fun _ => ?_) (fun h => ?_) (fun h => ?_) ?_
  · refine .cmp (eL G') (Ev.bin (eL G') (eB G' K'.len (a1 (eL G')) (.lenStr hl)) (.mulStr hm ⟨by (first | lia | omega), by (first | lia | omega)⟩)) ?_
    rw [Int.toNat_natCast, rep_one]
    exact .neStr
  · refine Ex.assign G' (Ev.meth (eL G') (a1 (eL G')) (MethV.rstrip hl)) (Ex.nil ⟨.cons ?_ (.cons rfl .nil), rfl⟩) rfl
    rw [hx, if_pos h]; rfl
  · refine Ex.nil ⟨.cons ?_ (.cons rfl .nil), rfl⟩
    rw [hx, if_neg (by rw [h]; decide)]; rfl
  · refine Ex.ret (eT (a2 (eL G') (eL G'))) ⟨[], ?_⟩
    rw [hx]

/-! normpath -/
theorem pNormpath : Plain dNormpath.1 1 := .k1 rfl (fun _ _ _ _ _ => rfl) (by decide +kernel) rfl rfl rfl (by decide +kernel)
def npStep (init : Bool) (acc : List (List Nat)) (c : List Nat) : List (List Nat) :=
  if c = [] ∨ c = [46] then acc
  else if c ≠ [46, 46] ∨ (init = false ∧ acc = []) ∨ (acc ≠ [] ∧ acc.getLast? = some [46, 46]) then acc ++ [c]
  else acc.dropLast
def npRun (init : Bool) (cs : List (List Nat)) : List (List Nat) := cs.foldl (npStep init) []
def xNorm (p : List Nat) : List Nat :=
  if p = [] then [46] else
  let r := (xRoot p).1 ++ jn [47] (npRun (!(xRoot p).1.isEmpty) (spl 47 (xRoot p).2))
  if r = [] then [46] else r
theorem npStep_size (init : Bool) (acc : List (List Nat)) (c : List Nat) : ((npStep init acc c).map fun y => y.length + 1).sum ≤ (acc.map fun y => y.length + 1).sum + (c.length + 1) ∧ (npStep init acc c).length ≤ acc.length + 1 := by
  unfold npStep
  split
  · exact ⟨by (first | lia | omega), by (first | lia | omega)⟩
  · split
    · simp
    · refine ⟨?_, by simp; (first | lia | omega)⟩
      have : ((acc.dropLast).map fun y => y.length + 1).sum ≤ (acc.map fun y => y.length + 1).sum := by
        rcases List.eq_nil_or_concat acc with rfl | ⟨l, a, rfl⟩
        · simp
        · simp [List.dropLast_concat]
      (first | lia | omega)
theorem spl_sum (c : Nat) : ∀ l : List Nat, ((spl c l).map fun y => y.length + 1).sum = l.length + 1
  | [] => by simp [spl]
  | a :: l => by
    have ih := spl_sum c l
    unfold spl
    split
    · simp [ih]; (first | lia | omega)
    · cases h : spl c l with
      | nil => rw [h] at ih; simp at ih
      | cons x y => rw [h] at ih; simp at ih ⊢; (first | lia | omega)
theorem xRoot_le (p : List Nat) : (xRoot p).1.length ≤ 2 ∧ (xRoot p).2.length ≤ p.length := by
  have h2 : pyCut none (some (2 : Int)) p = p.take 2 := cut_take p 2
  have h3 : pyCut (some (2 : Int)) none p = p.drop 2 := cut_drop p 2
  have h4 : pyCut (some (1 : Int)) none p = p.drop 1 := cut_drop p 1
  unfold xRoot
  split
  · simp
  · split
    · rw [h4]; simp
    · rw [h2, h3]; simp; (first | lia | omega)
theorem jn_length (c : Nat) : ∀ l : List (List Nat), (jn [c] l).length ≤ (l.map fun y => y.length + 1).sum
  | [] => by simp [jn]
  | [x] => by simp [jn]
  | x :: y :: l => by
    have ih := jn_length c (y :: l)
    show (x ++ [c] ++ jn [c] (y :: l)).length ≤ _
    rw [List.map_cons, List.sum_cons]
    simp only [List.length_append, List.length_singleton]; (first | lia | omega)
theorem c_normpath {C : Cx} (G : Gd C) (K : Kn C) (R : Room C 2) {x : List Nat} (hsz : x.length ≤ 1000000) : CallD C "normpath" [.str x] (.str (xNorm x)) := by
  refine CallD.def G R K.dNormpath pNormpath rfl fun L f cd => ?_
  have G' := G.call (x := "normpath") (scope := dNormpath.1.2.2) (L := L) (f := f) (cd := cd) rfl
  have K' : Kn (C.call "normpath" dNormpath.1.2.2 L f cd) := K.cast rfl rfl rfl
  have R' : Room (C.call "normpath" dNormpath.1.2.2 L f cd) 1 := R.call
  refine Ex.doc G' ?_
  refine Ex.assign G' (eC G' (a1 (eL G')) (c_fspath G' K' (R'.le (by decide)))) ?_ rfl
  refine Ex.ite (b := false) (.plain (eB G' K'.isinstance (a2 (eL G') (eG G' K'.bytes)) .isBytes) .bool) (fun h => nomatch h) fun _ => ?_
  refine Ex.assign G' (eS [47]) (Ex.assign G' (eS [46]) (Ex.assign G' (eS [46, 46]) (Ex.nil ?_) rfl) rfl) rfl
  refine Ex.ite (.not (.plain (eL G') (.str (by (first | lia | omega))))) (fun h => ?_) fun h => Ex.nil ?_
  · have hx : x = [] := by simpa using h
    refine Ex.ret (eL G') ⟨[], ?_⟩
    unfold xNorm; rw [if_pos hx]
  have hx : x ≠ [] := by simpa using h
  obtain ⟨q1, q2⟩ := xRoot_le x
  refine Ex.unpack (xs := ["_", "initial_slashes", "path"]) G' (eC G' (a1 (eL G')) (c_splitroot G' K' R' (by (first | lia | omega)))) (.inl rfl) (.cons (.cons (.cons .nil))) rfl rfl ?_
  have hs := spl_sum 47 (xRoot x).2
  have hs2 := spl_length 47 (xRoot x).2
  refine Ex.assign G' (Ev.meth (eL G') (a1 (eL G')) (MethV.split (by (first | lia | omega)))) ?_ rfl
  refine Ex.assignNew G' (fun a => ?_) rfl
  refine Ex.forIt G' (eL G' (d := .list ((spl 47 (xRoot x).2).map .str))) (fun z v r => It.list G' r) (fun d _ => As.name G' rfl) (FL.sub (ρ' := [("dotdot", .str [46, 46]), ("dot", .str [46]), ("new_comps", .val (.ref a)), ("initial_slashes", .str (xRoot x).1), ("sep", .str [47])]) (.cons rfl (.cons rfl (.cons rfl (.cons rfl (.cons rfl .nil)))))
    (FL.ind (fun acc : List (List Nat) => [("dotdot", .str [46, 46]), ("dot", .str [46]), ("new_comps", .val (.ref a)), ("initial_slashes", .str (xRoot x).1), ("sep", .str [47])]) (fun acc => [(a, .lst (acc.map .str))])
      (fun acc ds => ∃ cs : List (List Nat), ds = cs.map .str ∧ cs.foldl (npStep (!(xRoot x).1.isEmpty)) acc = npRun (!(xRoot x).1.isEmpty) (spl 47 (xRoot x).2) ∧ (acc.map fun y => y.length + 1).sum + (cs.map fun y => y.length + 1).sum ≤ 1000001 ∧ acc.length + cs.length ≤ 1000001) (fun acc h => ?_) (fun acc d ds h => ?_) _ [] ⟨_, rfl, rfl, by simp; (first | lia | omega), by simp; (first | lia | omega)⟩))
  · obtain ⟨cs, hc, h1, h2, h3⟩ := h
    have : cs = [] := by cases cs with | nil => rfl | cons => cases hc
    subst this
    simp only [List.foldl_nil] at h1
    subst h1
    simp only [List.map_nil, List.sum_nil, Nat.add_zero, List.length_nil] at h2 h3
    refine Ex.nil (Ex.freeze (x := "new_comps") rfl ?_)
    refine Ex.assign G' (eL G') ?_ rfl
    have hj : (jn [47] (npRun (!(xRoot x).1.isEmpty) (spl 47 (xRoot x).2))).length ≤ 1000001 := Nat.le_trans (jn_length 47 _) h2
    refine Ex.assign G' (Ev.bin (eL G') (Ev.meth (eL G') (a1 (eL G')) (MethV.join (by simpa using Nat.le_trans h2 (by (first | lia | omega))))) (.addStr (by (first | lia | omega)))) ?_ rfl
    refine Ex.ret (Ev.or (eL G') (.str (by rw [List.length_append]; (first | lia | omega))) (fun _ => eL G') rfl) ⟨[], ?_⟩
    unfold xNorm
    rw [if_neg hx]
    simp only
    cases hr : (xRoot x).1 ++ jn [47] (npRun (!(xRoot x).1.isEmpty) (spl 47 (xRoot x).2)) with
    | nil => rfl
    | cons => rfl
  · obtain ⟨cs, hc, h1, h2, h3⟩ := h
    cases cs with
    | nil => cases hc
    | cons c cs =>
      simp only [List.map_cons, List.cons.injEq] at hc
      obtain ⟨rfl, rfl⟩ := hc
      simp only [List.foldl_cons, List.map_cons, List.sum_cons, List.length_cons] at h1 h2 h3
      have hst := npStep_size (!(xRoot x).1.isEmpty) acc c
      have hlen : (acc.map D.str).length ≤ 16777216 := by rw [List.length_map]; (first | lia | omega)
      refine Ex.ite (.or (.not (.plain (eL G') (.str (by (first | lia | omega))))) fun _ => .cmp (eL G') (eL G') .eqStr) (fun h => ?_) fun h => Ex.nil ?_
      · have hc : c = [] ∨ c = [46] := by simpa using h
        exact Ex.cont ⟨acc, ⟨cs, rfl, by rw [← h1]; unfold npStep; rw [if_pos hc], by (first | lia | omega), by (first | lia | omega)⟩, .cons rfl (.cons rfl (.cons rfl (.cons rfl (.cons rfl .nil)))), rfl⟩
      have hc : ¬ (c = [] ∨ c = [46]) := by simpa using h
      refine Ex.ite (b := (c != [46, 46]) || (((!!(xRoot x).1.isEmpty) && (!!(acc.map D.str).isEmpty)) || ((!(acc.map D.str).isEmpty) && (acc.getLast? == some [46, 46])))) (.or3 (.cmp (eL G') (eL G') .neStr) (fun _ => .and (.not (.plain (eL G') (.str (by (first | lia | omega))))) fun _ => .not (.own G' (ds := acc.map D.str) rfl (.head _) hlen rfl rfl)) (fun _ _ => .and (.own G' (ds := acc.map D.str) rfl (.head _) hlen rfl rfl) fun hne => ?_)) (fun h => ?_) fun h => ?_
      · rcases List.eq_nil_or_concat acc with rfl | ⟨l, d, rfl⟩
        · cases hne
        · have e : ((l.concat d).getLast? == some [46, 46]) = (d == [46, 46]) := by simp
          rw [e]
          exact .cmp (Ev.ownLast G' (d := .str d) rfl (.head _) (Ev.neg Ev.int) hlen (by simp) rfl rfl) (eL G') .eqStr
      · refine Ex.append G' rfl (eL G') hlen (Ex.nil (Ex.nil ⟨acc ++ [c], ⟨cs, rfl, ?_, ?_, ?_⟩, .cons rfl (.cons rfl (.cons rfl (.cons rfl (.cons rfl .nil)))), by simp⟩)) rfl rfl
        · rw [← h1]; unfold npStep; rw [if_neg hc, if_pos]
          simp only [Bool.or_eq_true, Bool.and_eq_true] at h
          rcases h with h | ⟨h, h'⟩ | ⟨h, h'⟩
          · exact .inl (by simpa using h)
          · exact .inr (.inl ⟨by simpa using h, by simpa using h'⟩)
          · exact .inr (.inr ⟨(by intro e; subst e; cases h), (by simpa using h')⟩)
        · simp; (first | lia | omega)
        · simp; (first | lia | omega)
      · have hnp : npStep (!(xRoot x).1.isEmpty) acc c = acc.dropLast := by
          unfold npStep; rw [if_neg hc, if_neg]
          intro q
          have : ((c != [46, 46]) || (((!!(xRoot x).1.isEmpty) && (!!(acc.map D.str).isEmpty)) || ((!(acc.map D.str).isEmpty) && (acc.getLast? == some [46, 46])))) = true := by
            rcases q with q | ⟨q, q'⟩ | ⟨q, q'⟩
            · simp [q]
            · subst q'
              have : (xRoot x).1.isEmpty = true := by simpa using q
              simp [this]
            · have e : (acc.map D.str).isEmpty = false := by cases acc with | nil => exact absurd rfl q | cons => rfl
              rw [e, q']; simp
          rw [this] at h; cases h
        rw [hnp] at hst
        refine Ex.ite (.own G' (ds := acc.map D.str) rfl (.head _) hlen rfl rfl) (fun hne => ?_) fun he => Ex.nil (Ex.nil (Ex.nil ?_))
        · rcases List.eq_nil_or_concat acc with rfl | ⟨l, d, rfl⟩
          · cases hne
          · rw [List.concat_eq_append] at h1 h2 h3 hlen hnp hst ⊢
            rw [List.map_append]
            rw [List.map_append, List.length_append] at hlen
            refine Ex.pop G' rfl (by simp at hlen ⊢; (first | lia | omega)) (Ex.nil (Ex.nil (Ex.nil ⟨l, ⟨cs, rfl, by rw [← h1, hnp, List.dropLast_concat], ?_, ?_⟩, .cons rfl (.cons rfl (.cons rfl (.cons rfl (.cons rfl .nil)))), rfl⟩))) rfl rfl
            · rw [List.dropLast_concat] at hst; (first | lia | omega)
            · simp at h3; (first | lia | omega)
        · have : acc = [] := by cases acc with | nil => rfl | cons => cases he
          subst this
          exact ⟨[], ⟨cs, rfl, by rw [← h1, hnp]; rfl, by simp at h2 ⊢; (first | lia | omega), by simp at h3 ⊢; (first | lia | omega)⟩, .cons rfl (.cons rfl (.cons rfl (.cons rfl (.cons rfl .nil)))), rfl⟩
end Mine
end

section
open PySem PySem.W PySem.Calls PyProof.Rows PySem.Builtin.Str PySem.SeqAt
set_option maxRecDepth 100000
namespace Mine
set_option linter.unusedVariables false
/-! the five escapes -/
abbrev Tab := List (Nat × List Nat)
def dr (t : Tab) (a : Nat) : List Nat := (t.lookup a).getD [a]
def dress (t : Tab) (l : List Nat) : List Nat := l.flatMap (dr t)
theorem dress_nil (l : List Nat) : dress [] l = l := by
  induction l with
  | nil => rfl
  | cons a l ih => show [a] ++ dress [] l = _; rw [ih]; rfl
theorem dress_append (t : Tab) (a b : List Nat) : dress t (a ++ b) = dress t a ++ dress t b := by simp [dress]
theorem lookup_none {t : Tab} {a : Nat} (h : a ∉ t.map (·.1)) : t.lookup a = none := by
  rw [List.lookup_eq_none_iff]
  intro p hp
  have : a ≠ p.1 := fun e => h (e ▸ List.mem_map_of_mem hp)
  simpa using this
theorem dr_length {t : Tab} (h : ∀ p ∈ t, p.2.length ≤ 6) (a : Nat) : (dr t a).length ≤ 6 := by
  unfold dr
  cases q : t.lookup a with
  | none => simp
  | some r =>
    have : (a, r) ∈ t := by
      have := List.lookup_eq_some_iff.mp q
      obtain ⟨l1, l2, rfl, _⟩ := this
      simp
    exact h _ this
theorem dress_length {t : Tab} (h : ∀ p ∈ t, p.2.length ≤ 6) (l : List Nat) : (dress t l).length ≤ 6 * l.length := by
  induction l with
  | nil => simp [dress]
  | cons a l ih =>
    show (dr t a ++ dress t l).length ≤ _
    have := dr_length h a
    rw [List.length_append, List.length_cons]; (first | lia | omega)
theorem rep_dress {t : Tab} {c : Nat} {r : List Nat} (h1 : c ∉ t.map (·.1)) (h2 : ∀ p ∈ t, c ∉ p.2) (l : List Nat) : rep c r (dress t l) = dress (t ++ [(c, r)]) l := by
  induction l with
  | nil => rfl
  | cons a l ih =>
    show rep c r (dr t a ++ dress t l) = dr (t ++ [(c, r)]) a ++ dress (t ++ [(c, r)]) l
    rw [rep_append, ih]
    congr 1
    unfold dr
    rw [List.lookup_append]
    cases q : t.lookup a with
    | none =>
      simp only [Option.getD_none, Option.none_or, List.lookup_cons, List.lookup_nil]
      by_cases e : a = c
      · subst e; simp [rep]
      · have : (a == c) = false := by simpa using e
        rw [this]; simp [rep, e]
    | some r' =>
      have : (a, r') ∈ t := by
        obtain ⟨l1, l2, rfl, _⟩ := List.lookup_eq_some_iff.mp q
        simp
      simp only [Option.getD_some, Option.some_or]
      exact rep_free (h2 _ this)
section
variable {C : Cx} {cs : Own} {ss : List Stmt} {Φ : Out → Prop}
theorem Ex.esc (G : Gd C) {y y' w : Str} {n1 n2 n3 : Nat} {p0 p1 p2 p3 p4 p5 p6 p7 p8 p9 p10 : Pos} {l r : List Nat} {c : Nat} (t : Tab) (t' : Tab) (hy : y = ⟨#[c]⟩) (hy' : y' = ⟨#[c]⟩) (hw : w.cps.toList = r) (hne : (y' == w) = false) (ht : t' = t ++ [(c, r)]) (h6 : ∀ p ∈ t', p.2.length ≤ 6) (h1 : c ∉ t.map (·.1)) (h2 : ∀ p ∈ t, c ∉ p.2) (hsz : l.length ≤ 200000)
    (hl : C.env.kindOf "text" = some .local) (k : Ex C [("text", .str (dress t' l))] cs ss Φ)
    (hba : attributeBase (.Name "text" p5) "replace" C.env (eval (.Name "text" p5) C.env) = eval (.Name "text" p5) C.env := by rfl) (hp : (p6.endLine == p9.line) = true := by rfl) (hs : swapsWith (.Call (.Attribute (.Name "text" p5) "replace" p6) [.Constant (.str y') n2 p7, .Constant (.str w) n3 p8] [] p9) (some (.Name "text" p4)) p10.line C.env = pure false := by rfl) :
    Ex C [("text", .str (dress t l))] cs (.If (.Compare (.Constant (.str y) n1 p0) [.In] [.Name "text" p1] p2) [.Assign [.Name "text" p4] (.Call (.Attribute (.Name "text" p5) "replace" p6) [.Constant (.str y') n2 p7, .Constant (.str w) n3 p8] [] p9) p10] [] p3 :: ss) Φ := by
  subst ht
  have e := rep_dress (r := r) h1 h2 l
  have hr : r.length ≤ 6 := h6 (c, r) (by simp)
  have hd : (dress t l).length ≤ 6 * l.length := dress_length (fun p hp => h6 p (by simp [hp])) l
  refine Ex.iteJ [("text", .str (dress (t ++ [(c, r)]) l))] cs (b := decide (c ∈ dress t l)) (.cmp (eS [c] (by rw [hy])) (Ev.loc G rfl hl rfl) .inStr) (fun h => ?_) (fun h => ?_) k
  · refine Ex.assign G (Ev.replace (Ev.loc G rfl hl rfl) hy' hw hne ?_ hba hp) (Ex.nil ⟨.cons (by rw [← e]; rfl) .nil, rfl⟩) hl hs
    have : ((dress t l).length + 1) * r.length ≤ (1200001) * 6 := Nat.mul_le_mul (by (first | lia | omega)) hr
    (first | lia | omega)
  · refine Ex.nil ⟨.cons ?_ .nil, rfl⟩
    have h : c ∉ dress t l := of_decide_eq_false h
    rw [← e, rep_free h]; rfl
end
def tA : Tab := [(38, [38, 97, 109, 112, 59]), (60, [38, 108, 116, 59]), (62, [38, 103, 116, 59])]
def tB : Tab := [(38, [38, 97, 109, 112, 59]), (60, [38, 108, 116, 59]), (62, [38, 103, 116, 59]), (34, [38, 113, 117, 111, 116, 59]), (13, [38, 35, 49, 51, 59]), (10, [38, 35, 49, 48, 59]), (9, [38, 35, 48, 57, 59])]
def tC : Tab := [(38, [38, 97, 109, 112, 59]), (62, [38, 103, 116, 59]), (34, [38, 113, 117, 111, 116, 59])]
def tD : Tab := [(38, [38, 97, 109, 112, 59]), (60, [38, 108, 116, 59]), (62, [38, 103, 116, 59]), (13, [38, 35, 120, 68, 59])]
def tE0 : Tab := [(38, [38, 97, 109, 112, 59]), (60, [38, 108, 116, 59]), (34, [38, 113, 117, 111, 116, 59]), (9, [38, 35, 120, 57, 59]), (10, [38, 35, 120, 65, 59]), (13, [38, 35, 120, 68, 59])]
def tE : Tab := [(38, [38, 97, 109, 112, 59]), (60, [38, 108, 116, 59]), (34, [38, 113, 117, 111, 116, 59]), (13, [38, 35, 120, 68, 59]), (10, [38, 35, 120, 65, 59]), (9, [38, 35, 120, 57, 59])]
theorem dress_tE (l : List Nat) : dress tE0 l = dress tE l := by
  unfold dress
  congr 1
  funext a
  unfold dr
  congr 1
  simp only [tE, tE0, List.lookup_cons, List.lookup_nil]
  by_cases h1 : a = 9
  · subst h1; rfl
  · by_cases h2 : a = 10
    · subst h2; rfl
    · by_cases h3 : a = 13
      · subst h3; rfl
      · rw [show (a == 9) = false from beq_eq_false_iff_ne.mpr h1, show (a == 10) = false from beq_eq_false_iff_ne.mpr h2, show (a == 13) = false from beq_eq_false_iff_ne.mpr h3]
theorem pE1 : Plain dEscapeCdataP.1 1 := .k1 rfl (fun _ _ _ _ _ => rfl) (by decide +kernel) rfl rfl rfl (by decide +kernel)
theorem c_e1 {C : Cx} (G : Gd C) {f : Addr} (hf : HasDefAt C.B C.mg "_escape_cdata" dEscapeCdataP.1 f) (R : Room C 0) {l : List Nat} (hsz : l.length ≤ 200000) : CallV C (.ref f) [.str l] (.str (dress tA l)) := by
  refine CallV.def G R hf pE1 rfl fun L cd => ?_
  have G' := G.call (x := "_escape_cdata") (scope := dEscapeCdataP.1.2.2) (L := L) (f := f) (cd := cd) rfl
  refine Ex.tryOk ?_
  refine Ex.sub (ρ' := [("text", .str (dress [] l))]) (.cons (by rw [dress_nil]; rfl) .nil) ?_
  refine Ex.esc G' (c := 38) (r := [38, 97, 109, 112, 59]) [] (tA.take 1) rfl rfl rfl rfl rfl (by decide) (by decide) (by decide) hsz rfl ?_
  refine Ex.esc G' (c := 60) (r := [38, 108, 116, 59]) (tA.take 1) (tA.take 2) rfl rfl rfl rfl rfl (by decide) (by decide) (by decide) hsz rfl ?_
  refine Ex.esc G' (c := 62) (r := [38, 103, 116, 59]) (tA.take 2) tA rfl rfl rfl rfl rfl (by decide) (by decide) (by decide) hsz rfl ?_
  exact Ex.ret (eL G') ⟨[], rfl⟩
theorem pE2 : Plain dEscapeAttribP.1 1 := .k1 rfl (fun _ _ _ _ _ => rfl) (by decide +kernel) rfl rfl rfl (by decide +kernel)
theorem c_e2 {C : Cx} (G : Gd C) {f : Addr} (hf : HasDefAt C.B C.mg "_escape_attrib" dEscapeAttribP.1 f) (R : Room C 0) {l : List Nat} (hsz : l.length ≤ 200000) : CallV C (.ref f) [.str l] (.str (dress tB l)) := by
  refine CallV.def G R hf pE2 rfl fun L cd => ?_
  have G' := G.call (x := "_escape_attrib") (scope := dEscapeAttribP.1.2.2) (L := L) (f := f) (cd := cd) rfl
  refine Ex.tryOk ?_
  refine Ex.sub (ρ' := [("text", .str (dress [] l))]) (.cons (by rw [dress_nil]; rfl) .nil) ?_
  refine Ex.esc G' (c := 38) (r := [38, 97, 109, 112, 59]) [] (tB.take 1) rfl rfl rfl rfl rfl (by decide) (by decide) (by decide) hsz rfl ?_
  refine Ex.esc G' (c := 60) (r := [38, 108, 116, 59]) (tB.take 1) (tB.take 2) rfl rfl rfl rfl rfl (by decide) (by decide) (by decide) hsz rfl ?_
  refine Ex.esc G' (c := 62) (r := [38, 103, 116, 59]) (tB.take 2) (tB.take 3) rfl rfl rfl rfl rfl (by decide) (by decide) (by decide) hsz rfl ?_
  refine Ex.esc G' (c := 34) (r := [38, 113, 117, 111, 116, 59]) (tB.take 3) (tB.take 4) rfl rfl rfl rfl rfl (by decide) (by decide) (by decide) hsz rfl ?_
  refine Ex.esc G' (c := 13) (r := [38, 35, 49, 51, 59]) (tB.take 4) (tB.take 5) rfl rfl rfl rfl rfl (by decide) (by decide) (by decide) hsz rfl ?_
  refine Ex.esc G' (c := 10) (r := [38, 35, 49, 48, 59]) (tB.take 5) (tB.take 6) rfl rfl rfl rfl rfl (by decide) (by decide) (by decide) hsz rfl ?_
  refine Ex.esc G' (c := 9) (r := [38, 35, 48, 57, 59]) (tB.take 6) tB rfl rfl rfl rfl rfl (by decide) (by decide) (by decide) hsz rfl ?_
  exact Ex.ret (eL G') ⟨[], rfl⟩
theorem pE3 : Plain dEscapeAttribHtmlP.1 1 := .k1 rfl (fun _ _ _ _ _ => rfl) (by decide +kernel) rfl rfl rfl (by decide +kernel)
theorem c_e3 {C : Cx} (G : Gd C) {f : Addr} (hf : HasDefAt C.B C.mg "_escape_attrib_html" dEscapeAttribHtmlP.1 f) (R : Room C 0) {l : List Nat} (hsz : l.length ≤ 200000) : CallV C (.ref f) [.str l] (.str (dress tC l)) := by
  refine CallV.def G R hf pE3 rfl fun L cd => ?_
  have G' := G.call (x := "_escape_attrib_html") (scope := dEscapeAttribHtmlP.1.2.2) (L := L) (f := f) (cd := cd) rfl
  refine Ex.tryOk ?_
  refine Ex.sub (ρ' := [("text", .str (dress [] l))]) (.cons (by rw [dress_nil]; rfl) .nil) ?_
  refine Ex.esc G' (c := 38) (r := [38, 97, 109, 112, 59]) [] (tC.take 1) rfl rfl rfl rfl rfl (by decide) (by decide) (by decide) hsz rfl ?_
  refine Ex.esc G' (c := 62) (r := [38, 103, 116, 59]) (tC.take 1) (tC.take 2) rfl rfl rfl rfl rfl (by decide) (by decide) (by decide) hsz rfl ?_
  refine Ex.esc G' (c := 34) (r := [38, 113, 117, 111, 116, 59]) (tC.take 2) tC rfl rfl rfl rfl rfl (by decide) (by decide) (by decide) hsz rfl ?_
  exact Ex.ret (eL G') ⟨[], rfl⟩
theorem pE4 : Plain dEscapeCdataC14nP.1 1 := .k1 rfl (fun _ _ _ _ _ => rfl) (by decide +kernel) rfl rfl rfl (by decide +kernel)
theorem c_e4 {C : Cx} (G : Gd C) {f : Addr} (hf : HasDefAt C.B C.mg "_escape_cdata_c14n" dEscapeCdataC14nP.1 f) (R : Room C 0) {l : List Nat} (hsz : l.length ≤ 200000) : CallV C (.ref f) [.str l] (.str (dress tD l)) := by
  refine CallV.def G R hf pE4 rfl fun L cd => ?_
  have G' := G.call (x := "_escape_cdata_c14n") (scope := dEscapeCdataC14nP.1.2.2) (L := L) (f := f) (cd := cd) rfl
  refine Ex.tryOk ?_
  refine Ex.sub (ρ' := [("text", .str (dress [] l))]) (.cons (by rw [dress_nil]; rfl) .nil) ?_
  refine Ex.esc G' (c := 38) (r := [38, 97, 109, 112, 59]) [] (tD.take 1) rfl rfl rfl rfl rfl (by decide) (by decide) (by decide) hsz rfl ?_
  refine Ex.esc G' (c := 60) (r := [38, 108, 116, 59]) (tD.take 1) (tD.take 2) rfl rfl rfl rfl rfl (by decide) (by decide) (by decide) hsz rfl ?_
  refine Ex.esc G' (c := 62) (r := [38, 103, 116, 59]) (tD.take 2) (tD.take 3) rfl rfl rfl rfl rfl (by decide) (by decide) (by decide) hsz rfl ?_
  refine Ex.esc G' (c := 13) (r := [38, 35, 120, 68, 59]) (tD.take 3) tD rfl rfl rfl rfl rfl (by decide) (by decide) (by decide) hsz rfl ?_
  exact Ex.ret (eL G') ⟨[], rfl⟩
theorem pE5 : Plain dEscapeAttribC14nP.1 1 := .k1 rfl (fun _ _ _ _ _ => rfl) (by decide +kernel) rfl rfl rfl (by decide +kernel)
theorem c_e5 {C : Cx} (G : Gd C) {f : Addr} (hf : HasDefAt C.B C.mg "_escape_attrib_c14n" dEscapeAttribC14nP.1 f) (R : Room C 0) {l : List Nat} (hsz : l.length ≤ 200000) : CallV C (.ref f) [.str l] (.str (dress tE l)) := by
  refine CallV.def G R hf pE5 rfl fun L cd => ?_
  have G' := G.call (x := "_escape_attrib_c14n") (scope := dEscapeAttribC14nP.1.2.2) (L := L) (f := f) (cd := cd) rfl
  refine Ex.tryOk ?_
  refine Ex.sub (ρ' := [("text", .str (dress [] l))]) (.cons (by rw [dress_nil]; rfl) .nil) ?_
  refine Ex.esc G' (c := 38) (r := [38, 97, 109, 112, 59]) [] (tE0.take 1) rfl rfl rfl rfl rfl (by decide) (by decide) (by decide) hsz rfl ?_
  refine Ex.esc G' (c := 60) (r := [38, 108, 116, 59]) (tE0.take 1) (tE0.take 2) rfl rfl rfl rfl rfl (by decide) (by decide) (by decide) hsz rfl ?_
  refine Ex.esc G' (c := 34) (r := [38, 113, 117, 111, 116, 59]) (tE0.take 2) (tE0.take 3) rfl rfl rfl rfl rfl (by decide) (by decide) (by decide) hsz rfl ?_
  refine Ex.esc G' (c := 9) (r := [38, 35, 120, 57, 59]) (tE0.take 3) (tE0.take 4) rfl rfl rfl rfl rfl (by decide) (by decide) (by decide) hsz rfl ?_
  refine Ex.esc G' (c := 10) (r := [38, 35, 120, 65, 59]) (tE0.take 4) (tE0.take 5) rfl rfl rfl rfl rfl (by decide) (by decide) (by decide) hsz rfl ?_
  refine Ex.esc G' (c := 13) (r := [38, 35, 120, 68, 59]) (tE0.take 5) tE0 rfl rfl rfl rfl rfl (by decide) (by decide) (by decide) hsz rfl ?_
  exact Ex.ret (eL G') ⟨[], by rw [← dress_tE]⟩
end Mine
end

section
open PySem PySem.W PySem.Calls PyProof.Rows PySem.Builtin.Str PySem.SeqAt
set_option maxRecDepth 100000
namespace Mine
set_option linter.unusedVariables false
def tabD (t : Tab) : D := .dict (t.map fun p => ([p.1], .str p.2))
def backD (t : Tab) : D := .dict (t.map fun p => (p.2, .str [p.1]))
theorem pTables : Plain dLawTablesP.1 0 := .k0 rfl (fun _ _ _ _ => rfl) (by decide +kernel) rfl rfl rfl (by decide +kernel)
def kvA : List (Str × Str) := [("&", "&amp;"), ("<", "&lt;"), (">", "&gt;")]
theorem kvA_eq : D.dict (kvA.map fun p => (p.1.cps.toList, .str p.2.cps.toList)) = tabD tA := by kernel_rfl
theorem kvA_nd : (kvA.map (·.1)).Nodup := by decide +kernel
def kvB : List (Str × Str) := [("&", "&amp;"), ("<", "&lt;"), (">", "&gt;"), ("\"", "&quot;"), ("\r", "&#13;"), ("\n", "&#10;"), ("\t", "&#09;")]
theorem kvB_eq : D.dict (kvB.map fun p => (p.1.cps.toList, .str p.2.cps.toList)) = tabD tB := by kernel_rfl
theorem kvB_nd : (kvB.map (·.1)).Nodup := by decide +kernel
def kvC : List (Str × Str) := [("&", "&amp;"), (">", "&gt;"), ("\"", "&quot;")]
theorem kvC_eq : D.dict (kvC.map fun p => (p.1.cps.toList, .str p.2.cps.toList)) = tabD tC := by kernel_rfl
theorem kvC_nd : (kvC.map (·.1)).Nodup := by decide +kernel
def kvD : List (Str × Str) := [("&", "&amp;"), ("<", "&lt;"), (">", "&gt;"), ("\r", "&#xD;")]
theorem kvD_eq : D.dict (kvD.map fun p => (p.1.cps.toList, .str p.2.cps.toList)) = tabD tD := by kernel_rfl
theorem kvD_nd : (kvD.map (·.1)).Nodup := by decide +kernel
def kvE : List (Str × Str) := [("&", "&amp;"), ("<", "&lt;"), ("\"", "&quot;"), ("\r", "&#xD;"), ("\n", "&#xA;"), ("\t", "&#x9;")]
theorem kvE_eq : D.dict (kvE.map fun p => (p.1.cps.toList, .str p.2.cps.toList)) = tabD tE := by kernel_rfl
theorem kvE_nd : (kvE.map (·.1)).Nodup := by decide +kernel
theorem c_tables {C : Cx} (G : Gd C) (K : Kn C) (R : Room C 0) : CallD C "_law_tables" [] (.list [tabD tA, tabD tB, tabD tC, tabD tD, tabD tE]) := by
  refine CallD.def G R K.dLawTablesP pTables rfl fun L f cd => ?_
  have G' := G.call (x := "_law_tables") (scope := dLawTablesP.1.2.2) (L := L) (f := f) (cd := cd) rfl
  refine @Ex.ret _ _ _ _ _ _ _ (.list [tabD tA, tabD tB, tabD tC, tabD tD, tabD tE]) ?_ ?_
  rotate_left
  · exact ⟨[], rfl⟩
  refine @Ev.list _ _ _ _ _ _ ?_ (by show (5 : Nat) ≤ 16777216; (first | lia | omega))
  refine @EvA.cons _ _ _ _ _ _ _ ?_ ?_ (star_cons rfl)
  rotate_left
  refine @EvA.cons _ _ _ _ _ _ _ ?_ ?_ (star_cons rfl)
  rotate_left
  refine @EvA.cons _ _ _ _ _ _ _ ?_ ?_ (star_cons rfl)
  rotate_left
  refine @EvA.cons _ _ _ _ _ _ _ ?_ ?_ (star_cons rfl)
  rotate_left
  refine @EvA.cons _ _ _ _ _ _ _ ?_ .nil (star_cons rfl)
  rotate_left
  · rw [← kvA_eq]; exact @Ev.dictLit _ _ _ G' _ _ _ kvA (.cons (.cons (.cons .nil))) (List.cons_ne_nil _ _) (Nat.le_of_ble_eq_true rfl) kvA_nd
  · rw [← kvB_eq]; exact @Ev.dictLit _ _ _ G' _ _ _ kvB (.cons (.cons (.cons (.cons (.cons (.cons (.cons .nil))))))) (List.cons_ne_nil _ _) (Nat.le_of_ble_eq_true rfl) kvB_nd
  · rw [← kvC_eq]; exact @Ev.dictLit _ _ _ G' _ _ _ kvC (.cons (.cons (.cons .nil))) (List.cons_ne_nil _ _) (Nat.le_of_ble_eq_true rfl) kvC_nd
  · rw [← kvD_eq]; exact @Ev.dictLit _ _ _ G' _ _ _ kvD (.cons (.cons (.cons (.cons .nil)))) (List.cons_ne_nil _ _) (Nat.le_of_ble_eq_true rfl) kvD_nd
  · rw [← kvE_eq]; exact @Ev.dictLit _ _ _ G' _ _ _ kvE (.cons (.cons (.cons (.cons (.cons (.cons .nil)))))) (List.cons_ne_nil _ _) (Nat.le_of_ble_eq_true rfl) kvE_nd
def bar (c : Nat) : List Nat := if c = 42 ∨ c = 63 ∨ c = 91 then [91, c, 93] else [c]
def barD : D → D
  | .str [c] => .str (bar c)
  | d => d
theorem jn_nil : ∀ l : List (List Nat), jn [] l = l.flatten
  | [] => rfl
  | [x] => by simp [jn]
  | x :: y :: l => by
    show x ++ [] ++ jn [] (y :: l) = _
    rw [jn_nil (y :: l)]; simp
theorem pBarred : Plain dLawBarredP.1 1 := .k1 rfl (fun _ _ _ _ _ => rfl) (by decide +kernel) rfl rfl rfl (by decide +kernel)
theorem c_barred {C : Cx} (G : Gd C) (K : Kn C) (R : Room C 0) {l : List Nat} (hsz : l.length ≤ 5000000) : CallD C "_law_barred" [.str l] (.str (l.flatMap bar)) := by
  refine CallD.def G R K.dLawBarredP pBarred rfl fun L f cd => ?_
  have G' := G.call (x := "_law_barred") (scope := dLawBarredP.1.2.2) (L := L) (f := f) (cd := cd) rfl
  have e : (l.map fun c => D.str [c]).map barD = (l.map bar).map D.str := by
    rw [List.map_map, List.map_map]; rfl
  have hs : ((l.map bar).map fun y => y.length + ([] : List Nat).length).sum ≤ 16777216 := by
    have : ∀ l : List Nat, ((l.map bar).map fun y => y.length + ([] : List Nat).length).sum ≤ 3 * l.length := by
      intro l
      induction l with
      | nil => simp
      | cons a l ih =>
        rw [List.map_cons, List.map_cons, List.sum_cons, List.length_cons]
        have : (bar a).length ≤ 3 := by unfold bar; split <;> simp
        simp only [List.length_nil, Nat.add_zero] at ih ⊢
        (first | lia | omega)
    have := this l
    (first | lia | omega)
  have hj := MethV.join (C := C.call "_law_barred" dLawBarredP.1.2.2 L f cd) (x := []) hs
  rw [jn_nil, ← e] at hj
  rw [← List.flatMap_def] at hj
  refine Ex.ret (Ev.meth (eS []) (a1 (eComp G' [] barD (by rw [List.length_map]; (first | lia | omega)) (eL G' (d := .str l)) (fun z v r => It.str G' r) ?_)) hj) ⟨[], rfl⟩
  intro L2 G2 d hd cs' hcs
  obtain ⟨c, _, rfl⟩ := List.mem_map.mp hd
  have e2 : barD (.str [c]) = if decide (c ∈ [42, 63, 91]) = true then .str [91, c, 93] else .str [c] := by
    show D.str (bar c) = _
    unfold bar
    by_cases h : c = 42 ∨ c = 63 ∨ c = 91
    · rw [if_pos h, if_pos (by simpa using h)]
    · rw [if_neg h, if_neg (by simpa using h)]
  rw [e2]
  refine Ev.ite (.cmp (eL G2) (eS [42, 63, 91]) .inStr) (fun h => ?_) fun h => ?_
  · rw [if_pos h]
    exact Ev.bin (Ev.bin (eS [91]) (eL G2) (.addStr (Nat.le_of_ble_eq_true rfl))) (eS [93]) (.addStr (Nat.le_of_ble_eq_true rfl))
  · rw [if_neg (by rw [h]; decide)]
    exact eL G2
end Mine
end

section
open PySem PySem.W PySem.Calls PyProof.Rows PySem.Builtin.Str PySem.SeqAt
set_option maxRecDepth 100000
namespace Mine
set_option linter.unusedVariables false
/-- a table whose values are '&' … ';' -/
structure TabOk (t : Tab) : Prop where
  six : ∀ p ∈ t, p.2.length ≤ 6
  amp : 38 ∈ t.map (·.1)
  keys : (t.map (·.1)).Nodup
  vals : (t.map (·.2)).Nodup
  form : ∀ p ∈ t, ∃ m, p.2 = 38 :: (m ++ [59]) ∧ 59 ∉ m
theorem dr_mem {t : Tab} {a : Nat} {r : List Nat} (h : t.lookup a = some r) : (a, r) ∈ t := by
  obtain ⟨l1, l2, rfl, _⟩ := List.lookup_eq_some_iff.mp h
  simp
theorem back_lookup {t : Tab} (T : TabOk t) {a : Nat} {r : List Nat} (h : (a, r) ∈ t) : (t.map fun p => (p.2, D.str [p.1])).lookup r = some (.str [a]) := by
  have hv := T.vals
  clear T
  induction t with
  | nil => cases h
  | cons p t ih =>
    rw [List.map_cons, List.nodup_cons] at hv
    rw [List.map_cons, List.lookup_cons]
    rcases List.mem_cons.mp h with rfl | h
    · simp
    · have : (r == p.2) = false := by
        rw [beq_eq_false_iff_ne]
        intro e
        exact hv.1 (List.mem_map.mpr ⟨_, h, e⟩)
      rw [this]
      exact ih h hv.2
theorem fnd_at {c : Nat} {l : List Nat} {i k : Nat} (hk : i ≤ k) (h : l[k]? = some c) (hn : ∀ v, i ≤ v → v < k → l[v]? ≠ some c) : fndFrom c l i = (k : Int) := by
  rcases fnd_spec c l i with ⟨e, q⟩ | ⟨k', e, q1, q2, q3⟩
  · exact absurd h (q k hk)
  · rw [e]
    rcases Nat.lt_trichotomy k k' with w | w | w
    · exact absurd h (q3 k hk w)
    · rw [w]
    · exact absurd q2 (hn k' q1 w)
theorem pBare : Plain dLawBareP.1 2 := .k2 rfl (fun _ _ _ _ _ _ => rfl) (by decide +kernel) rfl rfl rfl (by decide +kernel)
theorem c_bare {C : Cx} (G : Gd C) (K : Kn C) (R : Room C 0) {t : Tab} (T : TabOk t) {l : List Nat} (hsz : l.length ≤ 200000) : CallD C "_law_bare" [.str (dress t l), backD t] (.str l) := by
  refine CallD.def G R K.dLawBareP pBare rfl fun L f cd => ?_
  have G' := G.call (x := "_law_bare") (scope := dLawBareP.1.2.2) (L := L) (f := f) (cd := cd) rfl
  have K' : Kn (C.call "_law_bare" dLawBareP.1.2.2 L f cd) := K.cast rfl rfl rfl
  have hd : (dress t l).length ≤ 1200000 := Nat.le_trans (dress_length T.six l) (by (first | lia | omega))
  refine Ex.unpack (xs := ["bare", "at"]) G' (eT (a2 (eS []) Ev.int)) (.inl rfl) (.cons (.cons .nil)) rfl rfl ?_
  refine Ex.loop (fun i : Nat => [("bare", .str (l.take i)), ("at", .int (dress t (l.take i)).length), ("line", .str (dress t l)), ("back", backD t)]) (fun _ => []) (fun i => l.length - i) (fun i => i ≤ l.length) 0 (Nat.zero_le _) (.cons rfl (.cons rfl (.cons rfl (.cons rfl .nil)))) rfl ?_
  intro i hi ih
  have hsplit : dress t l = dress t (l.take i) ++ dress t (l.drop i) := by rw [← dress_append, List.take_append_drop]
  have hat : (dress t (l.take i)).length ≤ (dress t l).length := by rw [hsplit, List.length_append]; (first | lia | omega)
  refine Lp.turn (.cmp (eL G') (eB G' K'.len (a1 (eL G')) (.lenStr (by (first | lia | omega)))) .ltInt) (fun h => ?_) fun h => Ex.nil ?_
  · have hlt : (dress t (l.take i)).length < (dress t l).length := by have := of_decide_eq_true h; (first | lia | omega)
    have hil : i < l.length := by
      rcases Nat.lt_or_ge i l.length with q | q
      · exact q
      · rw [List.take_of_length_le q] at hlt; (first | lia | omega)
    have hdrop : l.drop i = l[i] :: l.drop (i + 1) := List.drop_eq_getElem_cons hil
    have hdd : dress t (l.drop i) = dr t l[i] ++ dress t (l.drop (i + 1)) := by rw [hdrop]; rfl
    have htk : l.take (i + 1) = l.take i ++ [l[i]] := by rw [List.take_add_one, List.getElem?_eq_getElem hil]; rfl
    have hnext : (dress t (l.take (i + 1))).length = (dress t (l.take i)).length + (dr t l[i]).length := by
      rw [htk, dress_append, List.length_append]; simp [dress]
    have hget : ∀ j, j < (dr t l[i]).length → (dress t l)[(dress t (l.take i)).length + j]? = (dr t l[i])[j]? := fun j hj => by
      rw [hsplit, hdd, List.getElem?_append_right (by (first | lia | omega)), Nat.add_sub_cancel_left, List.getElem?_append_left hj]
    have hsm := T.six
    have itm : ∀ c, (dr t l[i])[0]? = some c → Itm (C.call "_law_bare" dLawBareP.1.2.2 L f cd) (.str (dress t l)) (.int ((dress t (l.take i)).length : Nat)) (.str [c]) := fun c hc => by
      refine Itm.str (j := (dress t (l.take i)).length) ?_ ?_ ⟨by (first | lia | omega), by (first | lia | omega)⟩
      · unfold seqIndex?; simp only [show ¬ ((dress t (l.take i)).length : Int) < 0 from by (first | lia | omega), if_false]; simp; (first | lia | omega)
      · have h0 : 0 < (dr t l[i]).length := by
          rcases Nat.eq_zero_or_pos (dr t l[i]).length with q | q
          · rw [List.length_eq_zero_iff.mp q] at hc; cases hc
          · exact q
        have := hget 0 h0
        rw [Nat.add_zero] at this
        rw [this]; exact hc
    refine Ex.assign G' (Ev.bin (Ev.meth (eL G') (a2 (eS [59]) (eL G')) (MethV.find3 hat)) Ev.int .addInt) ?_ rfl
    cases hlk : t.lookup l[i] with
    | none =>
      have hdr : dr t l[i] = [l[i]] := by unfold dr; rw [hlk]; rfl
      have hne : l[i] ≠ 38 := by
        intro e
        rw [e] at hlk
        rw [List.lookup_eq_none_iff] at hlk
        obtain ⟨p, hp, he⟩ := List.mem_map.mp T.amp
        have := hlk p hp
        rw [he] at this; simp at this
      have hf : ([l[i]] == ([38] : List Nat)) = false := by simpa using hne
      refine Ex.ite (b := ([l[i]] == [38]) && true) (.and (.cmp (Ev.item (eL G') (eL G') (itm l[i] (by rw [hdr]; rfl))) (eS [38]) .eqStr) (fun h => by rw [hf] at h; cases h)) (fun h => by rw [hf] at h; cases h) fun _ => ?_
      refine Ex.unpackS (xs := ["bare", "at"]) G' (eT (a2 (Ev.bin (eL G') (Ev.item (eL G') (eL G') (itm l[i] (by rw [hdr]; rfl))) (.addStr (by rw [List.length_take, List.length_singleton]; (first | lia | omega)))) (Ev.bin (eL G') Ev.int .addInt))) rfl rfl rfl ?_
      refine Ex.nil (Ex.nil (Lp.sub (.cons (by rw [htk]; rfl) (.cons (by rw [hnext, hdr]; rfl) (.cons rfl (.cons rfl .nil)))) (ih (i + 1) hil (by (first | lia | omega)))))
    | some r =>
      have hdr : dr t l[i] = r := by unfold dr; rw [hlk]; rfl
      have hmem := dr_mem hlk
      obtain ⟨m, hr, hm⟩ := T.form _ hmem
      simp only at hr
      have hrl : r.length = m.length + 2 := by rw [hr]; simp
      have hfind : fndFrom 59 (dress t l) (dress t (l.take i)).length = (((dress t (l.take i)).length + (m.length + 1) : Nat) : Int) := by
        refine fnd_at (by (first | lia | omega)) ?_ fun v h1 h2 => ?_
        · rw [hget _ (by rw [hdr, hrl]; (first | lia | omega)), hdr, hr]; simp
        · obtain ⟨j, rfl⟩ : ∃ j, v = (dress t (l.take i)).length + j := ⟨v - (dress t (l.take i)).length, by (first | lia | omega)⟩
          rw [hget _ (by rw [hdr, hrl]; (first | lia | omega)), hdr, hr]
          cases j with
          | zero => simp
          | succ j =>
            have hj : j < m.length := by (first | lia | omega)
            rw [List.getElem?_cons_succ, List.getElem?_append_left hj, List.getElem?_eq_getElem hj]
            intro e
            exact hm (by have := Option.some.inj e; rw [← this]; exact List.getElem_mem hj)
      have hcut : pyCut (some ((dress t (l.take i)).length : Int)) (some (fndFrom 59 (dress t l) (dress t (l.take i)).length + 1)) (dress t l) = r := by
        rw [hfind]
        have e := cut_mid (dress t l) (dress t (l.take i)).length ((dress t (l.take i)).length + r.length)
        rw [show (((dress t (l.take i)).length + r.length : Nat) : Int) = (((dress t (l.take i)).length + (m.length + 1) : Nat) : Int) + 1 from by rw [hrl]; (first | lia | omega)] at e
        rw [e, Nat.add_sub_cancel_left]
        conv => lhs; arg 2; rw [hsplit]
        rw [List.drop_left, hdd, hdr, List.take_left]
      have hb := back_lookup T hmem
      have h38 : (dr t l[i])[0]? = some 38 := by rw [hdr, hr]; rfl
      refine Ex.ite (b := (([38] == ([38] : List Nat)) && ((t.map fun p => (p.2, D.str [p.1])).lookup r).isSome)) (.and (.cmp (Ev.item (eL G') (eL G') (itm 38 h38)) (eS [38]) .eqStr) fun _ => .cmp (eCut (eL G') (.one (eL G')) (.one (eL G')) (by (first | lia | omega)) hcut) (eL G') .inDict) (fun _ => ?_) fun h => by rw [hb] at h; cases h
      refine Ex.unpackS (xs := ["bare", "at"]) G' (eT (a2 (Ev.bin (eL G') (Ev.item (eL G') (eCut (eL G') (.one (eL G')) (.one (eL G')) (by (first | lia | omega)) hcut) (.dict hb)) (.addStr (by rw [List.length_take, List.length_singleton]; (first | lia | omega)))) (eL G'))) rfl rfl rfl ?_
      refine Ex.nil (Ex.nil (Lp.sub (.cons (by rw [htk]; rfl) (.cons (by rw [hnext, hdr, hfind, hrl]; rfl) (.cons rfl (.cons rfl .nil)))) (ih (i + 1) hil (by (first | lia | omega)))))
  · have hil : i = l.length := by
      have : ¬ ((dress t (l.take i)).length : Int) < (dress t l).length := of_decide_eq_false h
      rcases Nat.lt_or_ge i l.length with q | q
      · exfalso
        have hdrop : l.drop i = l[i] :: l.drop (i + 1) := List.drop_eq_getElem_cons q
        have hdd : dress t (l.drop i) = dr t l[i] ++ dress t (l.drop (i + 1)) := by rw [hdrop]; rfl
        have : 0 < (dr t l[i]).length := by
          unfold dr
          cases e : t.lookup l[i] with
          | none => simp
          | some r => obtain ⟨m, h1, _⟩ := T.form _ (dr_mem e); simp only [Option.getD_some]; simp only at h1; rw [h1]; simp
        have hl := congrArg List.length hsplit
        rw [hdd, List.length_append, List.length_append] at hl
        (first | lia | omega)
      · (first | lia | omega)
    subst hil
    exact Ex.ret (eL G') ⟨[], by rw [List.take_length]⟩
end Mine
end

section
open PySem PySem.W PySem.Calls PyProof.Rows PySem.Builtin.Str PySem.SeqAt
set_option maxRecDepth 100000
namespace Mine
set_option linter.unusedVariables false
/-! names of a path -/
/-- a stem: signs without '.' or '/', maybe behind one '.' -/
def StemOk (f : List Nat) : Prop := ∃ g : List Nat, g ≠ [] ∧ 46 ∉ g ∧ 47 ∉ g ∧ (f = g ∨ f = 46 :: g)
def EndOk (e : List Nat) : Prop := ∃ h : List Nat, e = 46 :: h ∧ 46 ∉ h ∧ 47 ∉ h
theorem mem_free {f : List Nat} (h : StemOk f) : 47 ∉ f := by
  obtain ⟨g, _, _, h3, rfl | rfl⟩ := h
  · exact h3
  · simpa using h3
theorem end_free {f : List Nat} (h : EndOk f) : 47 ∉ f := by
  obtain ⟨g, rfl, _, h3⟩ := h
  simpa using h3
theorem rfnd_last {c : Nat} {a b : List Nat} (h : c ∉ b) : rfnd c (a ++ c :: b) = (a.length : Int) := by
  rcases rfnd_spec c (a ++ c :: b) with ⟨e, q⟩ | ⟨i, e, q1, q2⟩
  · exact absurd (by simp) (q a.length)
  · rw [e]
    rcases Nat.lt_trichotomy i a.length with w | w | w
    · exact absurd (by simp) (q2 a.length w)
    · rw [w]
    · exfalso
      obtain ⟨j, rfl⟩ : ∃ j, i = a.length + (j + 1) := ⟨i - a.length - 1, by (first | lia | omega)⟩
      rw [List.getElem?_append_right (by (first | lia | omega)), Nat.add_sub_cancel_left, List.getElem?_cons_succ] at q1
      exact h (List.mem_of_getElem? q1)
theorem rfnd_free {c : Nat} {a : List Nat} (h : c ∉ a) : rfnd c a = -1 := by
  rcases rfnd_spec c a with ⟨e, _⟩ | ⟨i, e, q, _⟩
  · exact e
  · exact absurd (List.mem_of_getElem? q) h
theorem xExt_stem {f : List Nat} (h : StemOk f) : xExt f = (f, []) := by
  obtain ⟨g, h1, h2, h3, rfl | rfl⟩ := h
  · unfold xExt; rw [rfnd_free h2]; rfl
  · unfold xExt
    have := rfnd_last (a := []) h2
    rw [List.nil_append] at this
    rw [this]; rfl
theorem xExt_end {f : List Nat} {es : List (List Nat)} {e : List Nat} (h : StemOk f) (he : EndOk e) : xExt (f ++ (es.flatten ++ e)) = (f ++ es.flatten, e) := by
  obtain ⟨h', rfl, h2, h3⟩ := he
  have e1 : f ++ (es.flatten ++ 46 :: h') = (f ++ es.flatten) ++ 46 :: h' := by simp
  rw [e1]
  unfold xExt
  rw [rfnd_last h2]
  simp only [Int.toNat_natCast, List.take_left, List.drop_left]
  have : ((f ++ es.flatten).any fun x => x != 46) = true := by
    obtain ⟨g, g1, g2, g3, hf⟩ := h
    obtain ⟨a, t, rfl⟩ := List.exists_cons_of_ne_nil g1
    have ha : a ≠ 46 := fun e => g2 (by simp [e])
    rw [List.any_eq_true]
    refine ⟨a, ?_, by simpa using ha⟩
    rcases hf with rfl | rfl <;> simp
  simp only [this, if_true]
/-- parts of a path: not empty, no '/' in them -/
def PartsOk (l : List (List Nat)) : Prop := ∀ c ∈ l, c ≠ [] ∧ 47 ∉ c
theorem jn_snoc (s : List Nat) : ∀ {l : List (List Nat)} {c : List Nat}, l ≠ [] → jn s (l ++ [c]) = jn s l ++ s ++ c
  | [x], c, _ => rfl
  | x :: y :: l, c, _ => by
    have ih := jn_snoc s (l := y :: l) (c := c) (by simp)
    show x ++ s ++ jn s (y :: l ++ [c]) = x ++ s ++ jn s (y :: l) ++ s ++ c
    rw [ih]; simp
theorem jn_ends {l : List (List Nat)} (h : PartsOk l) (hl : l ≠ []) : ∃ a b t, jn [47] l = a :: t ∧ a ≠ 47 ∧ (jn [47] l).getLast? = some b ∧ b ≠ 47 := by
  have first : ∃ a t, jn [47] l = a :: t ∧ a ≠ 47 := by
    cases l with
    | nil => exact absurd rfl hl
    | cons x l =>
      obtain ⟨h1, h2⟩ := h x (.head _)
      obtain ⟨a, t, rfl⟩ := List.exists_cons_of_ne_nil h1
      have ha : a ≠ 47 := fun e => h2 (by simp [e])
      cases l with
      | nil => exact ⟨a, t, rfl, ha⟩
      | cons y l => exact ⟨a, t ++ [47] ++ jn [47] (y :: l), by show (a :: t) ++ [47] ++ jn [47] (y :: l) = _; simp, ha⟩
  have last : ∃ b, (jn [47] l).getLast? = some b ∧ b ≠ 47 := by
    rcases List.eq_nil_or_concat l with rfl | ⟨l, c, rfl⟩
    · exact absurd rfl hl
    · rw [List.concat_eq_append] at h ⊢
      obtain ⟨h1, h2⟩ := h c (by simp)
      rcases List.eq_nil_or_concat c with rfl | ⟨c, b, rfl⟩
      · exact absurd rfl h1
      · rw [List.concat_eq_append] at h2 ⊢
        refine ⟨b, ?_, fun e => h2 (by simp [e])⟩
        cases l with
        | nil => simp [jn]
        | cons x l => rw [jn_snoc _ (by simp), ← List.append_assoc]; exact List.getLast?_concat
  obtain ⟨a, t, e, ha⟩ := first
  obtain ⟨b, e2, hb⟩ := last
  exact ⟨a, b, t, e, ha, e2, hb⟩
theorem rst_slash {l : List Nat} {b : Nat} (h : l.getLast? = some b) (hb : b ≠ 47) : rst 47 (l ++ [47]) = l := by
  unfold rst
  rw [List.reverse_append]
  rcases List.eq_nil_or_concat l with rfl | ⟨l, c, rfl⟩
  · cases h
  · rw [List.concat_eq_append] at h ⊢
    have : c = b := by simpa using h
    subst this
    have h1 : (47 == 47) = true := rfl
    have h2 : (c == 47) = false := by simpa using hb
    simp [List.dropWhile_cons, h1, h2]
theorem xSplit_snoc {l : List (List Nat)} {c : List Nat} (h : PartsOk (l ++ [c])) : xSplit (jn [47] (l ++ [c])) = (jn [47] l, c) := by
  obtain ⟨c1, c2⟩ := h c (by simp)
  cases l with
  | nil =>
    show xSplit c = ([], c)
    unfold xSplit
    rw [rfnd_free c2]; simp
  | cons x l =>
    have hl : PartsOk (x :: l) := fun d hd => h d (List.mem_append_left _ hd)
    obtain ⟨a, b, t, e1, ha, e2, hb⟩ := jn_ends hl (by simp)
    rw [jn_snoc _ (by simp)]
    unfold xSplit
    have e3 : jn [47] (x :: l) ++ [47] ++ c = jn [47] (x :: l) ++ 47 :: c := by simp
    rw [e3, rfnd_last c2]
    have e4 : ((jn [47] (x :: l)).length + 1 : Int).toNat = (jn [47] (x :: l) ++ [47]).length := by simp
    rw [e4, ← e3]
    simp only [List.take_left, List.drop_left]
    have hne : ((!(jn [47] (x :: l) ++ [47]).isEmpty) && (jn [47] (x :: l) ++ [47] != List.replicate (jn [47] (x :: l) ++ [47]).length 47)) = true := by
      rw [Bool.and_eq_true]
      refine ⟨by simp, ?_⟩
      rw [bne_iff_ne]
      intro q
      rw [e1] at q
      have := congrArg List.head? q
      simp [List.replicate_succ] at this
      exact ha this
    simp only [hne, if_true]
    rw [rst_slash e2 hb]
theorem xRoot_parts {root : List Nat} {l : List (List Nat)} (hr : root = [] ∨ root = [47] ∨ root = [47, 47]) (h : PartsOk l) (hl : root = [] → l ≠ []) : xRoot (root ++ jn [47] l) = (root, jn [47] l) := by
  have h1 : ∀ p : List Nat, pyCut none (some (1 : Int)) p = p.take 1 := fun p => cut_take p 1
  have h2 : ∀ p : List Nat, pyCut (some (1 : Int)) (some (2 : Int)) p = (p.drop 1).take 1 := fun p => cut_mid p 1 2
  have h3 : ∀ p : List Nat, pyCut (some (2 : Int)) (some (3 : Int)) p = (p.drop 2).take 1 := fun p => cut_mid p 2 3
  have h4 : ∀ p : List Nat, pyCut (some (1 : Int)) none p = p.drop 1 := fun p => cut_drop p 1
  have h5 : ∀ p : List Nat, pyCut none (some (2 : Int)) p = p.take 2 := fun p => cut_take p 2
  have h6 : ∀ p : List Nat, pyCut (some (2 : Int)) none p = p.drop 2 := fun p => cut_drop p 2
  have hj : (jn [47] l).take 1 ≠ [47] := by
    by_cases q : l = []
    · subst q; simp [jn]
    · obtain ⟨a, b, t, e, ha, _⟩ := jn_ends h q
      rw [e]; simpa using ha
  unfold xRoot
  rw [h1, h2, h3, h4, h5, h6]
  rcases hr with rfl | rfl | rfl
  · rw [List.nil_append, if_pos (by rw [bne_iff_ne]; exact hj)]
  · rw [if_neg (by simp), if_pos]
    · simp
    · rw [Bool.or_eq_true]; left; rw [bne_iff_ne]; simpa using hj
  · rw [if_neg (by simp), if_neg]
    · simp
    · rw [Bool.or_eq_true]
      rintro (q | q)
      · simp at q
      · rw [beq_iff_eq] at q; exact hj (by simpa using q)
theorem jn_nil_iff {l : List (List Nat)} (h : PartsOk l) : jn [47] l = [] ↔ l = [] := by
  constructor
  · intro q
    by_cases w : l = []
    · exact w
    · obtain ⟨a, b, t, e, _⟩ := jn_ends h w
      rw [e] at q; cases q
  · rintro rfl; rfl
theorem pRead : Plain dLawReadP.1 2 := .k2 rfl (fun _ _ _ _ _ _ => rfl) (by decide +kernel) rfl rfl rfl (by decide +kernel)
/-- a name: its stem and its endings -/
structure NameOk (nm : List (List Nat)) : Prop where
  shape : ∃ f es, nm = f :: es ∧ StemOk f ∧ ∀ e ∈ es, EndOk e
  size : nm.flatten.length ≤ 30000
/-- what a table leaves alone -/
structure PathTab (t : Tab) : Prop where
  ok : TabOk t
  k46 : 46 ∉ t.map (·.1)
  k47 : 47 ∉ t.map (·.1)
  v46 : ∀ p ∈ t, 46 ∉ p.2
  v47 : ∀ p ∈ t, 47 ∉ p.2
theorem dr_self {t : Tab} {a : Nat} (h : a ∉ t.map (·.1)) : dr t a = [a] := by unfold dr; rw [lookup_none h]; rfl
theorem dress_free {t : Tab} {c : Nat} (hc : ∀ p ∈ t, c ∉ p.2) {l : List Nat} (h : c ∉ l) : c ∉ dress t l := by
  intro q
  obtain ⟨a, ha, q⟩ := List.mem_flatMap.mp q
  unfold dr at q
  cases e : t.lookup a with
  | none => rw [e] at q; simp only [Option.getD_none, List.mem_singleton] at q; exact h (q ▸ ha)
  | some r => rw [e] at q; exact hc _ (dr_mem e) q
theorem dress_ne {t : Tab} (T : TabOk t) {l : List Nat} (h : l ≠ []) : dress t l ≠ [] := by
  obtain ⟨a, l, rfl⟩ := List.exists_cons_of_ne_nil h
  show dr t a ++ dress t l ≠ []
  have : dr t a ≠ [] := by
    unfold dr
    cases e : t.lookup a with
    | none => simp
    | some r => obtain ⟨m, h1, _⟩ := T.form _ (dr_mem e); simp only at h1; simp only [Option.getD_some]; rw [h1]; simp
  intro q
  exact this (List.append_eq_nil_iff.mp q).1
theorem dress_stem {t : Tab} (T : PathTab t) {f : List Nat} (h : StemOk f) : StemOk (dress t f) := by
  obtain ⟨g, h1, h2, h3, hf⟩ := h
  refine ⟨dress t g, dress_ne T.ok h1, dress_free T.v46 h2, dress_free T.v47 h3, ?_⟩
  rcases hf with rfl | rfl
  · exact .inl rfl
  · right; show dr t 46 ++ dress t g = _; rw [dr_self T.k46]; rfl
theorem dress_end {t : Tab} (T : PathTab t) {e : List Nat} (h : EndOk e) : EndOk (dress t e) := by
  obtain ⟨g, rfl, h2, h3⟩ := h
  exact ⟨dress t g, by show dr t 46 ++ dress t g = _; rw [dr_self T.k46]; rfl, dress_free T.v46 h2, dress_free T.v47 h3⟩
theorem dress_flatten (t : Tab) : ∀ l : List (List Nat), dress t l.flatten = (l.map (dress t)).flatten
  | [] => rfl
  | a :: l => by rw [List.flatten_cons, dress_append, dress_flatten t l, List.map_cons, List.flatten_cons]
end Mine
end

section
open PySem PySem.W PySem.Calls PyProof.Rows PySem.Builtin.Str PySem.SeqAt
set_option maxRecDepth 100000
namespace Mine
set_option linter.unusedVariables false
/-- one way as data -/
def wayD (root : List Nat) (ups : Nat) (names : List (List (List Nat))) : D := .list [.str root, .int ups, .list (names.map fun nm => .list (nm.map .str))]
/-- the parts of a way, dressed -/
def comps (t : Tab) (ups : Nat) (names : List (List (List Nat))) : List (List Nat) := List.replicate ups [46, 46] ++ names.map fun nm => dress t nm.flatten
def comps0 (t : Tab) (root : List Nat) (ups : Nat) (names : List (List (List Nat))) : List (List Nat) := if root = [] ∧ comps t ups names = [] then [[46]] else comps t ups names
theorem name_parts {t : Tab} (T : PathTab t) {nm : List (List Nat)} (h : NameOk nm) : ∃ f es, nm = f :: es ∧ StemOk (dress t f) ∧ (∀ e ∈ es, EndOk (dress t e)) ∧ dress t nm.flatten = dress t f ++ (es.map (dress t)).flatten ∧ dress t nm.flatten ≠ [] ∧ 47 ∉ dress t nm.flatten ∧ dress t nm.flatten ≠ [46] ∧ dress t nm.flatten ≠ [46, 46] := by
  obtain ⟨f, es, rfl, hf, he⟩ := h.shape
  have hf' := dress_stem T hf
  have e1 : dress t (f :: es).flatten = dress t f ++ (es.map (dress t)).flatten := by rw [List.flatten_cons, dress_append, dress_flatten]
  refine ⟨f, es, rfl, hf', fun e h => dress_end T (he e h), e1, ?_, ?_, ?_⟩
  · rw [e1]
    obtain ⟨g, h1, _, _, hg⟩ := hf'
    intro q
    have := (List.append_eq_nil_iff.mp q).1
    rcases hg with w | w
    · rw [w] at this; exact h1 this
    · rw [w] at this; cases this
  · rw [e1]
    intro q
    rcases List.mem_append.mp q with q | q
    · exact mem_free hf' q
    · obtain ⟨l, hl, q⟩ := List.mem_flatten.mp q
      obtain ⟨e, he2, rfl⟩ := List.mem_map.mp hl
      exact end_free (dress_end T (he e he2)) q
  · obtain ⟨g, h1, h2, _, hg⟩ := hf'
    obtain ⟨a, r, rfl⟩ := List.exists_cons_of_ne_nil h1
    have ha : a ≠ 46 := fun e => h2 (by simp [e])
    have : a ∈ dress t (f :: es).flatten := by rw [e1]; rcases hg with w | w <;> rw [w] <;> simp
    constructor
    · intro q; rw [q] at this; simp at this; exact ha this
    · intro q; rw [q] at this; simp at this; exact ha this
theorem comps_ok {t : Tab} (T : PathTab t) {ups : Nat} {names : List (List (List Nat))} (h : ∀ nm ∈ names, NameOk nm) : PartsOk (comps t ups names) ∧ ∀ c ∈ comps t ups names, c ≠ [46] := by
  constructor
  · intro c hc
    rcases List.mem_append.mp hc with q | q
    · obtain ⟨_, rfl⟩ := List.mem_replicate.mp q; simp
    · obtain ⟨nm, hn, rfl⟩ := List.mem_map.mp q
      obtain ⟨f, es, _, _, _, _, h1, h2, _⟩ := name_parts T (h nm hn)
      exact ⟨h1, h2⟩
  · intro c hc
    rcases List.mem_append.mp hc with q | q
    · obtain ⟨_, rfl⟩ := List.mem_replicate.mp q; simp
    · obtain ⟨nm, hn, rfl⟩ := List.mem_map.mp q
      obtain ⟨f, es, _, _, _, _, h1, h2, h3, h4⟩ := name_parts T (h nm hn)
      exact h3
theorem comps0_ok {t : Tab} (T : PathTab t) {root : List Nat} {ups : Nat} {names : List (List (List Nat))} (h : ∀ nm ∈ names, NameOk nm) : PartsOk (comps0 t root ups names) := by
  unfold comps0
  split
  · intro c hc; simp at hc; subst hc; simp
  · exact (comps_ok T h).1
theorem c_read {C : Cx} (G : Gd C) (K : Kn C) (R : Room C 3) {t : Tab} (T : PathTab t) {root : List Nat} {ups : Nat} {names : List (List (List Nat))} (hr : root = [] ∨ root = [47] ∨ root = [47, 47]) (hn : ∀ nm ∈ names, NameOk nm) (hlen : ups + names.length < 60) (hsz : (root ++ jn [47] (comps0 t root ups names)).length ≤ 1000000) :
    CallD C "_law_read" [.str (root ++ jn [47] (comps0 t root ups names)), backD t] (wayD root ups names) := by
  refine CallD.def G R K.dLawReadP pRead rfl fun L f cd => ?_
  have G' := G.call (x := "_law_read") (scope := dLawReadP.1.2.2) (L := L) (f := f) (cd := cd) rfl
  have K' : Kn (C.call "_law_read" dLawReadP.1.2.2 L f cd) := K.cast rfl rfl rfl
  have R' : Room (C.call "_law_read" dLawReadP.1.2.2 L f cd) 2 := R.call
  have hok := comps0_ok T (root := root) (ups := ups) hn
  have hx := xRoot_parts hr hok (fun e q => by unfold comps0 at q; split at q; cases q; rename_i w; exact w ⟨e, q⟩)
  have hc0 : (comps t ups names).length = ups + names.length := by simp [comps]
  have hl0 : (comps0 t root ups names).length ≤ ups + names.length + 1 := by unfold comps0; split <;> first | omega | simp
  generalize hcs : comps0 t root ups names = cs0 at hx hok hsz hl0
  have hjl : (jn [47] cs0).length ≤ 1000000 := by rw [List.length_append] at hsz; (first | lia | omega)
  have hjk : ∀ k, (jn [47] (cs0.take k)).length ≤ 1000000 := by
    intro k
    have : ∀ (a b : List (List Nat)), (jn [47] a).length ≤ (jn [47] (a ++ b)).length := by
      intro a b
      induction b generalizing a with
      | nil => simp
      | cons x b ih =>
        have h1 := ih (a ++ [x])
        rw [List.append_assoc] at h1
        refine Nat.le_trans ?_ h1
        cases a with
        | nil => simp [jn]
        | cons y a => rw [jn_snoc _ (by simp)]; simp only [List.length_append]; (first | lia | omega)
    have h2 := this (cs0.take k) (cs0.drop k)
    rw [List.take_append_drop] at h2
    (first | lia | omega)
  refine Ex.unpack (xs := ["root", "rest"]) (ds := [.str root, .str (jn [47] cs0)]) G' (eTupFrom (a := 1) (eC G' (a1 (eL G')) (c_splitroot (n := 0) G' K' (R'.le (by decide)) (by (first | lia | omega)))) (.one Ev.int) (Nat.le_refl 1) (Nat.le_of_ble_eq_true rfl) (Nat.le_of_ble_eq_true rfl) (by rw [hx]; rfl)) (.inl rfl) (.cons (.cons .nil)) rfl rfl ?_
  refine Ex.assignNew G' (fun a => Ex.freeze (x := "names") rfl ?_) rfl
  have hk0 : cs0.length ≤ 60 := by (first | lia | omega)
  refine Ex.loop (fun k : Nat => [("rest", .str (jn [47] (cs0.take k))), ("names", .list ((cs0.drop k).map .str)), ("root", .str root), ("back", backD t)]) (fun _ => []) (fun k => k) (fun k => k ≤ cs0.length) cs0.length (Nat.le_refl _) (.cons (by rw [List.take_length]; rfl) (.cons (by rw [List.drop_length]; rfl) (.cons rfl (.cons rfl .nil)))) rfl ?_
  intro k hk ih
  have hlk : ((cs0.drop k).map D.str).length ≤ 16777216 := by rw [List.length_map, List.length_drop]; (first | lia | omega)
  have hpk : PartsOk (cs0.take k) := fun c hc => hok c (List.mem_of_mem_take hc)
  refine Lp.turn (.and (.plain (eL G') (.str (Nat.le_trans (hjk k) (by decide)))) fun _ => .cmp (eB G' K'.len (a1 (eL G')) (.lenList hlk)) Ev.int .ltInt) (fun h => ?_) fun h => Ex.nil ?_
  · rw [Bool.and_eq_true] at h
    have hkp : 0 < k := by
      rcases Nat.eq_zero_or_pos k with q | q
      · subst q; simp [jn] at h
      · exact q
    obtain ⟨j, rfl⟩ : ∃ j, k = j + 1 := ⟨k - 1, by (first | lia | omega)⟩
    have hj : j < cs0.length := by (first | lia | omega)
    have e1 : cs0.take (j + 1) = cs0.take j ++ [cs0[j]] := by rw [List.take_add_one, List.getElem?_eq_getElem hj]; rfl
    have e2 : cs0.drop j = cs0[j] :: cs0.drop (j + 1) := List.drop_eq_getElem_cons hj
    have hsp := c_split G' K' (R'.le (by decide)) (x := jn [47] (cs0.take (j + 1))) (Nat.le_trans (hjk _) (by decide))
    rw [e1] at hsp hpk
    rw [xSplit_snoc hpk] at hsp
    rw [← e1] at hsp
    refine Ex.unpack (xs := ["rest", "tail"]) (ds := [.str (jn [47] (cs0.take j)), .str cs0[j]]) G' (eC G' (a1 (eL G')) hsp) (.inl rfl) (.cons (.cons .nil)) rfl rfl ?_
    refine Ex.assign G' (Ev.bin (eLs (a1 (eL G'))) (eL G') (.addList (by rw [List.length_map, List.length_drop]; show 1 + _ ≤ _; (first | lia | omega)))) ?_ rfl
    exact Ex.nil (Lp.sub (.cons rfl (.cons (by rw [e2]; rfl) (.cons rfl (.cons rfl .nil)))) (ih j (by (first | lia | omega)) (by (first | lia | omega))))
  · have hk0' : k = 0 := by
      rw [Bool.and_eq_false_iff] at h
      rcases h with h | h
      · have h3 : jn [47] (cs0.take k) = [] := by simpa using h
        have := (jn_nil_iff hpk).mp h3
        rw [List.take_eq_nil_iff] at this
        rcases this with q | q
        · exact q
        · subst q; simp at hk; exact hk
      · have h3 : ¬ ((((cs0.drop k).map D.str).length : Int) < 60) := of_decide_eq_false h
        rw [List.length_map, List.length_drop] at h3
        (first | lia | omega)
    subst hk0'
    have hcs2 : comps t ups names = if cs0 = [[46]] then [] else cs0 := by
      rw [← hcs]
      unfold comps0
      split
      · rename_i w; simp [w.2]
      · rename_i w
        rw [if_neg]
        intro q
        exact (comps_ok T hn).2 [46] (by rw [q]; simp) rfl
    refine Ex.iteJ [("names", .list ((comps t ups names).map .str)), ("root", .str root), ("back", backD t)] [] (b := cs0 == [[46]]) (.cmp (eL G') (eLs (a1 (eS [46]))) (Cmp.eqStrs R' (xs := cs0) (ys := [[46]]))) (fun h => ?_) (fun h => ?_) ?_
    · have h : cs0 = [[46]] := by simpa using h
      refine Ex.assignNew G' (fun a => Ex.freeze (x := "names") rfl (Ex.nil ⟨.cons ?_ (.cons rfl (.cons rfl .nil)), rfl⟩)) rfl
      rw [hcs2, if_pos h]; rfl
    · have h : cs0 ≠ [[46]] := by simpa using h
      refine Ex.nil ⟨.cons ?_ (.cons rfl (.cons rfl .nil)), rfl⟩
      rw [hcs2, if_neg h]; rfl
    refine Ex.assign G' Ev.int ?_ rfl
    have hcl : ((comps t ups names).map D.str).length ≤ 16777216 := by rw [List.length_map]; (first | lia | omega)
    refine Ex.loop (fun i : Nat => [("ups", .int i), ("names", .list ((comps t ups names).map .str)), ("root", .str root), ("back", backD t)]) (fun _ => []) (fun i => ups - i) (fun i => i ≤ ups) 0 (Nat.zero_le _) (.cons rfl (.cons rfl (.cons rfl (.cons rfl .nil)))) rfl ?_
    intro i hi ih2
    have hcut : pyCut (some (i : Int)) (some ((i : Int) + 1)) ((comps t ups names).map D.str) = (((comps t ups names).drop i).take 1).map D.str := by
      have := cut_mid ((comps t ups names).map D.str) i (i + 1)
      rw [show ((i + 1 : Nat) : Int) = (i : Int) + 1 from by (first | lia | omega)] at this
      rw [this, Nat.add_sub_cancel_left, List.map_take, List.map_drop]
    have hdots : (((comps t ups names).drop i).take 1 == [[46, 46]]) = decide (i < ups) := by
      rw [Bool.eq_iff_iff, beq_iff_eq, decide_eq_true_iff]
      unfold comps
      constructor
      · intro q
        rcases Nat.lt_or_ge i ups with w | w
        · exact w
        · exfalso
          have : i = ups := by (first | lia | omega)
          subst this
          rw [List.drop_left' (by simp)] at q
          cases names with
          | nil => cases q
          | cons nm names =>
            simp only [List.map_cons, List.take_succ_cons, List.take_zero, List.cons.injEq, and_true] at q
            obtain ⟨_, _, _, _, _, _, _, _, _, h4⟩ := name_parts T (hn nm (.head _))
            exact h4 q
      · intro w
        rw [List.drop_append_of_le_length (by simp; (first | lia | omega)), List.drop_replicate]
        obtain ⟨m, hm⟩ : ∃ m, ups - i = m + 1 := ⟨ups - i - 1, by (first | lia | omega)⟩
        rw [hm, List.replicate_succ]; rfl
    have htest := Cmp.eqStrs R' (xs := ((comps t ups names).drop i).take 1) (ys := [[46, 46]])
    rw [hdots] at htest
    refine Lp.turn (.cmp (eCutL (eL G') (.one (eL G')) (.one (Ev.bin (eL G') Ev.int .addInt)) hcl hcut) (eLs (a1 (eS [46, 46]))) htest) (fun h => ?_) fun h => Ex.nil ?_
    · have hiu : i < ups := of_decide_eq_true h
      refine Ex.aug G' rfl Ev.int .addInt ?_ rfl
      exact Ex.nil (Lp.sub (.cons rfl (.cons rfl (.cons rfl (.cons rfl .nil)))) (ih2 (i + 1) hiu (by (first | lia | omega))))
    have hiu : i = ups := by have : ¬ i < ups := of_decide_eq_false h; (first | lia | omega)
    subst hiu
    clear ih ih2 htest hdots hcut
    refine Ex.assignNew G' (fun a => ?_) rfl
    have hdrop : pyCut (some (i : Int)) none ((comps t i names).map D.str) = (names.map fun nm => D.str (dress t nm.flatten)) := by
      rw [cut_drop, ← List.map_drop]
      unfold comps
      rw [List.drop_left' (by simp), List.map_map]; rfl
    refine Ex.forIt G' (eCutL (eL G') (.one (eL G')) .nil hcl hdrop) (fun z v r => It.list G' r) (fun d _ => As.name G' rfl) (FL.sub (ρ' := [("found", .val (.ref a)), ("ups", .int i), ("root", .str root), ("back", backD t)]) (.cons rfl (.cons rfl (.cons rfl (.cons rfl .nil))))
      (FL.ind (fun done : List (List (List Nat)) => [("found", .val (.ref a)), ("ups", .int i), ("root", .str root), ("back", backD t)]) (fun done => [(a, .lst (done.map fun nm => .list (nm.map .str)))])
        (fun done ds => ∃ rest, names = done ++ rest ∧ ds = rest.map fun nm => D.str (dress t nm.flatten)) (fun done h => ?_) (fun done d ds h => ?_) _ [] ⟨names, rfl, rfl⟩))
    · obtain ⟨rest, h1, h2⟩ := h
      have : rest = [] := by cases rest with | nil => rfl | cons => cases h2
      subst this
      rw [List.append_nil] at h1
      subst h1
      refine Ex.nil (Ex.freeze (x := "found") rfl ?_)
      exact Ex.ret (eLs (a3 (eL G') (eL G') (eL G'))) ⟨[], rfl⟩
    · obtain ⟨rest, h1, h2⟩ := h
      cases rest with
      | nil => cases h2
      | cons nm rest =>
        simp only [List.map_cons, List.cons.injEq] at h2
        obtain ⟨rfl, rfl⟩ := h2
        have hnm := hn nm (by rw [h1]; simp)
        obtain ⟨fs, es, rfl, hf, he, e1, e2, e3, _⟩ := name_parts T hnm
        have hS : ∀ k, (fs :: es.take k).flatten.length ≤ 30000 := fun k => by
          have h3 := hnm.size
          rw [List.flatten_cons, List.length_append] at h3 ⊢
          have : (es.take k).flatten.length ≤ es.flatten.length := by
            conv => rhs; rw [← List.take_append_drop k es]
            rw [List.flatten_append, List.length_append]; (first | lia | omega)
          (first | lia | omega)
        have hel : es.length ≤ 30000 := by
          have h3 := hnm.size
          rw [List.flatten_cons, List.length_append] at h3
          have : ∀ l : List (List Nat), (∀ e ∈ l, EndOk (dress t e)) → l.length ≤ l.flatten.length := by
            intro l
            induction l with
            | nil => intro _; simp
            | cons x l ih =>
              intro h4
              have h5 := ih fun e h => h4 e (.tail _ h)
              have : 0 < x.length := by
                rcases Nat.eq_zero_or_pos x.length with w | w
                · obtain ⟨g, hg, _⟩ := h4 x (.head _)
                  rw [List.length_eq_zero_iff.mp w] at hg; cases hg
                · exact w
              rw [List.flatten_cons, List.length_append, List.length_cons]; (first | lia | omega)
          have := this es he
          (first | lia | omega)
        have hx0 : xExt (dress t (fs :: es.take 0).flatten) = (dress t fs, []) := by
          rw [List.take_zero, List.flatten_cons, List.flatten_nil, List.append_nil]
          exact xExt_stem hf
        have hxs : ∀ k (hk : k < es.length), xExt (dress t (fs :: es.take (k + 1)).flatten) = (dress t (fs :: es.take k).flatten, dress t es[k]) := fun k hk => by
          have := xExt_end (es := (es.take k).map (dress t)) hf (he es[k] (List.getElem_mem hk))
          rw [List.flatten_cons, dress_append, List.take_add_one, List.getElem?_eq_getElem hk, List.flatten_append, dress_append, dress_flatten t (es.take k)]
          simp only [Option.toList_some, List.flatten_cons, List.flatten_nil, List.append_nil]
          rw [this, dress_append, dress_flatten]
        have h47 : ∀ k, 47 ∉ dress t (fs :: es.take k).flatten := fun k q => by
          rw [List.flatten_cons, dress_append, dress_flatten] at q
          rcases List.mem_append.mp q with q | q
          · exact mem_free hf q
          · obtain ⟨l, hl, q⟩ := List.mem_flatten.mp q
            obtain ⟨e, he2, rfl⟩ := List.mem_map.mp hl
            exact end_free (he e (List.mem_of_mem_take he2)) q
        have hDl : ∀ k, (dress t (fs :: es.take k).flatten).length ≤ 16777216 := fun k => Nat.le_trans (dress_length T.ok.six _) (by have := hS k; (first | lia | omega))
        have hsx : ∀ k, CallD (C.call "_law_read" dLawReadP.1.2.2 L f cd) "splitext" [.str (dress t (fs :: es.take k).flatten)] (.tup [.str (xExt (dress t (fs :: es.take k).flatten)).1, .str (xExt (dress t (fs :: es.take k).flatten)).2]) := fun k => c_splitext G' K' (R'.le (by decide)) (hDl k) (h47 k)
        have hall := hsx es.length
        rw [List.take_length] at hall
        refine Ex.assignNew G' (fun b => Ex.freeze (x := "behind") rfl ?_) rfl
        refine Ex.unpack (xs := ["stem", "ending"]) G' (eC G' (a1 (eL G')) hall) (.inl rfl) (.cons (.cons .nil)) rfl rfl ?_
        refine Ex.loop (fun k : Nat => [("stem", .str (xExt (dress t (fs :: es.take k).flatten)).1), ("ending", .str (xExt (dress t (fs :: es.take k).flatten)).2), ("behind", .list ((es.drop k).map .str)), ("found", .val (.ref a)), ("ups", .int i), ("root", .str root), ("back", backD t)]) (fun _ => [(a, .lst (done.map fun nm => .list (nm.map .str)))]) (fun k => k) (fun k => k ≤ es.length) es.length (Nat.le_refl _)
          (.cons (by rw [List.take_length]; rfl) (.cons (by rw [List.take_length]; rfl) (.cons (by rw [List.drop_length]; rfl) (.cons rfl (.cons rfl (.cons rfl (.cons rfl .nil))))))) rfl ?_
        intro k hk ih
        cases k with
        | zero =>
          rw [hx0]
          refine Lp.turn (b := false) (.plain (eL G') (Tru.str (a := []) (Nat.zero_le _))) (fun h => nomatch h) fun h => Ex.nil ?_
          have hfl : fs.length ≤ 200000 := by have := hS 0; rw [List.flatten_cons, List.length_append] at this; (first | lia | omega)
          refine Ex.append G' rfl (Ev.bin (eLs (a1 (eC G' (a2 (eL G') (eL G')) (c_bare G' K' (R'.le (by decide)) T.ok hfl)))) (eL G') (.addList (by simp; (first | lia | omega)))) (by rw [List.length_map]; have := congrArg List.length h1; rw [List.length_append] at this; (first | lia | omega)) (Ex.nil ⟨done ++ [fs :: es], ⟨rest, by rw [h1]; simp, rfl⟩, .cons rfl (.cons rfl (.cons rfl (.cons rfl .nil))), ?_⟩) rfl rfl
          simp
        | succ k =>
          have hkl : k < es.length := by (first | lia | omega)
          rw [hxs k hkl]
          have hek : es[k].length ≤ 200000 := by
            have h3 := hS (k + 1)
            rw [List.flatten_cons, List.length_append, List.take_add_one, List.getElem?_eq_getElem hkl, List.flatten_append, List.length_append] at h3
            simp at h3; (first | lia | omega)
          have hne : dress t es[k] ≠ [] := by
            obtain ⟨g, hg, _⟩ := he es[k] (List.getElem_mem hkl)
            rw [hg]; simp
          have hd : es.drop k = es[k] :: es.drop (k + 1) := List.drop_eq_getElem_cons hkl
          refine Lp.turn (b := !(dress t es[k]).isEmpty) (.plain (eL G') (.str (Nat.le_trans (dress_length T.ok.six _) (by (first | lia | omega))))) (fun h => ?_) fun h => absurd (by simpa using h) hne
          refine Ex.assign G' (Ev.bin (eLs (a1 (eC G' (a2 (eL G') (eL G')) (c_bare G' K' (R'.le (by decide)) T.ok hek)))) (eL G') (.addList (by simp; (first | lia | omega)))) ?_ rfl
          refine Ex.unpack (xs := ["stem", "ending"]) G' (eC G' (a1 (eL G')) (hsx k)) (.inl rfl) (.cons (.cons .nil)) rfl rfl ?_
          exact Ex.nil (Lp.sub (.cons rfl (.cons rfl (.cons (by rw [hd]; rfl) (.cons rfl (.cons rfl (.cons rfl (.cons rfl .nil))))))) (ih k (by (first | lia | omega)) (by (first | lia | omega))))
end Mine
end

section
open PySem PySem.W PySem.Calls PyProof.Rows PySem.Builtin.Str PySem.SeqAt
set_option maxRecDepth 100000
namespace Mine
set_option linter.unusedVariables false
/-! the reader of the pattern -/
def spec : List Nat := [40, 41, 91, 93, 123, 125, 63, 42, 43, 45, 124, 94, 36, 92, 46, 38, 126, 35, 32, 9, 10, 13, 11, 12]
/-- what the translator writes for a sign of a barred line -/
def tr (c : Nat) : List Nat := if c = 91 then [91, 92, 91, 93] else if c = 42 ∨ c = 63 then [91, c, 93] else if c ∈ spec then [92, c] else [c]
def opn : List Nat := [40, 63, 62, 46, 42, 63]
def tailB : List (List Nat) → List Nat
  | [] => []
  | [l] => [46, 42] ++ l.flatMap tr
  | l :: m :: ls => opn ++ l.flatMap tr ++ [41] ++ tailB (m :: ls)
/-- the whole pattern -/
def rxOf : List (List Nat) → List Nat
  | [] => []
  | l :: ls => [40, 63, 115, 58] ++ (l.flatMap tr ++ tailB ls) ++ [41, 92, 90]
def stg : Nat → List Nat
  | 0 => [102, 105, 114, 115, 116]
  | 1 => [105, 110, 110, 101, 114]
  | 2 => [98, 101, 116, 119, 101, 101, 110]
  | _ => [108, 97, 115, 116]
theorem pRuns : Plain dLawRunsP.1 1 := .k1 rfl (fun _ _ _ _ _ => rfl) (by decide +kernel) rfl rfl rfl (by decide +kernel)
structure RS where
  k : Nat
  dn : List (List Nat)
  pr : List Nat
  cu : List Nat
  rs : List (List Nat)
  pre : List Nat
def RS.rem (s : RS) : List Nat := match s.k with
  | 0 => s.cu.flatMap tr ++ tailB s.rs
  | 1 => s.cu.flatMap tr ++ ([41] ++ tailB s.rs)
  | 2 => tailB s.rs
  | _ => s.cu.flatMap tr
structure RS.Ok (s : RS) (rx : List Nat) (lines : List (List Nat)) : Prop where
  k : s.k ≤ 3
  rx : rx = s.pre ++ (s.rem ++ [41, 92, 90])
  li : s.dn ++ [s.pr ++ s.cu] ++ s.rs = lines
  two : s.k = 2 → s.cu = []
  mid : s.k = 1 ∨ s.k = 2 → s.rs ≠ []
  last : s.k = 3 → s.rs = []
def RS.loc (s : RS) (rx : List Nat) : Loc := [("runs", .list ((s.dn ++ [s.pr]).map .str)), ("at", .int s.pre.length), ("stage", .str (stg s.k)), ("rx", .str rx)]
theorem tr_head (c : Nat) : ∃ a r, tr c = a :: r ∧ a ≠ 40 ∧ a ≠ 46 ∧ a ≠ 41 := by
  unfold tr
  by_cases h1 : c = 91
  · rw [if_pos h1]; exact ⟨_, _, rfl, by decide, by decide, by decide⟩
  · rw [if_neg h1]
    by_cases h2 : c = 42 ∨ c = 63
    · rw [if_pos h2]; exact ⟨_, _, rfl, by decide, by decide, by decide⟩
    · rw [if_neg h2]
      by_cases h3 : c ∈ spec
      · rw [if_pos h3]; exact ⟨_, _, rfl, by decide, by decide, by decide⟩
      · rw [if_neg h3]
        exact ⟨_, _, rfl, fun e => h3 (by subst e; decide), fun e => h3 (by subst e; decide), fun e => h3 (by subst e; decide)⟩
set_option maxHeartbeats 4000000 in
theorem c_runs {C : Cx} (G : Gd C) (K : Kn C) (R : Room C 1) {l0 : List Nat} {ls : List (List Nat)} (hsz : (rxOf (l0 :: ls)).length ≤ 8000000) (hll : ls.length ≤ 1000) (hls : ∀ l ∈ l0 :: ls, l.length ≤ 8000000) : CallD C "_law_runs" [.str (rxOf (l0 :: ls))] (.list ((l0 :: ls).map .str)) := by
  refine CallD.def G R K.dLawRunsP pRuns rfl fun L f cd => ?_
  have G' := G.call (x := "_law_runs") (scope := dLawRunsP.1.2.2) (L := L) (f := f) (cd := cd) rfl
  have K' : Kn (C.call "_law_runs" dLawRunsP.1.2.2 L f cd) := K.cast rfl rfl rfl
  have R' : Room (C.call "_law_runs" dLawRunsP.1.2.2 L f cd) 0 := R.call
  have hrx : rxOf (l0 :: ls) = [40, 63, 115, 58] ++ ((l0.flatMap tr ++ tailB ls) ++ [41, 92, 90]) := by unfold rxOf; simp
  generalize hx : rxOf (l0 :: ls) = rx at hsz hrx
  have h1 : pyCut none (some (4 : Int)) rx = [40, 63, 115, 58] := by
    have this : pyCut none (some (4 : Int)) rx = rx.take 4 := cut_take rx 4
    rw [this, hrx]; rfl
  have h2 : pyCut (some (-3 : Int)) none rx = [41, 92, 90] := by
    have := cut_last rx 3 (by rw [hrx]; simp) (by decide)
    rw [show (-3 : Int) = -((3 : Nat) : Int) from rfl, this, hrx, ← List.append_assoc]
    exact List.drop_left' (by simp only [List.length_append, List.length_cons, List.length_nil]; (first | lia | omega))
  refine Ex.ite (b := ([40, 63, 115, 58] != ([40, 63, 115, 58] : List Nat)) || (([41, 92, 90] : List Nat) != [41, 92, 90])) (.or (.cmp (eCut (eL G') .nil (.one Ev.int) (by (first | lia | omega)) h1) (eS _) .neStr) fun _ => .cmp (eCut (eL G') (.one (Ev.neg Ev.int)) .nil (by (first | lia | omega)) h2) (eS _) .neStr) (fun h => nomatch h) fun _ => Ex.nil ?_
  refine Ex.unpackS (xs := ["runs", "at", "stage"]) G' (eT (a3 (eLs (a1 (eS []))) Ev.int (eS (stg 0)))) rfl rfl rfl ?_
  refine Ex.loop (fun s : RS => s.loc rx) (fun _ => []) (fun s => s.rem.length) (fun s => s.Ok rx (l0 :: ls)) ⟨0, [], [], l0, ls, [40, 63, 115, 58]⟩ ⟨Nat.zero_le _, hrx, rfl, nofun, (by rintro (h | h) <;> cases h), nofun⟩ (.cons rfl (.cons rfl (.cons rfl (.cons rfl .nil)))) rfl ?_
  intro s hs ih
  have hlen : rx.length = s.pre.length + s.rem.length + 3 := by rw [hs.rx]; simp; (first | lia | omega)
  refine Lp.turn (b := decide ((s.pre.length : Int) < (rx.length : Int) - 3)) (.cmp (eL G') (Ev.bin (eB G' K'.len (a1 (eL G')) (.lenStr (by (first | lia | omega)))) Ev.int .subInt) .ltInt) (fun h => ?_) fun h => Ex.nil ?_
  · have hrem : 0 < s.rem.length := by have := of_decide_eq_true h; (first | lia | omega)
    obtain ⟨a, r, hr⟩ : ∃ a r, s.rem = a :: r := by
      cases q : s.rem with
      | nil => rw [q] at hrem; cases hrem
      | cons a r => exact ⟨a, r, rfl⟩
    have hcut : ∀ m : Nat, pyCut (some (s.pre.length : Int)) (some ((s.pre.length : Int) + (m : Int))) rx = (s.rem ++ [41, 92, 90]).take m := fun m => by
      have := cut_mid rx s.pre.length (s.pre.length + m)
      rw [show ((s.pre.length + m : Nat) : Int) = (s.pre.length : Int) + (m : Int) from by (first | lia | omega)] at this
      rw [this, Nat.add_sub_cancel_left]
      conv => lhs; arg 2; rw [hs.rx]
      rw [List.drop_left]
    have hitm : ∀ (j : Nat) (c : Nat), (s.rem ++ [41, 92, 90])[j]? = some c → Itm (C.call "_law_runs" dLawRunsP.1.2.2 L f cd) (.str rx) (.int ((s.pre.length : Int) + (j : Int))) (.str [c]) := fun j c hc => by
      have hj : j < s.rem.length + 3 := by have := (List.getElem?_eq_some_iff.mp hc).1; simpa using this
      refine Itm.str (j := s.pre.length + j) ?_ ?_ ⟨by (first | lia | omega), by (first | lia | omega)⟩
      · unfold seqIndex?
        simp only [show ¬ ((s.pre.length : Int) + (j : Int)) < 0 from by (first | lia | omega), if_false]
        simp; (first | lia | omega)
      · rw [hs.rx, List.getElem?_append_right (by (first | lia | omega)), Nat.add_sub_cancel_left]; exact hc
    have hitm0 : Itm (C.call "_law_runs" dLawRunsP.1.2.2 L f cd) (.str rx) (.int (s.pre.length : Int)) (.str [a]) := by
      have := hitm 0 a (by rw [hr]; rfl)
      rwa [show ((s.pre.length : Int) + ((0 : Nat) : Int)) = (s.pre.length : Int) from by (first | lia | omega)] at this
    have hk3 := hs.k
    have hdn : s.dn.length ≤ 1001 := by have := congrArg List.length hs.li; simp at this; (first | lia | omega)
    have hrl : ((s.dn ++ [s.pr]).map D.str).length ≤ 16777215 := by simp; (first | lia | omega)
    have hmap : ((s.dn ++ [s.pr]).map D.str) = s.dn.map D.str ++ [.str s.pr] := by simp
    have hrunsI : pyCut none (some (-1 : Int)) ((s.dn ++ [s.pr]).map D.str) = s.dn.map D.str := by rw [cut_init, hmap, List.dropLast_concat]
    have hlastD : ((s.dn ++ [s.pr]).map D.str).getLast? = some (.str s.pr) := by rw [hmap, List.getLast?_concat]
    have t1 := Cmp.inStrs (C := C.call "_law_runs" dLawRunsP.1.2.2 L f cd) (x := stg s.k) (xs := [stg 0, stg 2])
    have t5 := Cmp.inStrs (C := C.call "_law_runs" dLawRunsP.1.2.2 L f cd) (x := (s.rem ++ [41, 92, 90]).take 3) (xs := [[91, 42, 93], [91, 63, 93]])
    have hprl : s.pr.length ≤ 8000000 := by
      have := hls (s.pr ++ s.cu) (by rw [← hs.li]; simp)
      rw [List.length_append] at this; (first | lia | omega)
    by_cases hcu : s.cu = []
    · have hS : s.rem ++ [41, 92, 90] = a :: (r ++ [41, 92, 90]) := by rw [hr]; rfl
      have hnew : ∀ l : List Nat, ((s.dn ++ [s.pr] ++ [([] : List Nat)]).map D.str) = (s.dn ++ [s.pr]).map D.str ++ [.str []] := fun l => by simp
      have haddL : ((s.dn ++ [s.pr]).map D.str).length + ([D.str []]).length ≤ 16777216 := by show _ + 1 ≤ _; (first | lia | omega)
      by_cases hk1 : s.k = 1
      · -- a group ends
        have hrem1 : s.rem = [41] ++ tailB s.rs := by unfold RS.rem; rw [hk1, hcu]; rfl
        have ha : a = 41 := by rw [hrem1] at hr; exact (List.cons.inj hr).1.symm
        have hok : ({ s with k := 2, pre := s.pre ++ [41] } : RS).Ok rx (l0 :: ls) := by
          refine ⟨by show 2 ≤ 3; decide, ?_, hs.li, fun _ => hcu, fun _ => hs.mid (.inl hk1), fun w => by cases w⟩
          rw [hs.rx, hrem1]; show _ = s.pre ++ [41] ++ (tailB s.rs ++ _); simp
        have hgo := ih _ hok (by rw [hrem1]; show (tailB s.rs).length < _; simp)
        have f1 : (([stg 0, stg 2] : List (List Nat)).any (· == stg s.k)) = false := by rw [hk1]; rfl
        have f3 : ((stg s.k == stg 1) && ([a] == ([41] : List Nat))) = true := by rw [hk1, ha]; rfl
        refine Ex.ite (.and (.cmp (eL G') (eT (a2 (eS (stg 0)) (eS (stg 2)))) t1) fun _ => .cmp (eCut (eL G') (.one (eL G')) (.one (Ev.bin (eL G') Ev.int .addInt)) (by (first | lia | omega)) (hcut 6)) (eS opn) .eqStr) (fun h => by rw [f1] at h; cases h) fun _ => ?_
        refine Ex.ite (.and (.cmp (eL G') (eT (a2 (eS (stg 0)) (eS (stg 2)))) t1) fun _ => .cmp (eCut (eL G') (.one (eL G')) (.one (Ev.bin (eL G') Ev.int .addInt)) (by (first | lia | omega)) (hcut 2)) (eS [46, 42]) .eqStr) (fun h => by rw [f1] at h; cases h) fun _ => ?_
        refine Ex.ite (.and (.cmp (eL G') (eS (stg 1)) .eqStr) fun _ => .cmp (Ev.item (eL G') (eL G') hitm0) (eS [41]) .eqStr) (fun _ => ?_) fun h => by rw [f3] at h; cases h
        refine Ex.unpackS (xs := ["at", "stage"]) G' (eT (a2 (Ev.bin (eL G') Ev.int .addInt) (eS (stg 2)))) rfl rfl rfl ?_
        repeat (refine Ex.nil ?_)
        exact Lp.sub (.cons rfl (.cons (by show _ = some (D.int ((s.pre ++ [41]).length : Nat)); rw [List.length_append]; rfl) (.cons rfl (.cons rfl .nil)))) hgo
      · have hk02 : (s.k = 0 ∨ s.k = 2) ∧ s.rem = tailB s.rs := by
          unfold RS.rem at hrem ⊢
          match hk : s.k with
          | 0 => rw [hcu]; exact ⟨.inl rfl, rfl⟩
          | 1 => exact absurd hk hk1
          | 2 => exact ⟨.inr rfl, rfl⟩
          | 3 => rw [hk, hcu] at hrem; cases hrem
          | n + 4 => (first | lia | omega)
        obtain ⟨hk02, hremT⟩ := hk02
        have f1 : (([stg 0, stg 2] : List (List Nat)).any (· == stg s.k)) = true := by rcases hk02 with w | w <;> rw [w] <;> rfl
        match hrs : s.rs with
        | [] => rw [hrs] at hremT; rw [hremT] at hrem; cases hrem
        | [l] =>
          have hremL : s.rem = [46, 42] ++ l.flatMap tr := by rw [hremT, hrs]; rfl
          have hok : (⟨3, s.dn ++ [s.pr], [], l, [], s.pre ++ [46, 42]⟩ : RS).Ok rx (l0 :: ls) := by
            refine ⟨Nat.le_refl 3, ?_, ?_, nofun, (by rintro (h | h) <;> cases h), fun _ => rfl⟩
            · rw [hs.rx, hremL]; show _ = s.pre ++ [46, 42] ++ (l.flatMap tr ++ _); simp
            · rw [← hs.li, hcu, hrs]; simp
          have hgo := ih _ hok (by rw [hremL]; show (l.flatMap tr).length < _; rw [List.length_append]; simp only [List.length_cons, List.length_nil]; (first | lia | omega))
          have f2 : ((s.rem ++ [41, 92, 90]).take 6 == opn) = false := by rw [hremL]; rw [beq_eq_false_iff_ne]; intro w; cases (List.cons.inj w).1
          have f3 : ((s.rem ++ [41, 92, 90]).take 2 == [46, 42]) = true := by rw [hremL]; rfl
          refine Ex.ite (.and (.cmp (eL G') (eT (a2 (eS (stg 0)) (eS (stg 2)))) t1) fun _ => .cmp (eCut (eL G') (.one (eL G')) (.one (Ev.bin (eL G') Ev.int .addInt)) (by (first | lia | omega)) (hcut 6)) (eS opn) .eqStr) (fun h => by rw [f2, Bool.and_false] at h; cases h) fun _ => ?_
          refine Ex.ite (.and (.cmp (eL G') (eT (a2 (eS (stg 0)) (eS (stg 2)))) t1) fun _ => .cmp (eCut (eL G') (.one (eL G')) (.one (Ev.bin (eL G') Ev.int .addInt)) (by (first | lia | omega)) (hcut 2)) (eS [46, 42]) .eqStr) (fun _ => ?_) fun h => by rw [f1, f3] at h; cases h
          refine Ex.unpackS (xs := ["runs", "at", "stage"]) G' (eT (a3 (Ev.bin (eL G') (eLs (a1 (eS []))) (.addList haddL)) (Ev.bin (eL G') Ev.int .addInt) (eS (stg 3)))) rfl rfl rfl ?_
          repeat (refine Ex.nil ?_)
          exact Lp.sub (.cons (by show _ = some (D.list ((s.dn ++ [s.pr] ++ [[]]).map D.str)); rw [hnew []]; rfl) (.cons (by show _ = some (D.int ((s.pre ++ [46, 42]).length : Nat)); rw [List.length_append]; rfl) (.cons rfl (.cons rfl .nil)))) hgo
        | l :: m :: rest =>
          have hremL : s.rem = opn ++ (l.flatMap tr ++ ([41] ++ tailB (m :: rest))) := by rw [hremT, hrs]; show opn ++ l.flatMap tr ++ [41] ++ tailB (m :: rest) = _; simp
          have hok : (⟨1, s.dn ++ [s.pr], [], l, m :: rest, s.pre ++ opn⟩ : RS).Ok rx (l0 :: ls) := by
            refine ⟨by show 1 ≤ 3; decide, ?_, ?_, nofun, fun _ => by simp, nofun⟩
            · rw [hs.rx, hremL]; show _ = s.pre ++ opn ++ ((l.flatMap tr ++ ([41] ++ tailB (m :: rest))) ++ _); simp
            · rw [← hs.li, hcu, hrs]; simp
          have hgo := ih _ hok (by rw [hremL]; show (l.flatMap tr ++ ([41] ++ tailB (m :: rest))).length < _; simp [opn]; (first | lia | omega))
          have f2 : ((s.rem ++ [41, 92, 90]).take 6 == opn) = true := by rw [hremL]; rfl
          refine Ex.ite (.and (.cmp (eL G') (eT (a2 (eS (stg 0)) (eS (stg 2)))) t1) fun _ => .cmp (eCut (eL G') (.one (eL G')) (.one (Ev.bin (eL G') Ev.int .addInt)) (by (first | lia | omega)) (hcut 6)) (eS opn) .eqStr) (fun _ => ?_) fun h => by rw [f1, f2] at h; cases h
          refine Ex.unpackS (xs := ["runs", "at", "stage"]) G' (eT (a3 (Ev.bin (eL G') (eLs (a1 (eS []))) (.addList haddL)) (Ev.bin (eL G') Ev.int .addInt) (eS (stg 1)))) rfl rfl rfl ?_
          repeat (refine Ex.nil ?_)
          exact Lp.sub (.cons (by show _ = some (D.list ((s.dn ++ [s.pr] ++ [[]]).map D.str)); rw [hnew []]; rfl) (.cons (by show _ = some (D.int ((s.pre ++ opn).length : Nat)); rw [List.length_append]; rfl) (.cons rfl (.cons rfl .nil)))) hgo
    · obtain ⟨c, cu, hcu⟩ := List.exists_cons_of_ne_nil hcu
      obtain ⟨a', r', htr, n1, n2, n3⟩ := tr_head c
      have hk2 : s.k ≠ 2 := fun q => by have := hs.two q; rw [this] at hcu; cases hcu
      have hrem2 : ∃ q, s.rem = tr c ++ q ∧ ∀ p, ({ s with pr := s.pr ++ [c], cu := cu, pre := p } : RS).rem = q := by
        unfold RS.rem
        match hk : s.k with
        | 0 => rw [hcu, List.flatMap_cons]; exact ⟨_, List.append_assoc .., fun p => rfl⟩
        | 1 => rw [hcu, List.flatMap_cons]; exact ⟨_, List.append_assoc .., fun p => rfl⟩
        | 2 => exact absurd hk hk2
        | 3 => rw [hcu, List.flatMap_cons]; exact ⟨_, rfl, fun p => rfl⟩
        | n + 4 => (first | lia | omega)
      obtain ⟨q, hq, hq2⟩ := hrem2
      have ha : a = a' := by rw [hq, htr] at hr; exact (List.cons.inj hr).1.symm
      subst ha
      have hok : ({ s with pr := s.pr ++ [c], cu := cu, pre := s.pre ++ tr c } : RS).Ok rx (l0 :: ls) := by
        refine ⟨hs.k, ?_, ?_, fun w => absurd w hk2, hs.mid, hs.last⟩
        · rw [hq2, hs.rx, hq]; simp
        · rw [← hs.li, hcu]; simp
      have hgo := ih _ hok (by rw [hq2, hq, htr]; simp; (first | lia | omega))
      have f1 : ((s.rem ++ [41, 92, 90]).take 6 == opn) = false := by rw [hr, beq_eq_false_iff_ne]; intro w; exact n1 (List.cons.inj w).1
      have f2 : ((s.rem ++ [41, 92, 90]).take 2 == [46, 42]) = false := by rw [hr, beq_eq_false_iff_ne]; intro w; exact n2 (List.cons.inj w).1
      have f3 : ([a] == ([41] : List Nat)) = false := by simpa using n3
      have f4 : (stg s.k == stg 2) = false := by
        match hk : s.k with
        | 0 => rfl
        | 1 => rfl
        | 2 => exact absurd hk hk2
        | 3 => rfl
        | n + 4 => (first | lia | omega)
      refine Ex.ite (.and (.cmp (eL G') (eT (a2 (eS (stg 0)) (eS (stg 2)))) t1) fun _ => .cmp (eCut (eL G') (.one (eL G')) (.one (Ev.bin (eL G') Ev.int .addInt)) (by (first | lia | omega)) (hcut 6)) (eS opn) .eqStr) (fun h => by rw [f1, Bool.and_false] at h; cases h) fun _ => ?_
      refine Ex.ite (.and (.cmp (eL G') (eT (a2 (eS (stg 0)) (eS (stg 2)))) t1) fun _ => .cmp (eCut (eL G') (.one (eL G')) (.one (Ev.bin (eL G') Ev.int .addInt)) (by (first | lia | omega)) (hcut 2)) (eS [46, 42]) .eqStr) (fun h => by rw [f2, Bool.and_false] at h; cases h) fun _ => ?_
      refine Ex.ite (.and (.cmp (eL G') (eS (stg 1)) .eqStr) fun _ => .cmp (Ev.item (eL G') (eL G') hitm0) (eS [41]) .eqStr) (fun h => by rw [f3, Bool.and_false] at h; cases h) fun _ => ?_
      refine Ex.ite (.cmp (eL G') (eS (stg 2)) .eqStr) (fun h => by rw [f4] at h; cases h) fun _ => ?_
      have hend : ∀ n : Nat, (((s.pre ++ tr c).length : Nat) : Int) = (s.pre.length : Int) + ((tr c).length : Int) := fun n => by rw [List.length_append]; (first | lia | omega)
      have hruns : (((s.dn ++ [s.pr ++ [c]]).map D.str)) = s.dn.map D.str ++ [.str (s.pr ++ [c])] := by simp
      have hS : ∀ m, (s.rem ++ [41, 92, 90]).take m = (tr c ++ (q ++ [41, 92, 90])).take m := fun m => by rw [hq, List.append_assoc]
      have hget : ∀ j, j < (tr c).length → (s.rem ++ [41, 92, 90])[j]? = (tr c)[j]? := fun j hj => by rw [hq, List.append_assoc, List.getElem?_append_left hj]
      have hadd : s.pr.length + ([c] : List Nat).length ≤ 16777216 := by simp; (first | lia | omega)
      have haddL : (s.dn.map D.str).length + ([D.str (s.pr ++ [c])]).length ≤ 16777216 := by simp; (first | lia | omega)
      by_cases c1 : c = 91
      · have ht : tr c = [91, 92, 91, 93] := by unfold tr; rw [if_pos c1]
        have f5 : (([[91, 42, 93], [91, 63, 93]] : List (List Nat)).any (· == (s.rem ++ [41, 92, 90]).take 3)) = false := by rw [hS, ht]; rfl
        have f6 : ((s.rem ++ [41, 92, 90]).take 4 == [91, 92, 91, 93]) = true := by rw [hS, ht]; rfl
        refine Ex.ite (.cmp (eCut (eL G') (.one (eL G')) (.one (Ev.bin (eL G') Ev.int .addInt)) (by (first | lia | omega)) (hcut 3)) (eT (a2 (eS [91, 42, 93]) (eS [91, 63, 93]))) t5) (fun h => by rw [f5] at h; cases h) fun _ => ?_
        refine Ex.ite (.cmp (eCut (eL G') (.one (eL G')) (.one (Ev.bin (eL G') Ev.int .addInt)) (by (first | lia | omega)) (hcut 4)) (eS [91, 92, 91, 93]) .eqStr) (fun _ => ?_) fun h => by rw [f6] at h; cases h
        subst c1
        refine Ex.unpackS (xs := ["runs", "at"]) G' (eT (a2 (Ev.bin (eCutL (eL G') .nil (.one (Ev.neg Ev.int)) (by (first | lia | omega)) hrunsI) (eLs (a1 (Ev.bin (Ev.item (eL G') (Ev.neg Ev.int) (.listLast hlastD)) (eS [91]) (.addStr hadd)))) (.addList haddL)) (Ev.bin (eL G') Ev.int .addInt))) rfl rfl rfl ?_
        repeat (refine Ex.nil ?_)
        exact Lp.sub (.cons (by rw [hruns]; rfl) (.cons (by rw [hend 0, ht]; rfl) (.cons rfl (.cons rfl .nil)))) hgo
      · by_cases c2 : c = 42 ∨ c = 63
        · have ht : tr c = [91, c, 93] := by unfold tr; rw [if_neg c1, if_pos c2]
          have f5 : (([[91, 42, 93], [91, 63, 93]] : List (List Nat)).any (· == (s.rem ++ [41, 92, 90]).take 3)) = true := by rw [hS, ht]; rcases c2 with rfl | rfl <;> rfl
          refine Ex.ite (.cmp (eCut (eL G') (.one (eL G')) (.one (Ev.bin (eL G') Ev.int .addInt)) (by (first | lia | omega)) (hcut 3)) (eT (a2 (eS [91, 42, 93]) (eS [91, 63, 93]))) t5) (fun _ => ?_) fun h => by rw [f5] at h; cases h
          refine Ex.unpackS (xs := ["runs", "at"]) G' (eT (a2 (Ev.bin (eCutL (eL G') .nil (.one (Ev.neg Ev.int)) (by (first | lia | omega)) hrunsI) (eLs (a1 (Ev.bin (Ev.item (eL G') (Ev.neg Ev.int) (.listLast hlastD)) (Ev.item (eL G') (Ev.bin (eL G') Ev.int .addInt) (hitm 1 c (by rw [hget _ (by rw [ht]; simp), ht]; rfl))) (.addStr hadd)))) (.addList haddL)) (Ev.bin (eL G') Ev.int .addInt))) rfl rfl rfl ?_
          repeat (refine Ex.nil ?_)
          exact Lp.sub (.cons (by rw [hruns]; rfl) (.cons (by rw [hend 0, ht]; rfl) (.cons rfl (.cons rfl .nil)))) hgo
        · by_cases c3 : c ∈ spec
          · have ht : tr c = [92, c] := by unfold tr; rw [if_neg c1, if_neg c2, if_pos c3]
            have ha : a = 92 := by rw [ht] at htr; exact (List.cons.inj htr).1.symm
            have f5 : (([[91, 42, 93], [91, 63, 93]] : List (List Nat)).any (· == (s.rem ++ [41, 92, 90]).take 3)) = false := by rw [hS, ht]; rfl
            have f6 : ((s.rem ++ [41, 92, 90]).take 4 == [91, 92, 91, 93]) = false := by rw [hS, ht]; rfl
            have f7 : ([a] == ([92] : List Nat)) = true := by rw [ha]; rfl
            refine Ex.ite (.cmp (eCut (eL G') (.one (eL G')) (.one (Ev.bin (eL G') Ev.int .addInt)) (by (first | lia | omega)) (hcut 3)) (eT (a2 (eS [91, 42, 93]) (eS [91, 63, 93]))) t5) (fun h => by rw [f5] at h; cases h) fun _ => ?_
            refine Ex.ite (.cmp (eCut (eL G') (.one (eL G')) (.one (Ev.bin (eL G') Ev.int .addInt)) (by (first | lia | omega)) (hcut 4)) (eS [91, 92, 91, 93]) .eqStr) (fun h => by rw [f6] at h; cases h) fun _ => ?_
            refine Ex.ite (.cmp (Ev.item (eL G') (eL G') hitm0) (eS [92]) .eqStr) (fun _ => ?_) fun h => by rw [f7] at h; cases h
            refine Ex.unpackS (xs := ["runs", "at"]) G' (eT (a2 (Ev.bin (eCutL (eL G') .nil (.one (Ev.neg Ev.int)) (by (first | lia | omega)) hrunsI) (eLs (a1 (Ev.bin (Ev.item (eL G') (Ev.neg Ev.int) (.listLast hlastD)) (Ev.item (eL G') (Ev.bin (eL G') Ev.int .addInt) (hitm 1 c (by rw [hget _ (by rw [ht]; simp), ht]; rfl))) (.addStr hadd)))) (.addList haddL)) (Ev.bin (eL G') Ev.int .addInt))) rfl rfl rfl ?_
            repeat (refine Ex.nil ?_)
            exact Lp.sub (.cons (by rw [hruns]; rfl) (.cons (by rw [hend 0, ht]; rfl) (.cons rfl (.cons rfl .nil)))) hgo
          · have ht : tr c = [c] := by unfold tr; rw [if_neg c1, if_neg c2, if_neg c3]
            have ha : a = c := by rw [ht] at htr; exact (List.cons.inj htr).1.symm
            have hne : ∀ x ∈ spec, c ≠ x := fun x hx e => c3 (e ▸ hx)
            have f5 : (([[91, 42, 93], [91, 63, 93]] : List (List Nat)).any (· == (s.rem ++ [41, 92, 90]).take 3)) = false := by
              rw [hS, ht]
              have : ∀ y : List Nat, (91 :: y == ([c] ++ (q ++ [41, 92, 90])).take 3) = false := fun y => by
                rw [beq_eq_false_iff_ne]; intro w; exact c1 (List.cons.inj w).1.symm
              simp only [List.any_cons, List.any_nil, this, Bool.or_false]
            have f6 : ((s.rem ++ [41, 92, 90]).take 4 == [91, 92, 91, 93]) = false := by
              rw [hS, ht, beq_eq_false_iff_ne]; intro w; exact c1 (List.cons.inj w).1
            have f7 : ([a] == ([92] : List Nat)) = false := by rw [ha, beq_eq_false_iff_ne]; intro w; exact hne 92 (by decide) (List.cons.inj w).1
            have f8 : decide (a ∈ ([40, 41, 91, 93, 123, 125, 63, 42, 43, 45, 124, 94, 36, 46, 38, 126, 35, 32, 9, 10, 13, 11, 12] : List Nat)) = false := by
              rw [decide_eq_false_iff_not, ha]; exact fun w => c3 ((by decide : ∀ x ∈ ([40, 41, 91, 93, 123, 125, 63, 42, 43, 45, 124, 94, 36, 46, 38, 126, 35, 32, 9, 10, 13, 11, 12] : List Nat), x ∈ spec) c w)
            refine Ex.ite (.cmp (eCut (eL G') (.one (eL G')) (.one (Ev.bin (eL G') Ev.int .addInt)) (by (first | lia | omega)) (hcut 3)) (eT (a2 (eS [91, 42, 93]) (eS [91, 63, 93]))) t5) (fun h => by rw [f5] at h; cases h) fun _ => ?_
            refine Ex.ite (.cmp (eCut (eL G') (.one (eL G')) (.one (Ev.bin (eL G') Ev.int .addInt)) (by (first | lia | omega)) (hcut 4)) (eS [91, 92, 91, 93]) .eqStr) (fun h => by rw [f6] at h; cases h) fun _ => ?_
            refine Ex.ite (.cmp (Ev.item (eL G') (eL G') hitm0) (eS [92]) .eqStr) (fun h => by rw [f7] at h; cases h) fun _ => ?_
            refine Ex.ite (.cmp (Ev.item (eL G') (eL G') hitm0) (eS [40, 41, 91, 93, 123, 125, 63, 42, 43, 45, 124, 94, 36, 46, 38, 126, 35, 32, 9, 10, 13, 11, 12]) .inStr) (fun h => by rw [f8] at h; cases h) fun _ => ?_
            subst ha
            refine Ex.unpackS (xs := ["runs", "at"]) G' (eT (a2 (Ev.bin (eCutL (eL G') .nil (.one (Ev.neg Ev.int)) (by (first | lia | omega)) hrunsI) (eLs (a1 (Ev.bin (Ev.item (eL G') (Ev.neg Ev.int) (.listLast hlastD)) (Ev.item (eL G') (eL G') hitm0) (.addStr hadd)))) (.addList haddL)) (Ev.bin (eL G') Ev.int .addInt))) rfl rfl rfl ?_
            repeat (refine Ex.nil ?_)
            exact Lp.sub (.cons (by rw [hruns]; rfl) (.cons (by rw [hend 0, ht]; rfl) (.cons rfl (.cons rfl .nil)))) hgo
  · have hrem : s.rem.length = 0 := by have := of_decide_eq_false h; (first | lia | omega)
    have hrem : s.rem = [] := List.length_eq_zero_iff.mp hrem
    have hk : (s.k = 0 ∨ s.k = 3) ∧ s.cu = [] ∧ s.rs = [] := by
      have htr : ∀ l : List Nat, l.flatMap tr = [] → l = [] := fun l h => by
        cases l with
        | nil => rfl
        | cons c l => obtain ⟨a, r, e, _⟩ := tr_head c; rw [List.flatMap_cons, e] at h; cases h
      have htl : ∀ l, tailB l = [] → l = [] := fun l h => by
        match l, h with
        | [], _ => rfl
        | [l], h => cases h
        | l :: m :: ls, h => cases h
      have hk3 := hs.k
      unfold RS.rem at hrem
      match hk : s.k with
      | 0 =>
        rw [hk] at hrem
        obtain ⟨q1, q2⟩ := List.append_eq_nil_iff.mp hrem
        exact ⟨.inl rfl, htr _ q1, htl _ q2⟩
      | 1 => rw [hk] at hrem; obtain ⟨q1, q2⟩ := List.append_eq_nil_iff.mp hrem; cases q2
      | 2 => rw [hk] at hrem; exact absurd (htl _ hrem) (hs.mid (.inr hk))
      | 3 => rw [hk] at hrem; exact ⟨.inr rfl, htr _ hrem, hs.last hk⟩
      | n + 4 => (first | lia | omega)
    obtain ⟨hk, hcu, hrs⟩ := hk
    have hli := hs.li
    rw [hcu, hrs, List.append_nil, List.append_nil] at hli
    refine Ex.ret (Ev.ite (c := true) (.cmp (eL G') (eT (a2 (eS (stg 0)) (eS (stg 3)))) ?_) (fun _ => eL G') fun h => nomatch h) ⟨[], ?_⟩
    · have := Cmp.inStrs (C := C.call "_law_runs" dLawRunsP.1.2.2 L f cd) (x := stg s.k) (xs := [stg 0, stg 3])
      rcases hk with w | w <;> rw [w] at this ⊢ <;> exact this
    · rw [hli]
end Mine
end

section
open PySem PySem.W PySem.Calls PyProof.Rows PySem.Builtin.Str PySem.SeqAt
set_option maxRecDepth 100000
namespace Mine
set_option linter.unusedVariables false
/-! what is drawn from the numbers -/
structure Wy where
  root : List Nat
  ups : Nat
  names : List (List (List Nat))
  crooks : List Int
  deriving Inhabited
def nmD (nm : List (List Nat)) : D := .list (nm.map .str)
def wyD (w : Wy) : D := .list [.str w.root, .int w.ups, .list (w.names.map nmD), .list (w.crooks.map .int)]
def stems : List (List Nat) := [[98], [38], [60], [42], [34], [63], [62], [91], [13], [46, 98], [10], [97, 109, 112, 59], [93], [233], [92], [46, 38]]
def longer : List (List Nat) := [[98], [38], [59], [108, 116, 59], [33], [45], [42], [91], [93], [94], [60], [126], [35, 49, 51, 59], [34], [9], [955]]
def endings : List (List Nat) := [[], [98], [38], [59], [60], [42], [34], [35], [13], [63], [62], [91, 98, 93], [92], [103, 116, 59], [10], [45]]
def roots : List (List Nat) := [[], [47], [47, 47]]
def dStep (ways : List Wy) (n : Int) : List Wy :=
  let kind := n % 8
  let which := (n / 8 % 16).toNat
  let w := ways.getLast?.getD default
  if kind = 0 ∧ ways.length < 4 then ways ++ [⟨roots.getD (which % 3) [], 0, [], []⟩]
  else if kind = 1 ∧ w.root = [] ∧ w.names = [] then ways.dropLast ++ [⟨w.root, w.ups + 1, w.names, w.crooks⟩]
  else if (kind = 2 ∨ kind = 3) ∧ w.names ≠ [] then ways.dropLast ++ [⟨w.root, w.ups, w.names.dropLast ++ [w.names.getLast?.getD [] ++ [46 :: endings.getD which []]], w.crooks⟩]
  else if kind = 4 ∧ w.names ≠ [] ∧ (w.names.getLast?.getD []).length = 1 then ways.dropLast ++ [⟨w.root, w.ups, w.names.dropLast ++ [[(w.names.getLast?.getD []).head?.getD [] ++ longer.getD which []]], w.crooks⟩]
  else ways.dropLast ++ [⟨w.root, w.ups, w.names ++ [[stems.getD which []]], w.crooks ++ [n / 128 % 6]⟩]
/-- literals of texts -/
inductive LitS : List Expr → List Str → Prop
  | nil : LitS [] []
  | cons {x : Str} {n : Nat} {p : Pos} {es : List Expr} {xs : List Str} : LitS es xs → LitS (.Constant (.str x) n p :: es) (x :: xs)
theorem LitS.ev {C : Cx} {ρ : Loc} {cs : Own} {es : List Expr} {xs : List Str} (h : LitS es xs) : EvA C ρ cs es (xs.map fun x => .str x.cps.toList) := by
  induction h with
  | nil => exact .nil
  | cons _ ih => exact .cons Ev.str ih
theorem getD_str {xs : List (List Nat)} {k : Int} (h0 : 0 ≤ k) (h1 : k < xs.length) : (xs.map D.str)[k.toNat]? = some (.str (xs.getD k.toNat [])) := by
  have : k.toNat < xs.length := by (first | lia | omega)
  rw [List.getElem?_map, List.getElem?_eq_getElem this, List.getD_eq_getElem?_getD, List.getElem?_eq_getElem this]; rfl
/-- what stays bounded -/
structure WyOk (w : Wy) (m : Nat) : Prop where
  root : w.root = [] ∨ w.root = [47] ∨ w.root = [47, 47]
  ups : w.root ≠ [] → w.ups = 0
  names : ∀ nm ∈ w.names, ∃ f es, nm = f :: es ∧ StemOk f ∧ ∀ e ∈ es, EndOk e
  lens : w.crooks.length = w.names.length
  crooks : ∀ c ∈ w.crooks, 0 ≤ c ∧ c < 6
  count : w.ups + w.names.length ≤ m
  size : (w.names.map fun nm => nm.flatten.length).sum ≤ 6 * m
structure WaysOk (ways : List Wy) (m : Nat) : Prop where
  ne : ways ≠ []
  four : ways.length ≤ 4
  all : ∀ w ∈ ways, WyOk w m
theorem WyOk.mono {w : Wy} {m m' : Nat} (h : WyOk w m) (l : m ≤ m') : WyOk w m' := ⟨h.root, h.ups, h.names, h.lens, h.crooks, Nat.le_trans h.count l, Nat.le_trans h.size (by (first | lia | omega))⟩
def stemB (f : List Nat) : Bool := let g := if f.head? = some 46 then f.tail else f; !g.isEmpty && !g.contains 46 && !g.contains 47
theorem stem_of {f : List Nat} (h : stemB f = true) : StemOk f := by
  unfold stemB at h
  simp only [Bool.and_eq_true, Bool.not_eq_true', List.isEmpty_eq_false_iff, List.contains_eq_mem, decide_eq_false_iff_not] at h
  obtain ⟨⟨h1, h2⟩, h3⟩ := h
  refine ⟨_, h1, h2, h3, ?_⟩
  split
  · rename_i q
    right
    cases f with
    | nil => cases q
    | cons a f => simp at q; subst q; rfl
  · exact .inl rfl
theorem stems_ok : ∀ k, k < 16 → StemOk (stems.getD k []) ∧ (stems.getD k []).length ≤ 5 := by
  intro k hk
  have : ∀ k : Fin 16, stemB (stems.getD k.1 []) = true ∧ (stems.getD k.1 []).length ≤ 5 := by decide +kernel
  exact ⟨stem_of (this ⟨k, hk⟩).1, (this ⟨k, hk⟩).2⟩
theorem longer_ok : ∀ k, k < 16 → 46 ∉ longer.getD k [] ∧ 47 ∉ longer.getD k [] ∧ (longer.getD k []).length ≤ 5 := by
  intro k hk
  have : ∀ k : Fin 16, 46 ∉ longer.getD k.1 [] ∧ 47 ∉ longer.getD k.1 [] ∧ (longer.getD k.1 []).length ≤ 5 := by decide +kernel
  exact this ⟨k, hk⟩
theorem endings_ok : ∀ k, k < 16 → 46 ∉ endings.getD k [] ∧ 47 ∉ endings.getD k [] ∧ (endings.getD k []).length ≤ 5 := by
  intro k hk
  have : ∀ k : Fin 16, 46 ∉ endings.getD k.1 [] ∧ 47 ∉ endings.getD k.1 [] ∧ (endings.getD k.1 []).length ≤ 5 := by decide +kernel
  exact this ⟨k, hk⟩
theorem stem_more {f l : List Nat} (h : StemOk f) (h1 : 46 ∉ l) (h2 : 47 ∉ l) : StemOk (f ++ l) := by
  obtain ⟨g, a, b, c, hf⟩ := h
  refine ⟨g ++ l, by simp [a], by simp [b, h1], by simp [c, h2], ?_⟩
  rcases hf with rfl | rfl
  · exact .inl rfl
  · exact .inr rfl
theorem dStep_ok {ways : List Wy} {m : Nat} (h : WaysOk ways m) {n : Int} (hn : 0 ≤ n) : WaysOk (dStep ways n) (m + 1) := by
  have hw : WyOk (ways.getLast?.getD default) m := by
    rcases List.eq_nil_or_concat ways with rfl | ⟨l, w, rfl⟩
    · exact absurd rfl h.ne
    · have : (l.concat w).getLast? = some w := by simp
      rw [this]; exact h.all w (by simp)
  have hk : (n / 8 % 16).toNat < 16 := by (first | lia | omega)
  have app : ∀ w', WyOk w' (m + 1) → WaysOk (ways.dropLast ++ [w']) (m + 1) := fun w' h' => by
    refine ⟨by simp, ?_, fun w hw => ?_⟩
    · have := h.four
      have h0 : 0 < ways.length := List.length_pos_iff.mpr h.ne
      simp; (first | lia | omega)
    · rcases List.mem_append.mp hw with q | q
      · exact (h.all w ((List.dropLast_sublist ways).subset q)).mono (by (first | lia | omega))
      · rw [List.mem_singleton.mp q]; exact h'
  have hsum : ∀ (l : List (List (List Nat))) (x : List (List Nat)), ((l ++ [x]).map fun nm => nm.flatten.length).sum = (l.map fun nm => nm.flatten.length).sum + x.flatten.length := fun l x => by simp
  unfold dStep
  generalize hwe : ways.getLast?.getD default = w at hw
  simp only
  split
  · rename_i q
    refine ⟨by simp, by simp; (first | lia | omega), fun w' hw' => ?_⟩
    rcases List.mem_append.mp hw' with q | q
    · exact (h.all w' q).mono (by (first | lia | omega))
    · rw [List.mem_singleton.mp q]
      have : roots.getD ((n / 8 % 16).toNat % 3) [] ∈ roots := by
        have h3 : (n / 8 % 16).toNat % 3 < roots.length := Nat.mod_lt _ (by decide)
        rw [List.getD_eq_getElem?_getD, List.getElem?_eq_getElem h3]; exact List.getElem_mem h3
      exact ⟨by simpa [roots] using this, fun _ => rfl, fun nm hnm => by simp at hnm, rfl, fun c hc => by simp at hc, by simp, by simp⟩
  · split
    · rename_i q
      exact app _ ⟨hw.root, fun e => absurd q.2.1 e, hw.names, hw.lens, hw.crooks, by have := hw.count; simp only; (first | lia | omega), Nat.le_trans hw.size (by (first | lia | omega))⟩
    · split
      · rename_i q
        rcases List.eq_nil_or_concat w.names with e | ⟨l, nm, e⟩
        · exact absurd e q.2
        · rw [List.concat_eq_append] at e
          have e1 : w.names.getLast?.getD [] = nm := by rw [e]; simp
          have e2 : w.names.dropLast = l := by rw [e]; simp
          have hc := hw.count
          have hs := hw.size
          have hl := hw.lens
          rw [e, hsum] at hs
          rw [e] at hc hl
          obtain ⟨g1, g2, g3⟩ := endings_ok _ hk
          rw [e1, e2]
          refine app _ ⟨hw.root, hw.ups, fun x hx => ?_, by simpa using hl, hw.crooks, by simp at hc ⊢; (first | lia | omega), ?_⟩
          · rcases List.mem_append.mp hx with q | q
            · exact hw.names x (by rw [e]; simp [q])
            · rw [List.mem_singleton.mp q]
              obtain ⟨f, es, h1, h2, h3⟩ := hw.names nm (by rw [e]; simp)
              refine ⟨f, es ++ [46 :: endings.getD (n / 8 % 16).toNat []], by rw [h1]; rfl, h2, fun y hy => ?_⟩
              rcases List.mem_append.mp hy with q | q
              · exact h3 y q
              · rw [List.mem_singleton.mp q]; exact ⟨_, rfl, g1, g2⟩
          · rw [hsum]; simp only [List.flatten_append, List.flatten_cons, List.flatten_nil, List.append_nil, List.length_append, List.length_cons]; (first | lia | omega)
      · split
        · rename_i q
          rcases List.eq_nil_or_concat w.names with e | ⟨l, nm, e⟩
          · exact absurd e q.2.1
          · rw [List.concat_eq_append] at e
            have e1 : w.names.getLast?.getD [] = nm := by rw [e]; simp
            have e2 : w.names.dropLast = l := by rw [e]; simp
            have hc := hw.count
            have hs := hw.size
            have hl := hw.lens
            rw [e, hsum] at hs
            rw [e] at hc hl
            obtain ⟨g1, g2, g3⟩ := longer_ok _ hk
            have q3 := q.2.2
            rw [e1] at q3
            obtain ⟨f, es, h1, h2, h3⟩ := hw.names nm (by rw [e]; simp)
            have hes : es = [] := by rw [h1] at q3; simpa using q3
            subst hes
            rw [e1, e2, h1]
            rw [h1] at hs
            refine app _ ⟨hw.root, hw.ups, fun x hx => ?_, by simpa using hl, hw.crooks, by simp at hc ⊢; (first | lia | omega), ?_⟩
            · rcases List.mem_append.mp hx with q | q
              · exact hw.names x (by rw [e]; simp [q])
              · rw [List.mem_singleton.mp q]
                exact ⟨_, [], rfl, stem_more h2 g1 g2, fun y hy => by simp at hy⟩
            · rw [hsum]; simp only [List.head?_cons, Option.getD_some, List.flatten_cons, List.flatten_nil, List.append_nil, List.length_append] at hs ⊢; (first | lia | omega)
        · obtain ⟨g1, g2⟩ := stems_ok _ hk
          have hc := hw.count
          have hs := hw.size
          have hl := hw.lens
          refine app _ ⟨hw.root, hw.ups, fun x hx => ?_, by simp [hl], fun c hc => ?_, by simp; (first | lia | omega), ?_⟩
          · rcases List.mem_append.mp hx with q | q
            · exact hw.names x q
            · rw [List.mem_singleton.mp q]; exact ⟨_, [], rfl, g1, fun y hy => by simp at hy⟩
          · rcases List.mem_append.mp hc with q | q
            · exact hw.crooks c q
            · rw [List.mem_singleton.mp q]; (first | lia | omega)
          · rw [hsum]; simp only [List.flatten_cons, List.flatten_nil, List.append_nil]; (first | lia | omega)
theorem pDrawn : Plain dLawDrawnP.1 1 := .k1 rfl (fun _ _ _ _ _ => rfl) (by decide +kernel) rfl rfl rfl (by decide +kernel)
def dLoc : Loc := [("stems", .list (stems.map .str)), ("longer", .list (longer.map .str)), ("endings", .list (endings.map .str))]
theorem drop_snoc {w : Wy} : ∀ {ways : List Wy}, ways ≠ [] → ways.getLast?.getD default = w → ways = ways.dropLast ++ [w] := by
  intro ways h e
  rcases List.eq_nil_or_concat ways with rfl | ⟨l, x, rfl⟩
  · exact absurd rfl h
  · rw [List.concat_eq_append] at e ⊢
    have : x = w := by simpa using e
    rw [List.dropLast_concat, this]
end Mine
end

section
open PySem PySem.W PySem.Calls PyProof.Rows PySem.Builtin.Str PySem.SeqAt
set_option maxRecDepth 100000
namespace Mine
set_option linter.unusedVariables false
theorem eStrs {C : Cx} {ρ : Loc} {cs : Own} {es : List Expr} {p : Pos} {xs : List Str} {ys : List (List Nat)} (h : LitS es xs) (e : xs.map (·.cps.toList) = ys) (hl : ys.length ≤ 16777216) : Ev C ρ cs (.List es p) (.list (ys.map .str)) := by
  subst e
  have := Ev.list (p := p) (LitS.ev (C := C) (ρ := ρ) (cs := cs) h) (by simpa using hl)
  rw [List.map_map]; exact this
def s_stems : List Str := ["b", "&", "<", "*", "\"", "?", ">", "[", "\r", ".b", "\n", "amp;", "]", "é", "\\", ".&"]
theorem s_stems_eq : s_stems.map (·.cps.toList) = stems := by kernel_rfl
def s_longer : List Str := ["b", "&", ";", "lt;", "!", "-", "*", "[", "]", "^", "<", "~", "#13;", "\"", "\t", "λ"]
theorem s_longer_eq : s_longer.map (·.cps.toList) = longer := by kernel_rfl
def s_endings : List Str := ["", "b", "&", ";", "<", "*", "\"", "#", "\r", "?", ">", "[b]", "\\", "gt;", "\n", "-"]
theorem s_endings_eq : s_endings.map (·.cps.toList) = endings := by kernel_rfl
theorem sum_mem {f : List (List Nat) → Nat} : ∀ {l : List (List (List Nat))} {x : List (List Nat)}, x ∈ l → f x ≤ (l.map f).sum
  | y :: l, x, h => by
    rw [List.map_cons, List.sum_cons]
    rcases List.mem_cons.mp h with rfl | h
    · (first | lia | omega)
    · have := sum_mem (f := f) h; (first | lia | omega)
theorem ends_len : ∀ es : List (List Nat), (∀ e ∈ es, EndOk e) → es.length ≤ es.flatten.length
  | [], _ => by simp
  | x :: l, h => by
    have h5 := ends_len l fun e h' => h e (.tail _ h')
    have : 0 < x.length := by
      obtain ⟨g, hg, _⟩ := h x (.head _)
      rw [hg]; simp
    rw [List.flatten_cons, List.length_append, List.length_cons]; (first | lia | omega)
theorem WyOk.nm {w : Wy} {m : Nat} (h : WyOk w m) {nm : List (List Nat)} (hn : nm ∈ w.names) : nm.flatten.length ≤ 6 * m ∧ nm.length ≤ 6 * m + 1 := by
  have h1 : nm.flatten.length ≤ 6 * m := Nat.le_trans (sum_mem (f := fun nm => nm.flatten.length) hn) h.size
  obtain ⟨f, es, rfl, _, he⟩ := h.names nm hn
  have := ends_len es he
  rw [List.flatten_cons, List.length_append] at h1
  refine ⟨by rw [List.flatten_cons, List.length_append]; exact h1, ?_⟩
  rw [List.length_cons]; (first | lia | omega)
set_option maxHeartbeats 1000000
theorem c_drawn {C : Cx} (G : Gd C) (K : Kn C) (R : Room C 0) {ns : List Int} (hn : ∀ n ∈ ns, 0 ≤ n ∧ n < 1000000) (hl : ns.length ≤ 12) : CallD C "_law_drawn" [.list (ns.map .int)] (.list ((ns.foldl dStep [⟨[], 0, [], []⟩]).map wyD)) := by
  refine CallD.def G R K.dLawDrawnP pDrawn rfl fun L f cd => ?_
  have G' := G.call (x := "_law_drawn") (scope := dLawDrawnP.1.2.2) (L := L) (f := f) (cd := cd) rfl
  have K' : Kn (C.call "_law_drawn" dLawDrawnP.1.2.2 L f cd) := K.cast rfl rfl rfl
  refine @Ex.assign _ _ _ _ _ G' _ _ _ _ (.list (stems.map .str)) ?_ ?_ rfl rfl
  · exact @eStrs _ _ _ _ _ s_stems stems (.cons (.cons (.cons (.cons (.cons (.cons (.cons (.cons (.cons (.cons (.cons (.cons (.cons (.cons (.cons (.cons .nil)))))))))))))))) s_stems_eq (Nat.le_of_ble_eq_true rfl)
  refine @Ex.assign _ _ _ _ _ G' _ _ _ _ (.list (longer.map .str)) ?_ ?_ rfl rfl
  · exact @eStrs _ _ _ _ _ s_longer longer (.cons (.cons (.cons (.cons (.cons (.cons (.cons (.cons (.cons (.cons (.cons (.cons (.cons (.cons (.cons (.cons .nil)))))))))))))))) s_longer_eq (Nat.le_of_ble_eq_true rfl)
  refine @Ex.assign _ _ _ _ _ G' _ _ _ _ (.list (endings.map .str)) ?_ ?_ rfl rfl
  · exact @eStrs _ _ _ _ _ s_endings endings (.cons (.cons (.cons (.cons (.cons (.cons (.cons (.cons (.cons (.cons (.cons (.cons (.cons (.cons (.cons (.cons .nil)))))))))))))))) s_endings_eq (Nat.le_of_ble_eq_true rfl)
  refine @Ex.assign _ _ _ _ _ G' _ _ _ _ (.list [wyD ⟨[], 0, [], []⟩]) (eLs (a1 (eLs (.cons (eS []) (.cons Ev.int (.cons (eLs a0) (.cons (eLs a0) .nil))))))) ?_ rfl rfl
  refine @Ex.forIt _ _ _ _ _ G' _ _ _ _ _ (ns.map .int) _ (fun d => [("number", d)]) (eL G') (fun z v r => It.list G' r) (fun d _ => As.name G' rfl) (FL.sub (ρ' := ("ways", .list ([(⟨[], 0, [], []⟩ : Wy)].map wyD)) :: dLoc) (.cons rfl (.cons rfl (.cons rfl (.cons rfl .nil))))
    (FL.ind (fun ways : List Wy => ("ways", .list (ways.map wyD)) :: dLoc) (fun _ => []) (fun ways ds => ∃ (ms : List Int) (m : Nat), ds = ms.map .int ∧ ms.foldl dStep ways = ns.foldl dStep [⟨[], 0, [], []⟩] ∧ (∀ n ∈ ms, 0 ≤ n ∧ n < 1000000) ∧ WaysOk ways m ∧ m + ms.length ≤ 12) (fun ways h => ?_) (fun ways d ds h => ?_) _ [⟨[], 0, [], []⟩] ⟨ns, 0, rfl, rfl, hn, ⟨by simp, by simp, ?_⟩, by (first | lia | omega)⟩)) (fun _ => rfl)
  · obtain ⟨ms, m, h1, h2, _⟩ := h
    have : ms = [] := by cases ms with | nil => rfl | cons => cases h1
    subst this
    refine Ex.nil (Ex.ret (eL G') ⟨[], ?_⟩)
    rw [← h2]; rfl
  · obtain ⟨ms, m, h1, h2, h3, hw, hm⟩ := h
    cases ms with
    | nil => cases h1
    | cons n ms =>
      simp only [List.map_cons, List.cons.injEq] at h1
      obtain ⟨rfl, rfl⟩ := h1
      obtain ⟨n0, n1⟩ := h3 n (.head _)
      have hnext := dStep_ok hw n0
      have h4 : m + 1 + ms.length ≤ 12 := by simp at hm; (first | lia | omega)
      obtain ⟨w, hlast⟩ : ∃ w, ways.getLast?.getD default = w := ⟨_, rfl⟩
      have hws := drop_snoc hw.ne hlast
      have hok : WyOk w m := hw.all w (by rw [hws]; simp)
      have hlD : (ways.map wyD).getLast? = some (wyD w) := by rw [hws, List.map_append]; simp
      have hdrop : pyCut none (some (-1 : Int)) (ways.map wyD) = ways.dropLast.map wyD := by rw [cut_init, ← List.map_dropLast]
      have hwl : (ways.map wyD).length ≤ 16777216 := by rw [List.length_map]; have := hw.four; (first | lia | omega)
      have hk8 : 0 ≤ n % 8 ∧ n % 8 < 8 := by (first | lia | omega)
      have hk16 : 0 ≤ n / 8 % 16 ∧ n / 8 % 16 < 16 := by (first | lia | omega)
      have fin : ∀ ways', ways' = dStep ways n → ∀ ρ, Sub ρ (("ways", .list (ways'.map wyD)) :: dLoc) → ∃ j : List Wy, (∃ (ms' : List Int) (m : Nat), ms.map D.int = ms'.map D.int ∧ ms'.foldl dStep j = ns.foldl dStep [⟨[], 0, [], []⟩] ∧ (∀ n ∈ ms', 0 ≤ n ∧ n < 1000000) ∧ WaysOk j m ∧ m + ms'.length ≤ 12) ∧ Sub ρ (("ways", .list (j.map wyD)) :: dLoc) ∧ ([] : Own) = [] := fun ways' e ρ hs => by
        subst e
        exact ⟨dStep ways n, ⟨ms, m + 1, rfl, h2, fun x hx => h3 x (.tail _ hx), hnext, h4⟩, hs, rfl⟩
      refine Ex.unpackS (xs := ["kind", "which"]) G' (eT (a2 (Ev.bin (eL G') Ev.int (.modInt (by decide))) (Ev.bin (Ev.bin (eL G') Ev.int (.divInt (by decide) ⟨by (first | lia | omega), by (first | lia | omega)⟩ (by decide))) Ev.int (.modInt (by decide))))) rfl rfl rfl ?_
      refine Ex.unpack (xs := ["root", "ups", "names", "crooks"]) (ds := [.str w.root, .int w.ups, .list (w.names.map nmD), .list (w.crooks.map .int)]) G' (Ev.item (eL G') (Ev.neg Ev.int) (.listLast hlD)) (.inr rfl) (.cons (.cons (.cons (.cons .nil)))) rfl rfl ?_
      have hnml : (w.names.map nmD).length ≤ 16777216 := by rw [List.length_map]; have := hok.count; (first | lia | omega)
      have hst : dStep ways n = dStep ways n := rfl
      conv at hst => rhs; unfold dStep; rw [hlast]
      simp only at hst
      have hws2 : (ways.map wyD).length = ways.length := List.length_map _
      have hE : ∀ nms : List (List (List Nat)), (nms.map nmD).isEmpty = nms.isEmpty := fun nms => by cases nms <;> rfl
      have hwhich : ∀ T : List (List Nat), T.length = 16 → (T.map D.str)[(n / 8 % 16).toNat]? = some (.str (T.getD (n / 8 % 16).toNat [])) := fun T hT => getD_str hk16.1 (by rw [hT]; exact hk16.2)
      have subs : ∀ (X : D) (ways' : List Wy) (r : Loc), X = .list (ways'.map wyD) → Sub (("ways", X) :: r) (("ways", .list (ways'.map wyD)) :: []) := fun X ways' r e => .cons (by rw [e]; rfl) .nil
      have hwD : ∀ (r : List Nat) (u : Nat) (nms : List (List (List Nat))) (crs : List Int), (ways.dropLast ++ [(⟨r, u, nms, crs⟩ : Wy)]).map wyD = ways.dropLast.map wyD ++ [.list [.str r, .int u, .list (nms.map nmD), .list (crs.map .int)]] := fun r u nms crs => by rw [List.map_append]; rfl
      have addW : (ways.dropLast.map wyD).length + 1 ≤ 16777216 := by rw [List.length_map]; have := hw.four; simp; (first | lia | omega)
      refine Ex.ite (.and (.cmp (eL G') Ev.int .eqInt) fun _ => .cmp (eB G' K'.len (a1 (eL G')) (.lenList hwl)) Ev.int .ltInt) (fun hb => ?_) fun hb => ?_
      · have hc : n % 8 = 0 ∧ ways.length < 4 := by
          simp only [Bool.and_eq_true, beq_iff_eq, decide_eq_true_eq, hws2] at hb
          exact ⟨hb.1, by have := hb.2; (first | lia | omega)⟩
        rw [if_pos hc] at hst
        have hr : ([D.str [], D.str [47], D.str [47, 47]])[(n / 8 % 16 % 3).toNat]? = some (.str (roots.getD ((n / 8 % 16).toNat % 3) [])) := by
          have := getD_str (xs := roots) (k := n / 8 % 16 % 3) (by (first | lia | omega)) (by show _ < (3 : Int); (first | lia | omega))
          rw [show (n / 8 % 16 % 3).toNat = (n / 8 % 16).toNat % 3 from by (first | lia | omega)] at this ⊢
          exact this
        refine Ex.assign G' (Ev.bin (eL G') (eLs (a1 (eLs (.cons (Ev.item (eLs (a3 (eS []) (eS [47]) (eS [47, 47]))) (Ev.bin (eL G') Ev.int (.modInt (by decide))) (.list (by (first | lia | omega)) hr (by (first | lia | omega)))) (.cons Ev.int (.cons (eLs a0) (.cons (eLs a0) .nil))))))) (.addList (by rw [List.length_map]; show _ + 1 ≤ _; have := hw.four; (first | lia | omega)))) ?_ rfl
        repeat (refine Ex.nil ?_)
        exact fin _ hst.symm _ (.cons (by rw [List.map_append]; rfl) (.cons rfl (.cons rfl (.cons rfl .nil))))
      have hc1 : ¬ (n % 8 = 0 ∧ ways.length < 4) := by
        rintro ⟨q1, q2⟩
        have : ((n % 8 == 0) && decide (((ways.map wyD).length : Int) < 4)) = true := by rw [hws2, Bool.and_eq_true]; exact ⟨by simpa using q1, decide_eq_true (by (first | lia | omega))⟩
        rw [this] at hb; cases hb
      rw [if_neg hc1] at hst
      refine Ex.ite (.and3 (.cmp (eL G') Ev.int .eqInt) (fun _ => .not (.plain (eL G') (.str (by rcases hok.root with w | w | w <;> rw [w] <;> decide)))) fun _ _ => .not (.plain (eL G') (.list hnml))) (fun hb => ?_) fun hb => ?_
      · have hc : n % 8 = 1 ∧ w.root = [] ∧ w.names = [] := by
          simp only [Bool.and_eq_true, beq_iff_eq, Bool.not_not, hE, List.isEmpty_iff] at hb
          exact hb
        rw [if_pos hc] at hst
        refine Ex.assign G' (Ev.bin (eCutL (eL G') .nil (.one (Ev.neg Ev.int)) hwl hdrop) (eLs (a1 (eLs (.cons (eL G') (.cons (Ev.bin (eL G') Ev.int .addInt) (.cons (eL G') (.cons (eL G') .nil))))))) (.addList addW)) ?_ rfl
        repeat (refine Ex.nil ?_)
        exact fin _ hst.symm _ (.cons (by rw [List.map_append]; rfl) (.cons rfl (.cons rfl (.cons rfl .nil))))
      have hc2 : ¬ (n % 8 = 1 ∧ w.root = [] ∧ w.names = []) := by
        rintro ⟨q1, q2, q3⟩
        rw [q1, q2, q3] at hb; cases hb
      rw [if_neg hc2] at hst
      have t3 := Cmp.inInts (C := C.call "_law_drawn" dLawDrawnP.1.2.2 L f cd) (i := n % 8) (xs := [2, 3])
      refine Ex.ite (.and (.cmp (eL G') (eT (a2 Ev.int Ev.int)) t3) fun _ => .plain (eL G') (.list hnml)) (fun hb => ?_) fun hb => ?_
      · have hc : (n % 8 = 2 ∨ n % 8 = 3) ∧ w.names ≠ [] := by
          simp only [Bool.and_eq_true, List.any_cons, List.any_nil, Bool.or_false, Bool.or_eq_true, beq_iff_eq, Bool.not_eq_true', hE, List.isEmpty_eq_false_iff] at hb
          exact ⟨by (first | lia | omega), hb.2⟩
        rw [if_pos hc] at hst
        rcases List.eq_nil_or_concat w.names with e | ⟨l, nm, e⟩
        · exact absurd e hc.2
        rw [List.concat_eq_append] at e
        have e1 : w.names.getLast?.getD [] = nm := by rw [e]; simp
        have hnm := hok.nm (nm := nm) (by rw [e]; simp)
        have hlast2 : (w.names.map nmD).getLast? = some (.list (nm.map .str)) := by rw [e, List.map_append]; simp [nmD]
        have hdrop2 : pyCut none (some (-1 : Int)) (w.names.map nmD) = w.names.dropLast.map nmD := by rw [cut_init, ← List.map_dropLast]
        rw [e1] at hst
        have hend := (endings_ok (n / 8 % 16).toNat (by (first | lia | omega))).2.2
        have hcount := hok.count
        refine Ex.assign G' (Ev.bin (eCutL (eL G') .nil (.one (Ev.neg Ev.int)) hwl hdrop) (eLs (a1 (eLs (.cons (eL G') (.cons (eL G') (.cons (Ev.bin (eCutL (eL G') .nil (.one (Ev.neg Ev.int)) hnml hdrop2) (eLs (a1 (Ev.bin (Ev.item (eL G') (Ev.neg Ev.int) (.listLast hlast2)) (eLs (a1 (Ev.bin (eS [46]) (Ev.item (eL G') (eL G') (.list hk16.1 (hwhich endings rfl) (by (first | lia | omega)))) (.addStr (by show 1 + _ ≤ _; (first | lia | omega)))))) (.addList (by rw [List.length_map]; show _ + 1 ≤ _; (first | lia | omega)))))) (.addList (by rw [List.length_map]; show _ + 1 ≤ _; simp; (first | lia | omega)))) (.cons (eL G') .nil))))))) (.addList addW)) ?_ rfl
        repeat (refine Ex.nil ?_)
        refine fin _ hst.symm _ (.cons ?_ (.cons rfl (.cons rfl (.cons rfl .nil))))
        rw [hwD, List.map_append, List.map_singleton, nmD, List.map_append]; rfl
      have hc3 : ¬ ((n % 8 = 2 ∨ n % 8 = 3) ∧ w.names ≠ []) := by
        rintro ⟨q1, q2⟩
        have : (([2, 3] : List Int).any (· == n % 8) && !(w.names.map nmD).isEmpty) = true := by
          rw [Bool.and_eq_true, hE]
          refine ⟨?_, by simpa using q2⟩
          rcases q1 with q1 | q1 <;> rw [q1] <;> rfl
        rw [this] at hb; cases hb
      rw [if_neg hc3] at hst
      have hgl : w.names ≠ [] → (w.names.map nmD).getLast? = some (nmD (w.names.getLast?.getD [])) := fun q => by
        rcases List.eq_nil_or_concat w.names with e | ⟨l, nm, e⟩
        · exact absurd e q
        · rw [e]; simp
      have hln : w.names ≠ [] → ((w.names.getLast?.getD []).map D.str).length ≤ 16777216 := fun q => by
        rcases List.eq_nil_or_concat w.names with e | ⟨l, nm, e⟩
        · exact absurd e q
        · have := (hok.nm (nm := nm) (by rw [e]; simp)).2
          rw [e]; simp; (first | lia | omega)
      have ne_of : (!(w.names.map nmD).isEmpty) = true → w.names ≠ [] := fun q e => by rw [e] at q; cases q
      refine Ex.ite (b := (n % 8 == 4) && ((!(w.names.map nmD).isEmpty) && ((((w.names.getLast?.getD []).map D.str).length : Int) == 1))) (.and3 (.cmp (eL G') Ev.int .eqInt) (fun _ => .plain (eL G') (.list hnml)) fun _ q => .cmp (eB G' K'.len (a1 (Ev.item (eL G') (Ev.neg Ev.int) (.listLast (hgl (ne_of q))))) (.lenList (hln (ne_of q)))) Ev.int .eqInt) (fun hb => ?_) fun hb => ?_
      · have hc : n % 8 = 4 ∧ w.names ≠ [] ∧ (w.names.getLast?.getD []).length = 1 := by
          simp only [Bool.and_eq_true, beq_iff_eq, List.length_map] at hb
          exact ⟨hb.1, ne_of hb.2.1, by have := hb.2.2; (first | lia | omega)⟩
        rw [if_pos hc] at hst
        have hg := hgl hc.2.1
        have hnmem : w.names.getLast?.getD [] ∈ w.names := by
          rcases List.eq_nil_or_concat w.names with e | ⟨l, nm, e⟩
          · exact absurd e hc.2.1
          · rw [e]; simp
        obtain ⟨g, hgx⟩ : ∃ g, w.names.getLast?.getD [] = [g] := by
          cases q : w.names.getLast?.getD [] with
          | nil => rw [q] at hc; cases hc.2.2
          | cons g r => rw [q] at hc; have := hc.2.2; simp at this; subst this; exact ⟨g, rfl⟩
        have hgl2 := (hok.nm hnmem).1
        rw [hgx] at hg hst hgl2
        have hgl3 : g.length ≤ 6 * m := by simpa using hgl2
        have hdrop2 : pyCut none (some (-1 : Int)) (w.names.map nmD) = w.names.dropLast.map nmD := by rw [cut_init, ← List.map_dropLast]
        have hlong := (longer_ok (n / 8 % 16).toNat (by (first | lia | omega))).2.2
        have hcount := hok.count
        refine Ex.assign G' (Ev.bin (eCutL (eL G') .nil (.one (Ev.neg Ev.int)) hwl hdrop) (eLs (a1 (eLs (.cons (eL G') (.cons (eL G') (.cons (Ev.bin (eCutL (eL G') .nil (.one (Ev.neg Ev.int)) hnml hdrop2) (eLs (a1 (eLs (a1 (Ev.bin (Ev.item (d := .str g) (Ev.item (eL G') (Ev.neg Ev.int) (.listLast hg)) Ev.int (.list (ds := [.str g]) (k := 0) (by decide) rfl (by decide))) (Ev.item (eL G') (eL G') (.list hk16.1 (hwhich longer rfl) (by (first | lia | omega)))) (.addStr (by (first | lia | omega)))))))) (.addList (by rw [List.length_map]; show _ + 1 ≤ _; simp; (first | lia | omega)))) (.cons (eL G') .nil))))))) (.addList addW)) ?_ rfl
        repeat (refine Ex.nil ?_)
        refine fin _ hst.symm _ (.cons ?_ (.cons rfl (.cons rfl (.cons rfl .nil))))
        rw [hwD, List.map_append, List.map_singleton, nmD]; rfl
      have hc4 : ¬ (n % 8 = 4 ∧ w.names ≠ [] ∧ (w.names.getLast?.getD []).length = 1) := by
        rintro ⟨q1, q2, q3⟩
        have : ((n % 8 == 4) && ((!(w.names.map nmD).isEmpty) && ((((w.names.getLast?.getD []).map D.str).length : Int) == 1))) = true := by
          rw [Bool.and_eq_true, Bool.and_eq_true, hE, List.length_map, q3]
          exact ⟨by simpa using q1, by simpa using q2, rfl⟩
        rw [this] at hb; cases hb
      rw [if_neg hc4] at hst
      have hcount := hok.count
      have hcl := hok.lens
      refine Ex.assign G' (Ev.bin (eCutL (eL G') .nil (.one (Ev.neg Ev.int)) hwl hdrop) (eLs (a1 (eLs (.cons (eL G') (.cons (eL G') (.cons (Ev.bin (eL G') (eLs (a1 (eLs (a1 (Ev.item (eL G') (eL G') (.list hk16.1 (hwhich stems rfl) (by (first | lia | omega)))))))) (.addList (by rw [List.length_map]; show _ + 1 ≤ _; (first | lia | omega)))) (.cons (Ev.bin (eL G') (eLs (a1 (Ev.bin (Ev.bin (eL G') Ev.int (.divInt (by decide) ⟨by (first | lia | omega), by (first | lia | omega)⟩ (by decide))) Ev.int (.modInt (by decide))))) (.addList (by rw [List.length_map]; show _ + 1 ≤ _; (first | lia | omega)))) .nil))))))) (.addList addW)) ?_ rfl
      repeat (refine Ex.nil ?_)
      refine fin _ hst.symm _ (.cons ?_ (.cons rfl (.cons rfl (.cons rfl .nil))))
      rw [hwD, List.map_append, List.map_singleton, List.map_append, List.map_singleton, nmD]; rfl
  · intro w hw
    rw [List.mem_singleton.mp hw]
    exact ⟨.inl rfl, fun e => absurd rfl e, fun nm h => by simp at h, rfl, fun c h => by simp at h, by simp, by simp⟩
end Mine
end

section
open PySem PySem.W PySem.Calls PyProof.Rows PySem.Builtin.Str PySem.SeqAt
set_option maxRecDepth 100000
namespace Mine
set_option linter.unusedVariables false
/-- a call of a def whose binding makes a tuple of the rest -/
theorem call_plainV {prog : Program} {w : World} {A : Around} {R : Result → Shared → Prop} {s : Shared} {name : Str} {params : Arguments} {body : List Stmt} {scope : Scope}
    {pm cd doc : Value} {a : Addr} {o : Obj} {v : Value} {vs : List Value} {x y : Str}
    (hroom : A.depth < recursionLimit) (ho : s.heap.get? a = some o) (hdata : o.data = .func (Calls.docDef name params body scope pm cd doc)) (hlim : s.heap.NoLimit) (hcd : s.heap.CodeRec cd name)
    (hbind : bindArgs (Calls.docDef name params body scope pm cd doc) ⟨v :: vs, []⟩ = (newTuple vs >>= fun t => pure [(x, v), (y, t)]))
    (hx : scope.names.lookup x = some .local) (hy : scope.names.lookup y = some .local) (hsz : vs.length ≤ sizeLine)
    (h : ∀ h₁, Fr (s.heap.push { cls := .type "tuple", data := .seq vs.toArray }) (s.heap.objs.size + 1) h₁ (fun z => [(x, v), (y, .ref s.heap.objs.size)].reverse.lookup z) →
      wpAny (model prog w) (A.deeper (envOf name scope (s.heap.objs.size + 1) a cd)) (execs body (envOf name scope (s.heap.objs.size + 1) a cd))
        (fun f s' => R (.ok (.ret (match f with | .ret v => v | _ => .none))) s') (fun _ _ => False)
        { s with heap := h₁, toks := s.toks + 2 })
    (hco : scope.isCoroutine = false) (hgen : scope.isGenerator = false) (hk : scope.kind = .function)
    (hcell : ∀ x ∈ scope.names, x.2 ≠ .cell) :
    codeAny (model prog w) A (.call (.ref a) ⟨v :: vs, []⟩) R s := by
  refine codeAny_call_function hroom ho hdata hco hgen rfl hcd ?_
  rw [hbind]
  have e1 : (s.heap.push { cls := .type "tuple", data := .seq vs.toArray }).objs.size = s.heap.objs.size + 1 := Heap.size_push ..
  have hlim' : (s.heap.push { cls := .type "tuple", data := .seq vs.toArray }).NoLimit := hlim.keeps fun b o e => Heap.get?_push_of_some _ e
  refine wpAny_bind (wpAny_newObj_type (hd := by show vs.toArray.size ≤ sizeLine; simpa using hsz) (wpAny_pure (wpAny_newFunctionEnv hcell (by
    intro z hz
    simp only [List.mem_cons, List.not_mem_nil, or_false] at hz
    rcases hz with rfl | rfl
    · exact hx
    · exact hy) (fun h₁ hns hsb => ⟨hlim'.fresh _ hsb, ?_⟩) hk)))
  rw [e1] at hns hsb ⊢
  show codeAny _ _ (.func body (envOf name scope (s.heap.objs.size + 1) a cd)) _ _
  refine codeAny_func (wpAny_mono (h h₁ ⟨hns, fun b o e => hsb.extBut b o ?_ (Heap.get?_push_of_some _ e), by rw [e1]; exact Nat.le_refl _⟩) (fun _ _ x => x) (fun _ _ x => x.elim))
  rw [← e1]
  exact Nat.ne_of_lt (Heap.lt_size e)
theorem CallD.defV {C : Cx} (G : Gd C) {n : Nat} (R : Room C n) {x y p : Str} {d : FD} {ds : List D} {d0 r : D} (hf : HasDef C.B C.mg x d)
    (hp : ∀ x pm cd doc v vs, bindArgs (docDef x d.1 d.2.1 d.2.2 pm cd doc) ⟨v :: vs, []⟩ = (newTuple vs >>= fun t => pure [(y, v), (p, t)]))
    (hy : d.2.2.names.lookup y = some .local) (hpp : d.2.2.names.lookup p = some .local) (h1 : d.2.2.isCoroutine = false) (h2 : d.2.2.isGenerator = false) (h3 : d.2.2.kind = .function) (h4 : (d.2.2.names.all fun x => decide (x.2 ≠ .cell)) = true) (hsz : ds.length ≤ 16777216)
    (h : ∀ L f cd, Ex (C.call x d.2.2 L f cd) [(p, .tup ds), (y, d0)] [] d.2.1 (Gives r)) : CallD C x (d0 :: ds) r := by
  obtain ⟨f, hm, o, pm, cd, doc, ho, hd, hc⟩ := hf
  have F : Fn C x f d.1 d.2.1 d.2.2 := ⟨hm, o, pm, cd, doc, ho, hd, hc⟩
  refine ⟨.ref f, .inl hm, F.keeper, fun z vs r' => ?_⟩
  cases r' with
  | @cons v vs _ _ rv rs =>
    intro s h0 hb hz
    have hlen := rs.length
    have zn : z s.heap.objs.size = none := inH_none hz (get_size _)
    let z1 := z.add s.heap.objs.size { cls := .type "tuple", data := .seq vs.toArray }
    have hz1 : z.le z1 := PH.le_add zn
    refine wpAny_call (call_plainV (x := y) (y := p) R.depth (hz _ _ (hb _ _ ho)) hd (G.nolimit.keeps fun b o e => hz _ _ (hb b o e)) (CodeRec.inZ hc hb hz) (hp x pm cd doc v vs) hy hpp (by rw [hlen]; exact fits hsz) (fun h₁ Fr₁ => ?_) h1 h2 h3 (fun z hz => of_decide_eq_true (List.all_eq_true.mp h4 z hz)))
    have push : ∀ b o, s.heap.get? b = some o → (s.heap.push { cls := .type "tuple", data := .seq vs.toArray }).get? b = some o := fun b o e => Heap.get?_push_of_some _ e
    have hin1 : z1.inH h₁ := fun b o e => by
      refine Fr₁.keep _ _ ?_
      simp only [z1] at e
      unfold PH.add at e; split at e
      · rename_i q; subst q; cases e; exact Heap.get?_push_size _ rfl
      · exact push _ _ (hz _ _ e)
    have nL : s.heap.get? (s.heap.objs.size + 1) = none := by
      cases q : s.heap.get? (s.heap.objs.size + 1) with
      | none => rfl
      | some o => exact absurd (Heap.lt_size q) (Nat.not_lt.mpr (Nat.le_succ _))
    have zL : z1 (s.heap.objs.size + 1) = none := by
      show z.add _ _ _ = none
      unfold PH.add
      rw [if_neg (by show ¬ (s.heap.objs.size + 1 = s.heap.objs.size); (first | lia | omega))]
      exact inH_none hz nL
    have S : St (C.call x d.2.2 (s.heap.objs.size + 1) f cd) (fun b => s.heap.get? b) z1 [(p, .tup ds), (y, d0)] [] h₁ := by
      refine ⟨⟨_, Fr₁.ns, fun q e he => ?_⟩, hb.mono hz1, hin1, fun b o e => Fr₁.keep _ _ (push _ _ e), zL, nL, fun p hp => (nomatch hp), List.nodup_nil⟩
      show ∃ u, [(y, v), (p, Value.ref s.heap.objs.size)].reverse.lookup q = some u ∧ _
      simp only [List.reverse_cons, List.reverse_nil, List.nil_append, List.cons_append, List.lookup_cons, List.lookup_nil] at he ⊢
      cases q1 : (q == p) with
      | true => rw [q1] at he; cases he; exact ⟨_, rfl, .tup (n := 0) (PH.add_at _ _ _) (rs.mono hz1)⟩
      | false =>
        rw [q1] at he
        simp only at he ⊢
        cases q2 : (q == y) with
        | true => rw [q2] at he; cases he; exact ⟨_, rfl, rv.mono hz1⟩
        | false => rw [q2] at he; cases he
    refine Wp.mono (h _ f cd _ z1 { s with heap := h₁, toks := s.toks + 2 } (Nat.lt_of_lt_of_le h0 (Nat.le_add_right _ _)) S) fun fl s' _ q => ?_
    obtain ⟨z', o', l, ho', ⟨cs, rfl⟩, sm⟩ := q
    cases fl with
    | ret v =>
      obtain ⟨S', r'⟩ := ho'
      refine ⟨S'.keep, ⟨z', hz1.trans l.1, fun b ob e => ?_, S'.low, r'⟩, sm⟩
      rcases l.2 b ob e with q | q
      · simp only [z1] at q
        unfold PH.add at q; split at q
        · rename_i w; subst w; exact .inr (get_size _)
        · exact .inl q
      · exact .inr q
    | _ => exact ho'.elim
section
variable {C : Cx} {ρ : Loc} {cs : Own} {ss : List Stmt} {Φ : Out → Prop}
/-- f(x, *xs) -/
theorem Ev.callStar (G : Gd C) {x : Str} {q sp : Pos} {e1 e2 : Expr} {p : Pos} {d1 : D} {ds : List D} {d : D} (h1 : Ev C ρ cs e1 d1) (h2 : Ev C ρ cs e2 (.list ds)) (hsz : ds.length ≤ 16777216) (h : CallD C x (d1 :: ds) d) (he : starred e1 = false)
    (hl : C.env.kindOf x = some .globalImplicit := by rfl) (hd : (x == ("__debug__" : Str)) = false := by rfl) (hc : eval (.Call (.Name x q) [e1, .Starred e2 sp] [] p) C.env = (do callWith p (← eval (.Name x q) C.env) [] (backTo p (starEach [e1, .Starred e2 sp] C.env)) []) := by rfl) :
    Ev C ρ cs (.Call (.Name x q) [e1, .Starred e2 sp] [] p) d := by
  obtain ⟨f, hg, hv⟩ := h
  intro z
  rw [hc, star_cons he]
  refine Tr.bind (Ev.glo G hg hl hd z) fun z1 v l1 r1 => ?_
  cases r1
  show Tr C ρ cs z1 (callWith p f [] [(false, eval e1 C.env), (true, (do let v ← eval e2 C.env; standAt p; pure v))] []) _
  intro k s h0 S
  refine ks_call (P := fun h => ∃ z', z1.le z' ∧ BZ C z' ∧ z'.inH h) rfl (fun h ⟨z', a, b, c⟩ => hv.kp z' h b c) (evalArgs_plain ?_)
  rw [spliced]
  refine wpAny_bind (Wp.mono (h1 z1 k s h0 S) fun v s1 ht1 ⟨z2, l2, S2, r2, sm2⟩ => ?_)
  simp only [Bool.false_eq_true, if_false]
  refine wpAny_bind (wpAny_pure (wpAny_bind (wpAny_holding (ks_spliced ?_))))
  refine Wp.mono (h2 z2 k s1 (Nat.lt_of_lt_of_le h0 ht1) S2) fun v2 s2 ht2 ⟨z3, l3, S3, r3, sm3⟩ => ?_
  cases r3 using Rep.listE with
  | @list a vs n _ ha hr =>
    have hget := S3.low _ _ ha
    unfold StarOf notIterableAtAll
    refine wpAny_bind (wpAny_specialOf (T := "list") ⟨_, hget, rfl⟩ PySem.F.slot_list_iter.lookup (wpAny_pure ⟨rfl, ?_⟩))
    refine wpAny_collect_seq a (.inl rfl) hget rfl rfl (fun h' hk => ?_) (by rw [sizeLine_eq, List.size_toArray, hr.length]; exact hsz)
    rw [spliced]
    refine wpAny_pure (wpAny_pure ?_)
    have S4 : St C k z3 ρ cs h' := S3.step hk (PH.le.refl _) FreshZ.refl fun b o e => hk _ _ (S3.low _ _ e)
    refine ⟨⟨z3, l2.1.trans l3.1, S4.base, S4.low⟩, ?_⟩
    have rr : RepAll C.P z3 (v :: (vs.toArray.toList ++ [])) (d1 :: ds) := .cons (r2.mono l3.1) (by simpa using hr)
    refine Wp.mono (Tr.op (hv.op z3 _ rr) k { s2 with heap := h' } (Nat.lt_of_lt_of_le h0 (Nat.le_trans ht1 ht2)) S4) fun r s5 _ ⟨z5, l5, S5, r5, sm5⟩ => ?_
    exact ⟨z5, (l2.trans l3).trans l5, S5, r5, (sm2.trans sm3).trans ⟨sm5.1, sm5.2⟩⟩
end
end Mine
end

section
open PySem PySem.W PySem.Calls PyProof.Rows PySem.Builtin.Str PySem.SeqAt
set_option maxRecDepth 100000
namespace Mine
set_option linter.unusedVariables false
def zipD (xs ys : List D) : List D := (xs.zip ys).map fun p => .tup [p.1, p.2]
theorem zipD_get {xs ys : List D} {i : Nat} {d : D} (h : (zipD xs ys)[i]? = some d) : ∃ a b, xs[i]? = some a ∧ ys[i]? = some b ∧ d = .tup [a, b] := by
  unfold zipD at h
  rw [List.getElem?_map] at h
  cases q : (xs.zip ys)[i]? with
  | none => rw [q] at h; cases h
  | some p =>
    rw [q] at h
    cases h
    obtain ⟨a, b⟩ := p
    have := List.getElem?_zip_eq_some.mp q
    exact ⟨a, b, this.1, this.2, rfl⟩
theorem zipD_end (xs ys : List D) : xs[(zipD xs ys).length]? = none ∨ ys[(zipD xs ys).length]? = none := by
  unfold zipD
  rw [List.length_map, List.length_zip]
  rcases Nat.le_total xs.length ys.length with h | h
  · exact .inl (by rw [Nat.min_eq_left h]; exact List.getElem?_eq_none (Nat.le_refl _))
  · exact .inr (by rw [Nat.min_eq_right h]; exact List.getElem?_eq_none (Nat.le_refl _))
theorem none_of {P : Params} {z : PH} {vs : List Value} {ds : List D} {i : Nat} (r : RepAll P z vs ds) (h : ds[i]? = none) : vs.toArray[i]? = none := by
  have := r.length
  rw [List.getElem?_eq_none_iff] at h
  simp; (first | lia | omega)
theorem Itr.zip {C : Cx} (G : Gd C) {elts : List Expr} {nn : Nat} {pos : Pos} {z TI TO i1 i2 l1 l2 : Addr} (ZA : ZipApart z TI TO i1 i2 l1 l2) {z0 : PH} {vs ws : List Value} {n m : Nat} {xs ys : List D}
    (h1 : z0 l1 = some (W.listOf vs.toArray n)) (h2 : z0 l2 = some (W.listOf ws.toArray m)) (hT : z0 TI = some { cls := .type "tuple", data := .seq #[.ref i1, .ref i2] }) (r1 : RepAll C.P z0 vs xs) (r2 : RepAll C.P z0 ws ys) :
    Itr C (.Tuple elts nn pos) z [z, TO, i1, i2] [z, TI, TO, i1, i2, l1, l2] z0 (zipD xs ys)
      (fun i h => IsZip h z TI TO .none ∧ IsPair h TI (.ref i1) (.ref i2) ∧ (∃ a b, IsPair h TO a b) ∧ h.IsListIter i1 l1 i ∧ h.IsListIter i2 l2 i ∧ h.get? l1 = some (W.listOf vs.toArray n) ∧ h.get? l2 = some (W.listOf ws.toArray m)) where
  frame := fun i h h' hst hk => by
    obtain ⟨hz, hTI, ⟨a, b, hTO⟩, hi1, hi2, hl1, hl2⟩ := hst
    exact ⟨hk z (by simp) _ hz, hk TI (by simp) _ hTI, ⟨a, b, hk TO (by simp) _ hTO⟩, hi1.at fun o e => hk i1 (by simp) o e, hi2.at fun o e => hk i2 (by simp) o e, hk l1 (by simp) _ hl1, hk l2 (by simp) _ hl2⟩
  sub := fun c hc => by simp at hc ⊢; rcases hc with rfl | rfl | rfl | rfl <;> simp
  ex := fun i h hst b hb => by
    obtain ⟨hz, hTI, ⟨a, b', hTO⟩, hi1, hi2, hl1, hl2⟩ := hst
    simp at hb
    rcases hb with rfl | rfl | rfl | rfl | rfl | rfl | rfl
    · exact ⟨_, hz⟩
    · exact ⟨_, hTI⟩
    · exact ⟨_, hTO⟩
    · obtain ⟨o, e, _⟩ := hi1; exact ⟨o, e⟩
    · obtain ⟨o, e, _⟩ := hi2; exact ⟨o, e⟩
    · exact ⟨_, hl1⟩
    · exact ⟨_, hl2⟩
  fpz := fun b hb => by
    simp at hb
    rcases hb with rfl | rfl | rfl | rfl | rfl | rfl | rfl
    · exact .inl (by simp)
    · exact .inr ⟨_, hT⟩
    · exact .inl (by simp)
    · exact .inl (by simp)
    · exact .inl (by simp)
    · exact .inr ⟨_, h1⟩
    · exact .inr ⟨_, h2⟩
  item := fun i d hd s z1 Q l hzz hw hst hQ => by
    obtain ⟨hz, hTI, ⟨a, b, hTO⟩, hi1, hi2, hl1, hl2⟩ := hst
    obtain ⟨da, db, ha, hb, rfl⟩ := zipD_get hd
    obtain ⟨v, hv, rv⟩ := r1.get ha
    obtain ⟨w, hw2, rw2⟩ := r2.get hb
    have lt : ∀ {c o}, s.heap.get? c = some o → s.heap.objs.size ≠ c := fun e => Nat.ne_of_gt (Heap.lt_size e)
    refine wpAny_pyNext_zip_item ZA hz hTI hTO hi1 hi2 ⟨_, hl1, rfl, n, rfl⟩ ⟨_, hl2, rfl, m, rfl⟩ (x := v) (y := w) (by simpa using hv) (by simpa using hw2) fun h' b1 b2 b3 b4 b5 b6 hk => ⟨_, rfl, ?_⟩
    refine wpAny_letOwnedTupleGo_zip b1 fun h'' c1 c2 => ?_
    have zn : z1 s.heap.objs.size = none := inH_none hzz (get_size _)
    have hle : z1.le (z1.add s.heap.objs.size { cls := .type "tuple", data := .seq #[v, w] }) := PH.le_add zn
    have kk : ∀ c o, c ∉ [z, TO, i1, i2] → s.heap.get? c = some o → h''.get? c = some o := fun c o hc e => by
      simp only [List.mem_cons, List.not_mem_nil, or_false, not_or] at hc
      exact (c2.2 c hc.1).trans (hk c o hc.1 hc.2.1 hc.2.2.1 hc.2.2.2 e)
    have hTz : s.heap.objs.size ≠ z := lt hz
    refine hQ (.ref s.heap.objs.size) _ h'' s.toks hle (fun c o e => ?_) (fun c o e => ?_) (.tup (n := 0) (vs := [v, w]) (PH.add_at _ _ _) (.cons ((rv.mono l).mono hle) (.cons ((rw2.mono l).mono hle) .nil))) ⟨c1, kk _ _ (by simp [ZA.TIz, ZA.TITO, ZA.TIi1, ZA.TIi2]) hTI, ⟨_, _, (c2.2 _ ZA.TOz).trans b2⟩, b3.extBut c2.extBut ZA.i1z, b4.extBut c2.extBut ZA.i2z, kk _ _ (by simp [ZA.l1z, ZA.l1TO, ZA.l1i1, ZA.l1i2]) hl1, kk _ _ (by simp [ZA.l2z, ZA.l2TO, ZA.l2i1, ZA.l2i2]) hl2⟩ fun c o hc e => kk c o hc e
    · unfold PH.add at e; split at e
      · rename_i q; subst q; exact .inr (get_size _)
      · exact .inl e
    · unfold PH.add at e; split at e
      · rename_i q; subst q; cases e; exact (c2.2 _ hTz).trans b5
      · exact kk c o (fun q => by rw [hw c q] at e; cases e) (hzz _ _ e)
  done := fun s Q hst hQ => by
    obtain ⟨hz, hTI, ⟨a, b, hTO⟩, hi1, hi2, hl1, hl2⟩ := hst
    refine wpAny_pyNext_zip_end G.hh ZA hz hTI hTO hi1 hi2 ⟨_, hl1, rfl, n, rfl⟩ ⟨_, hl2, rfl, m, rfl⟩ ?_ fun h' hk => hQ h' s.toks fun c o hc e => ?_
    · rcases zipD_end xs ys with q | q
      · exact .inl (none_of r1 q)
      · exact .inr (none_of r2 q)
    · simp only [List.mem_cons, List.not_mem_nil, or_false, not_or] at hc
      exact hk c o hc.1 hc.2.1 hc.2.2.1 hc.2.2.2 e
section
variable {C : Cx} {ρ : Loc} {cs : Own} {ss : List Stmt} {Φ : Out → Prop}
theorem Ex.forZip (G : Gd C) (hg : Glo C "zip" (.type "zip")) {elts : List Expr} {nn : Nat} {tp q cp zp : Pos} {e1 e2 : Expr} {body orelse : List Stmt} {xs ys : List D} {adds : D → Loc} (ha : EvA C ρ cs [e1, e2] [.list xs, .list ys]) (has : ∀ d ∈ zipD xs ys, As C (.Tuple elts nn tp) d (adds d))
    (hF : FL C adds body orelse (Then C ss Φ) (zipD xs ys) ρ cs) (hl : C.env.kindOf "zip" = some .globalImplicit := by rfl)
    (hs : ∀ x, foldedSetIterable (.Call (.Name "zip" zp) [e1, e2] [] cp) C.env x = pure x := by intro _; rfl) (hc : eval (.Call (.Name "zip" zp) [e1, e2] [] cp) C.env = (do callWith cp (← eval (.Name "zip" zp) C.env) [] (backTo cp (starEach [e1, e2] C.env)) []) := by rfl) :
    Ex C ρ cs (.For (.Tuple elts nn tp) (.Call (.Name "zip" zp) [e1, e2] [] cp) body orelse q :: ss) Φ := by
  refine Ex.cons fun k z s h0 S => ?_
  refine wpAny_For ?_ hs
  rw [hc]
  refine wpAny_bind (Wp.mono (Ev.glo G hg hl rfl z k s h0 S) fun v s1 ht1 ⟨z1, g1, S1, r1, sm1⟩ => ?_)
  cases r1
  refine callWith_of (P := fun h => True) (by rw [ha.2 cp]; rfl) (fun h _ => keeper_type (C := C) h) ?_
  refine evalArgs_any (ha.2 cp) (Wp.mono (ha.1 z1 cp k s1 (Nat.lt_of_lt_of_le h0 ht1) S1) fun vals s2 ht2 ⟨z2, g2, S2, r2, sm2⟩ => ⟨trivial, ?_⟩)
  cases r2 using RepAll.consE with
  | cons ra rest =>
    cases rest using RepAll.consE with
    | cons rb rest =>
      cases rest
      cases ra using Rep.listE with
      | @list l1 vs n _ ha1 hr1 =>
        cases rb using Rep.listE with
        | @list l2 ws m _ hb1 hr2 =>
          have gl1 := S2.low _ _ ha1
          have gl2 := S2.low _ _ hb1
          have lt1 : l1 < s2.heap.objs.size := Heap.lt_size gl1
          have lt2 : l2 < s2.heap.objs.size := Heap.lt_size gl2
          refine call_zip_2 ⟨_, gl1, rfl, n, rfl⟩ ⟨_, gl2, rfl, m, rfl⟩ fun h' b1 b2 b3 b4 b5 b6 hk => ?_
          generalize hN : s2.heap.objs.size = N at b1 b2 b3 b4 b5 b6 lt1 lt2 ⊢
          have fresh : ∀ j, s2.heap.get? (N + j) = none := fun j => by
            cases e : s2.heap.get? (N + j) with
            | none => rfl
            | some o => have := Heap.lt_size e; rw [hN] at this; exact absurd this (Nat.not_lt.mpr (Nat.le_add_right _ _))
          have A : ZipApart (N + 4) (N + 2) (N + 3) N (N + 1) l1 l2 := by
            have nn : ∀ {a b : Nat}, ¬ (a = b) → (a : Addr) ≠ b := fun h => h
            have ll : ∀ {l : Addr} (j : Nat), l < N → l ≠ N + j := fun j h => Nat.ne_of_lt (Nat.lt_of_lt_of_le h (Nat.le_add_right _ _))
            exact ⟨nn (by (first | lia | omega)), nn (by (first | lia | omega)), nn (by (first | lia | omega)), nn (by (first | lia | omega)), nn (by (first | lia | omega)), nn (by (first | lia | omega)), nn (by (first | lia | omega)), nn (by (first | lia | omega)), nn (by (first | lia | omega)), nn (by (first | lia | omega)), ll 4 lt1, ll 3 lt1, ll 0 lt1, ll 1 lt1, ll 4 lt2, ll 3 lt2, ll 0 lt2, ll 1 lt2⟩
          refine wpAny_pyIter_zip b1 ?_
          have zT : z2 (N + 2) = none := inH_none S2.low (fresh 2)
          have hle : z2.le (z2.add (N + 2) { cls := .type "tuple", data := .seq #[.ref N, .ref (N + 1)] }) := PH.le_add zT
          have at' : ∀ {b}, b ≠ N + 2 → z2.add (N + 2) { cls := .type "tuple", data := .seq #[.ref N, .ref (N + 1)] } b = z2 b := fun q => if_neg q
          have hfr : FreshZ s2.heap z2 (z2.add (N + 2) { cls := .type "tuple", data := .seq #[.ref N, .ref (N + 1)] }) := fun b o e => by
            unfold PH.add at e; split at e
            · rename_i w; subst w; exact .inr (fresh 2)
            · exact .inl e
          have hin : (z2.add (N + 2) { cls := .type "tuple", data := .seq #[.ref N, .ref (N + 1)] }).inH h' := fun b o e => by
            unfold PH.add at e; split at e
            · rename_i w; subst w; cases e; exact b2
            · exact hk _ _ (S2.low _ _ e)
          have S3 : St C k (z2.add (N + 2) { cls := .type "tuple", data := .seq #[.ref N, .ref (N + 1)] }) ρ cs h' := S2.step hk hle hfr hin
          have g : Grow k z (z2.add (N + 2) { cls := .type "tuple", data := .seq #[.ref N, .ref (N + 1)] }) := (g1.trans g2).trans (.of S2.keep hle hfr)
          have ne1 : l1 ≠ N + 2 := Nat.ne_of_lt (Nat.lt_of_lt_of_le lt1 (Nat.le_add_right _ _))
          have ne2 : l2 ≠ N + 2 := Nat.ne_of_lt (Nat.lt_of_lt_of_le lt2 (Nat.le_add_right _ _))
          have WI := Itr.zip (C := C) (elts := elts) (nn := nn) (pos := tp) G A (z0 := z2.add (N + 2) { cls := .type "tuple", data := .seq #[.ref N, .ref (N + 1)] }) (by rw [at' ne1]; exact ha1) (by rw [at' ne2]; exact hb1) (PH.add_at _ _ _) (hr1.mono hle) (hr2.mono hle)
          have hwr : ∀ b ∈ [N + 4, N + 3, N, N + 1], s2.heap.get? b = none := fun b hb => by
            simp only [List.mem_cons, List.not_mem_nil, or_false] at hb
            rcases hb with e | e | e | e <;> rw [e]
            · exact fresh 4
            · exact fresh 3
            · exact fresh 0
            · exact fresh 1
          have O2 := Off.new S2 hwr
          have O : Off C k (z2.add (N + 2) { cls := .type "tuple", data := .seq #[.ref N, .ref (N + 1)] }) cs [N + 4, N + 3, N, N + 1] := ⟨fun b hb => by
            have hb2 := hb
            simp only [List.mem_cons, List.not_mem_nil, or_false] at hb2
            have hne : b ≠ N + 2 := by
              rcases hb2 with e | e | e | e <;> rw [e]
              · show ¬ (N + 4 = N + 2); (first | lia | omega)
              · show ¬ (N + 3 = N + 2); (first | lia | omega)
              · show ¬ (N = N + 2); (first | lia | omega)
              · show ¬ (N + 1 = N + 2); (first | lia | omega)
            rw [at' hne]; exact O2.z b hb, O2.k, O2.L, O2.c⟩
          refine codeAny_mono (FL.sound WI has (zipD xs ys) 0 ρ cs k _ { s2 with heap := h' } rfl (Nat.zero_le _) (Nat.lt_of_lt_of_le h0 (Nat.le_trans ht1 ht2)) S3 (PH.le.refl _) ⟨b1, b2, ⟨_, _, b3⟩, b4, b5, hk _ _ gl1, hk _ _ gl2⟩ O hF) fun r s'' q => by
            cases r with
            | ok f => exact PostX.after g ((sm1.trans sm2).trans ⟨rfl, rfl⟩) q
            | error e => exact False.elim q
end
end Mine
end

section
open PySem PySem.W PySem.Calls PyProof.Rows PySem.Builtin.Str PySem.SeqAt
set_option maxRecDepth 100000
namespace Mine
set_option linter.unusedVariables false
def jStep (path b : List Nat) : List Nat := if (b.head? == some 47) || path.isEmpty then b else if path.getLast? == some 47 then path ++ b else path ++ (47 :: b)
theorem jStep_len (path b : List Nat) : (jStep path b).length ≤ path.length + (b.length + 1) := by
  unfold jStep
  split
  · (first | lia | omega)
  · split <;> simp <;> (first | lia | omega)
theorem foldl_jStep_len : ∀ (ps : List (List Nat)) (a : List Nat), (ps.foldl jStep a).length ≤ a.length + (ps.map fun b => b.length + 1).sum
  | [], a => by simp
  | b :: ps, a => by
    have h1 := foldl_jStep_len ps (jStep a b)
    have h2 := jStep_len a b
    rw [List.foldl_cons, List.map_cons, List.sum_cons]; (first | lia | omega)
theorem c_join {C : Cx} (G : Gd C) (K : Kn C) (R : Room C 1) {a : List Nat} {ps : List (List Nat)} (hsz : a.length + (ps.map fun b => b.length + 1).sum ≤ 1000000) (hl : ps.length ≤ 1000000) : CallD C "join" (.str a :: ps.map .str) (.str (ps.foldl jStep a)) := by
  refine CallD.defV (y := "a") (p := "p") G R K.dJoin (fun x pm cd doc v vs => by cases vs <;> rfl) rfl rfl rfl rfl rfl (by decide +kernel) (by rw [List.length_map]; (first | lia | omega)) fun L f cd => ?_
  have G' := G.call (x := "join") (scope := dJoin.1.2.2) (L := L) (f := f) (cd := cd) rfl
  have K' : Kn (C.call "join" dJoin.1.2.2 L f cd) := K.cast rfl rfl rfl
  have R' : Room (C.call "join" dJoin.1.2.2 L f cd) 0 := R.call
  refine Ex.doc G' ?_
  refine Ex.assign G' (eC G' (a1 (eL G')) (c_fspath G' K' R')) ?_ rfl
  refine Ex.assign G' (eC G' (a1 (eL G')) (c_get_sep G' K' R')) ?_ rfl
  refine Ex.assign G' (eL G') ?_ rfl
  refine Ex.tryOk ?_
  refine Ex.forTup G' (eL G') rfl (FL.sub (ρ' := [("path", .str a), ("sep", .str [47])]) (.cons rfl (.cons rfl .nil))
    (FL.ind (fun path : List Nat => [("path", .str path), ("sep", .str [47])]) (fun _ => []) (fun path ds => ∃ qs : List (List Nat), ds = qs.map .str ∧ qs.foldl jStep path = ps.foldl jStep a ∧ path.length + (qs.map fun b => b.length + 1).sum ≤ 1000000) (fun path h => ?_) (fun path d ds h => ?_) _ a ⟨ps, rfl, rfl, hsz⟩))
  · obtain ⟨qs, h1, h2, _⟩ := h
    have : qs = [] := by cases qs with | nil => rfl | cons => cases h1
    subst this
    have h2 : path = ps.foldl jStep a := h2
    repeat (refine Ex.nil ?_)
    exact Ex.ret (eL G') ⟨[], by rw [h2]⟩
  · obtain ⟨qs, h1, h2, h3⟩ := h
    cases qs with
    | nil => cases h1
    | cons b qs =>
      simp only [List.map_cons, List.cons.injEq] at h1
      obtain ⟨rfl, rfl⟩ := h1
      rw [List.map_cons, List.sum_cons] at h3
      have hlen := jStep_len path b
      have fin : ∀ ρ path', path' = jStep path b → Sub ρ [("path", .str path'), ("sep", .str [47])] → ∃ j : List Nat, (∃ qs' : List (List Nat), qs.map D.str = qs'.map .str ∧ qs'.foldl jStep j = ps.foldl jStep a ∧ j.length + (qs'.map fun b => b.length + 1).sum ≤ 1000000) ∧ Sub ρ [("path", .str j), ("sep", .str [47])] ∧ ([] : Own) = [] := fun ρ path' e hs => by
        subst e
        exact ⟨jStep path b, ⟨qs, rfl, h2, by (first | lia | omega)⟩, hs, rfl⟩
      refine Ex.assign G' (eC G' (a1 (eL G')) (c_fspath G' K' R')) ?_ rfl
      refine Ex.ite (.or (.plain (Ev.meth (eL G') (a1 (eL G')) MethV.starts) .bool) fun _ => .not (.plain (eL G') (.str (by (first | lia | omega))))) (fun h => ?_) fun h => ?_
      · refine Ex.assign G' (eL G') ?_ rfl
        repeat (refine Ex.nil ?_)
        refine fin _ b ?_ (.cons rfl (.cons rfl .nil))
        unfold jStep; rw [if_pos (by simpa using h)]
      · have hno : ¬ (((b.head? == some 47) || path.isEmpty) = true) := by rw [Bool.not_eq_true]; simpa using h
        refine Ex.ite (.plain (Ev.meth (eL G') (a1 (eL G')) MethV.ends) .bool) (fun h' => ?_) fun h' => ?_
        · refine Ex.aug G' rfl (eL G') (Inp.addStr (by (first | lia | omega))) ?_ rfl
          repeat (refine Ex.nil ?_)
          refine fin _ _ ?_ (.cons rfl (.cons rfl .nil))
          unfold jStep; rw [if_neg hno, if_pos h']
        · refine Ex.aug G' rfl (Ev.bin (eL G') (eL G') (.addStr (by simp; (first | lia | omega)))) (Inp.addStr (by simp; (first | lia | omega))) ?_ rfl
          repeat (refine Ex.nil ?_)
          refine fin _ _ ?_ (.cons rfl (.cons rfl .nil))
          unfold jStep; rw [if_neg hno, if_neg (by rw [h']; decide)]; rfl
/-- how a name is spelled -/
def crk (plain : List Nat) : List (List Nat) := [plain, [46, 47] ++ plain, [98, 47, 46, 46, 47] ++ plain, plain ++ [47], plain ++ [47, 47, 46], [46, 47, 47] ++ plain ++ [47, 38, 47, 46, 46]]
def spell (nm : List (List Nat)) (c : Int) : List Nat := (crk nm.flatten).getD c.toNat []
def spells (names : List (List (List Nat))) (crooks : List Int) : List (List Nat) := (names.zip crooks).map fun p => spell p.1 p.2
def xSpelled (w : Wy) : List Nat := (spells w.names w.crooks).foldl jStep (w.root ++ (List.replicate w.ups [46, 46, 47]).flatten)
theorem crk_len (p : List Nat) (k : Nat) : ((crk p).getD k []).length ≤ p.length + 8 := by
  match k with
  | 0 => simp [crk]
  | 1 => simp [crk] <;> (first | lia | omega)
  | 2 => simp [crk] <;> (first | lia | omega)
  | 3 => simp [crk]
  | 4 => simp [crk]
  | 5 => simp [crk] <;> (first | lia | omega)
  | n + 6 => simp [crk]
theorem pSpelled : Plain dLawSpelledP.1 1 := .k1 rfl (fun _ _ _ _ _ => rfl) (by decide +kernel) rfl rfl rfl (by decide +kernel)
theorem spells_sum {m : Nat} : ∀ (names : List (List (List Nat))) (crooks : List Int), ((spells names crooks).map fun b => b.length + 1).sum ≤ (names.map fun nm => nm.flatten.length).sum + 9 * names.length
  | [], _ => by simp [spells]
  | _ :: _, [] => by simp [spells]
  | nm :: names, c :: crooks => by
    have := spells_sum (m := m) names crooks
    have h := crk_len nm.flatten c.toNat
    unfold spells at this ⊢
    rw [List.zip_cons_cons, List.map_cons, List.map_cons, List.sum_cons, List.map_cons, List.sum_cons, List.length_cons]
    unfold spell at this ⊢
    simp only
    (first | lia | omega)
set_option maxHeartbeats 1000000
theorem c_spelled {C : Cx} (G : Gd C) (K : Kn C) (R : Room C 2) {w : Wy} {m : Nat} (hok : WyOk w m) (hm : m ≤ 20) : CallD C "_law_spelled" [wyD w] (.str (xSpelled w)) := by
  refine CallD.def G R K.dLawSpelledP pSpelled rfl fun L f cd => ?_
  have G' := G.call (x := "_law_spelled") (scope := dLawSpelledP.1.2.2) (L := L) (f := f) (cd := cd) rfl
  have K' : Kn (C.call "_law_spelled" dLawSpelledP.1.2.2 L f cd) := K.cast rfl rfl rfl
  have R' : Room (C.call "_law_spelled" dLawSpelledP.1.2.2 L f cd) 1 := R.call
  have hcount := hok.count
  have hlens := hok.lens
  have hsize := hok.size
  refine Ex.unpack (xs := ["root", "ups", "names", "crooks"]) (ds := [.str w.root, .int w.ups, .list (w.names.map nmD), .list (w.crooks.map .int)]) G' (eL G') (.inr rfl) (.cons (.cons (.cons (.cons .nil)))) rfl rfl ?_
  refine Ex.assignNew G' (fun a => ?_) rfl
  have hz : zipD (w.names.map nmD) (w.crooks.map D.int) = (w.names.zip w.crooks).map fun p => D.tup [nmD p.1, .int p.2] := by
    unfold zipD
    rw [List.zip_map, List.map_map]; rfl
  refine Ex.forZip G' K'.zip (adds := fun d => match d with | .tup ds => ([("name" : Str), ("crook" : Str)].zip ds).reverse | _ => []) (a2 (eL G' (d := .list (w.names.map nmD))) (eL G' (d := .list (w.crooks.map .int)))) (fun d hd => ?_) (FL.sub (ρ' := [("parts", .val (.ref a)), ("root", .str w.root), ("ups", .int w.ups)]) (.cons rfl (.cons rfl (.cons rfl .nil)))
    (FL.ind (fun done : List (List Nat) => [("parts", .val (.ref a)), ("root", .str w.root), ("ups", .int w.ups)]) (fun done => [(a, .lst (done.map .str))]) (fun done ds => ∃ rest : List (List (List Nat) × Int), ds = rest.map (fun p => D.tup [nmD p.1, .int p.2]) ∧ done ++ rest.map (fun p => spell p.1 p.2) = spells w.names w.crooks ∧ (∀ p ∈ rest, p.1 ∈ w.names ∧ p.2 ∈ w.crooks)) (fun done h => ?_) (fun done d ds h => ?_) _ [] ⟨w.names.zip w.crooks, hz, rfl, fun p hp => ⟨(List.of_mem_zip hp).1, (List.of_mem_zip hp).2⟩⟩))
  · rw [hz] at hd
    obtain ⟨p, _, rfl⟩ := List.mem_map.mp hd
    exact As.many G' (xs := ["name", "crook"]) (ds := [nmD p.1, .int p.2]) (.cons (.cons .nil)) rfl rfl (.inl rfl)
  · obtain ⟨rest, h1, h2, _⟩ := h
    have : rest = [] := by cases rest with | nil => rfl | cons => cases h1
    subst this
    have h2 : done = spells w.names w.crooks := by simpa using h2
    repeat (refine Ex.nil ?_)
    refine Ex.freeze (x := "parts") rfl ?_
    have hs := spells_sum (m := m) w.names w.crooks
    have hr : w.root.length ≤ 2 := by rcases hok.root with e | e | e <;> rw [e] <;> decide
    have hfl : (List.replicate w.ups [46, 46, 47]).flatten.length = 3 * w.ups := by
      rw [List.length_flatten, List.map_replicate, sum_rep]; show w.ups * 3 = _; (first | lia | omega)
    have hj := c_join G' K' R' (a := w.root ++ (List.replicate w.ups [46, 46, 47]).flatten) (ps := done) (by rw [h2, List.length_append, hfl]; (first | lia | omega)) (by rw [h2]; unfold spells; simp; (first | lia | omega))
    refine Ex.ret (Ev.callStar G' (Ev.bin (eL G') (Ev.bin (eS [46, 46, 47]) (eL G') (.mulStr (n := w.ups) (by show 3 * _ ≤ _; rw [Int.toNat_natCast]; (first | lia | omega)) ⟨by (first | lia | omega), by (first | lia | omega)⟩)) (.addStr (by rw [Int.toNat_natCast, hfl]; (first | lia | omega)))) (eL G') (by rw [List.length_map, h2]; unfold spells; simp; (first | lia | omega)) (by rw [Int.toNat_natCast]; exact hj) rfl) ⟨[], ?_⟩
    rw [h2]; rfl
  · obtain ⟨rest, h1, h2, h3⟩ := h
    cases rest with
    | nil => cases h1
    | cons p rest =>
      obtain ⟨nm, c⟩ := p
      simp only [List.map_cons, List.cons.injEq] at h1
      obtain ⟨rfl, rfl⟩ := h1
      obtain ⟨hn1, hc1⟩ := h3 _ (.head _)
      obtain ⟨hf1, hf2⟩ := hok.nm hn1
      have hf1 : nm.flatten.length ≤ 6 * m := hf1
      obtain ⟨hc2, hc3⟩ := hok.crooks c hc1
      have hdl : (done.map D.str).length ≤ 16777216 := by
        have := congrArg List.length h2
        unfold spells at this
        rw [List.length_append] at this
        rw [List.length_map]
        simp at this; (first | lia | omega)
      have hsum : (nm.map fun y => y.length + ([] : List Nat).length).sum ≤ 16777216 := by
        have : (nm.map fun y => y.length + ([] : List Nat).length).sum = nm.flatten.length := by rw [List.length_flatten]; rfl
        rw [this]; (first | lia | omega)
      have hpl := MethV.join (C := C.call "_law_spelled" dLawSpelledP.1.2.2 L f cd) (x := []) hsum
      rw [jn_nil] at hpl
      have hg : ((crk nm.flatten).map D.str)[c.toNat]? = some (.str (spell nm c)) := getD_str hc2 (by show c < 6; exact hc3)
      refine Ex.assign G' (Ev.meth (eS []) (a1 (eL G')) hpl) ?_ rfl
      refine Ex.append G' rfl (Ev.item (a := .list ((crk nm.flatten).map .str)) (eLs (.cons (eL G') (.cons (Ev.bin (eS [46, 47]) (eL G') (.addStr (by simp only [List.length_cons, List.length_nil]; (first | lia | omega)))) (.cons (Ev.bin (eS [98, 47, 46, 46, 47]) (eL G') (.addStr (by simp only [List.length_cons, List.length_nil]; (first | lia | omega)))) (.cons (Ev.bin (eL G') (eS [47]) (.addStr (by simp only [List.length_cons, List.length_nil]; (first | lia | omega)))) (.cons (Ev.bin (eL G') (eS [47, 47, 46]) (.addStr (by simp only [List.length_cons, List.length_nil]; (first | lia | omega)))) (.cons (Ev.bin (Ev.bin (eS [46, 47, 47]) (eL G') (.addStr (by simp only [List.length_cons, List.length_nil]; (first | lia | omega)))) (eS [47, 38, 47, 46, 46]) (.addStr (by simp only [List.length_append, List.length_cons, List.length_nil]; (first | lia | omega)))) .nil))))))) (eL G') (.list hc2 hg (by (first | lia | omega)))) hdl ?_ rfl rfl
      repeat (refine Ex.nil ?_)
      exact ⟨done ++ [spell nm c], ⟨rest, rfl, by rw [← h2]; simp, fun p hp => h3 p (.tail _ hp)⟩, .cons rfl (.cons rfl (.cons rfl .nil)), by simp⟩
end Mine
end

section
open PySem PySem.W PySem.Calls PyProof.Rows PySem.Builtin.Str PySem.SeqAt
set_option maxRecDepth 100000
namespace Mine
set_option linter.unusedVariables false
theorem type_la : typeOf (.builtin "list.append") = pure (.type "method_descriptor") := by show builtinType _ = _; rw [builtinType_eq_fast]; kernel_rfl
theorem slot_md_get : Slot "method_descriptor" "__get__" "method_descriptor.__get__" :=
  .of (owner := "method_descriptor") (n := "__get__") (by rw [typeLookup_type, builtinLookup_eq_fast]; kernel_rfl) (by decide +kernel) (by decide +kernel) (by decide +kernel)
    (by first | exact .inl (by decide +kernel) | exact .inr (by decide +kernel)) (by rw [isSubtype_type]; kernel_rfl)
theorem md_set : typeLookup (.type "method_descriptor") "__set__" = pure none := by rw [typeLookup_type, builtinLookup_eq_fast]; kernel_rfl
theorem md_del : typeLookup (.type "method_descriptor") "__delete__" = pure none := by rw [typeLookup_type, builtinLookup_eq_fast]; kernel_rfl
theorem entry_md_get : entryFor table "method_descriptor.__get__" = some Builtin.«method_descriptor.__get__» := entryFor_of_tree (by kernel_rfl)
theorem args_md_get (a b c : Value) : argsOk "method_descriptor.__get__" ⟨[a, b, c], []⟩ := by unfold argsOk; kernel_rfl
theorem owner_la : (kfb_private% "ownerAndName") "list.append" = ("list", "append") := by first | decide +kernel | kernel_rfl
theorem sub_list : isSubtype (.type "list") (.type "list") = pure true := by rw [isSubtype_type]; kernel_rfl
theorem run_md {M : Model} {A : Around} {E : Value → Shared → Prop} {s : Shared} {a : Addr} {xs : Array Value} {k : Nat} {P : PySem.Fin → Shared → Prop} (hx : s.heap.get? a = some { cls := .type "list", data := .seq xs k })
    (h : P (.done (.ret (.ref s.heap.objs.size))) { s with heap := s.heap.push { cls := .type "builtin_function_or_method", data := .fields #[.builtin "list.append", .ref a] } }) :
    wpAny M A (Builtin.«method_descriptor.__get__» ⟨[.builtin "list.append", .ref a, .type "list"], []⟩) P E s := by
  have hT : s.TypeIs (.ref a) "list" := ⟨_, hx, rfl⟩
  unfold Builtin.«method_descriptor.__get__»
  refine wpAny_bind (wpAny_of_eq (a := (.builtin "list.append", some (.ref a), some (.type "list"))) (by first | rfl | kernel_rfl) ?_)
  refine KFB.if_not (by decide +kernel) ?_
  show wpAny M A (do (kfb_private% "checkInstance") (.builtin "list.append") (.ref a); ret (← newFields "builtin_function_or_method" [.builtin "list.append", .ref a])) P E s
  refine wpAny_bind ?_
  show wpAny M A (do
    let r ← pure ((Str.ofString ((kfb_private% "ownerAndName") "list.append").2), Value.type ((kfb_private% "ownerAndName") "list.append").1)
    if !(← isInstance (.ref a) r.2) then _ else pure ()) _ E s
  rw [owner_la]
  refine wpAny_bind (wpAny_pure (wpAny_bind (wpAny_isInstance (T := "list") (b := true) hT sub_list ?_)))
  refine wpAny_pure ?_
  exact wpAny_bind (wpAny_newObj_type (wpAny_pure h))
theorem entry_lga : entryFor table "list.__getattribute__" = some Builtin.«object.__getattribute__» := am_entry_list_getattribute
theorem ga_append {prog : Program} {w : World} {A : Around} {P : PySem.Fin → Shared → Prop} {E : Value → Shared → Prop} {s : Shared} {a : Addr} {xs : Array Value} {k : Nat} {u : Tok} (hx : s.heap.get? a = some { cls := .type "list", data := .seq xs k })
    (h : ∀ tk, P (.done (.ret (.ref s.heap.objs.size))) { s with heap := s.heap.push { cls := .type "builtin_function_or_method", data := .fields #[.builtin "list.append", .ref a] }, toks := tk }) :
    wpAny (model prog w) A (Builtin.«object.__getattribute__» ⟨[.ref a, .str "append" u], []⟩) P E s := by
  obtain ⟨hp, g, d, tk, os⟩ := s
  have hT : (⟨hp, g, d, tk, os⟩ : Shared).TypeIs (.ref a) "list" := ⟨_, hx, rfl⟩
  have f1 := slot_list_append.lookup
  have f2 := type_la
  have f3 := slot_md_get.lookup
  have f4 := md_set
  have f5 := md_del
  unfold Builtin.«object.__getattribute__»
  repeat (any_goals (first | assumption | wp_step))
  refine codeAny_call_builtin slot_md_get.plain entry_md_get (slot_md_get.check _ _ _ _ _ _ _ _ type_la (args_md_get _ _ _) (run_md hx ?_))
  exact wpAny_pure (h tk)

/-- what `res.append` is -/
theorem getAttr_append {prog : Program} {w : World} {A : Around} {E : Value → Shared → Prop} {s : Shared} {a : Addr} {xs : Array Value} {k : Nat} {Q : Value → Shared → Prop} (hx : s.heap.get? a = some { cls := .type "list", data := .seq xs k })
    (h : ∀ tk, Q (.ref s.heap.objs.size) { s with heap := s.heap.push { cls := .type "builtin_function_or_method", data := .fields #[.builtin "list.append", .ref a] }, toks := tk }) :
    wpAny (model prog w) A (getAttr (.ref a) "append" true) Q E s := by
  obtain ⟨hp, g, d, tk, os⟩ := s
  have hT : ∀ tk', (⟨hp, g, d, tk', os⟩ : Shared).TypeIs (.ref a) "list" := fun _ => ⟨_, hx, rfl⟩
  have f3 := F.slot_list_getattribute.lookup
  have f4 := F.slot_list_getattribute.bind (.ref a)
  unfold getAttr getAttrBy
  repeat (any_goals (first | assumption | exact hT _ | wp_step))
  exact codeAny_call_builtin F.slot_list_getattribute.plain am_entry_list_getattribute (F.slot_list_getattribute.check _ _ _ _ _ _ _ _ (hT _) (F.args_list_getattribute_2 _ _) (ga_append hx fun tk => wpAny_pure (h tk)))
theorem kind_la : builtinKind "list.append" = some .method := by decide +kernel
theorem sub_lm : isSubtype (.type "list") (.type "module") = pure false := by rw [isSubtype_type]; kernel_rfl
theorem sub_lt : isSubtype (.type "list") (.type "type") = pure false := by rw [isSubtype_type]; kernel_rfl
def laSig : Manifest.Signature := (List.lookup (String.ofList ['d', 'n', 'e', 'p', 'p', 'a'].reverse) Manifest.sig_list).getD ⟨.hand, "", "", .none, []⟩
theorem laSig_eq : Manifest.signature? "list.append" = some laSig := by
  rw [signature?_of (id := "list.append") (n := ['d', 'n', 'e', 'p', 'p', 'a']) (o := ['t', 's', 'i', 'l']) (by kernel_rfl) PySem.F.owner_list]; kernel_rfl
theorem la_args (a : Addr) (v : Value) : Bind.checkArgs "list.append" { laSig with full := toString (Bind.lastOf "list") ++ toString "." ++ toString (Bind.lastOf "list.append") } ⟨[.ref a, v], []⟩ = pure () := by kernel_rfl
theorem la_var : Manifest.varargsMethods.contains "list.append" = false := by decide +kernel
theorem check_la {M : Model} {A : Around} {E : Value → Shared → Prop} {s : Shared} {a : Addr} {v : Value} {xs : Array Value} {k : Nat} {Q : Unit → Shared → Prop} (hx : s.heap.get? a = some { cls := .type "list", data := .seq xs k }) (hq : Q () s) : wpAny M A (checkBoundCall "list.append" ⟨[.ref a, v], []⟩) Q E s := by
  have hT : s.TypeIs (.ref a) "list" := ⟨_, hx, rfl⟩
  unfold checkBoundCall
  rw [laSig_eq, kind_la]
  refine KFB.if_not (by decide) ?_
  refine wpAny_bind (wpAny_isInstance hT sub_lm ?_)
  refine KFB.if_not (by rw [la_var]; rfl) ?_
  refine wpAny_bind ?_
  unfold isType
  refine wpAny_bind (wpAny_loadPart' hx (wpAny_pure ?_))
  refine KFB.if_not rfl ?_
  refine wpAny_bind (wpAny_typeOf hT ?_)
  exact wpAny_of_eq (la_args a v) hq
section
variable {C : Cx} {ρ : Loc} {cs : Own} {ss : List Stmt} {Φ : Out → Prop}
theorem Ex.assignBnd (G : Gd C) {x y : Str} {p p2 ap q : Pos} {a : Addr} {ds : List D} (hx : ρ.lookup x = some (.val (.ref a))) (hm : (a, Cell.lst ds) ∈ cs) (k : Ex C ((y, .bnd a) :: ρ) cs ss Φ) (hl : C.env.kindOf x = some .local) (hd : (x == ("__debug__" : Str)) = false) (hy : C.env.kindOf y = some .local)
    (hs : swapsWith (.Attribute (.Name x p) "append" ap) (some (.Name y p2)) q.line C.env = pure false := by rfl) (hba : attributeBase (.Name x p) "append" C.env (eval (.Name x p) C.env) = eval (.Name x p) C.env := by rfl) : Ex C ρ cs (.Assign [.Name y p2] (.Attribute (.Name x p) "append" ap) q :: ss) Φ := by
  refine Ex.cons fun kk z s h0 S => ?_
  refine wpAny_Assign_Name ?_ hs
  show Wp C (do
    let o ← attributeBase (.Name x p) "append" C.env (eval (.Name x p) C.env)
    standAt ap.atName
    let r ← holding [o] (getAttr o "append" true)
    letTemporaryGo (.Name x p) o r
    pure r) _ s
  rw [hba]
  refine wpAny_bind (Wp.mono (Ev.loc G hx hl hd z kk s h0 S) fun v s1 ht1 ⟨z1, l1, S1, r1, sm1⟩ => ?_)
  cases r1
  obtain ⟨_, _, _, o, ho, vs, n, rfl, rs⟩ := S1.cell _ hm
  refine wpAny_bind (wpAny_standAt (wpAny_bind (wpAny_holding (getAttr_append ho fun tk => ?_))))
  refine wpAny_bind (wpAny_pure (a := ()) (wpAny_pure ?_))
  have hk : HK s1.heap (s1.heap.push (bndObj a)) := fun b o e => Heap.get?_push_of_some _ e
  have zn := inH_none S1.low (get_size s1.heap)
  have hle : z1.le (z1.add s1.heap.objs.size (bndObj a)) := PH.le_add zn
  have hf : FreshZ s1.heap z1 (z1.add s1.heap.objs.size (bndObj a)) := fun b o e => by
    unfold PH.add at e; split at e
    · rename_i q; subst q; exact .inr (get_size _)
    · exact .inl e
  have S2 : St C kk (z1.add s1.heap.objs.size (bndObj a)) ρ cs (s1.heap.push (bndObj a)) := S1.step hk hle hf fun b o e => by
    unfold PH.add at e; split at e
    · rename_i q; subst q; cases e; exact Heap.get?_push_size _ rfl
    · exact hk _ _ (S1.low _ _ e)
  exact Tr.bindLoc (d := .bnd a) G hy (.bnd (PH.add_at _ _ _)) (s := { s1 with heap := s1.heap.push (bndObj a), toks := tk }) S2 fun h' S'' => ⟨_, .next _ _, l1.trans (.of S1.keep hle hf), S'', k, sm1.trans ⟨rfl, rfl⟩⟩
theorem call_bnd {k z : PH} {s : Shared} {a b : Addr} {ds : List D} {v : Value} {d : D} {Q : Value → Shared → Prop} (hb : z b = some (bndObj a)) (S : St C k z ρ ((a, .lst ds) :: cs) s.heap) (r : Rep C.P z v d) (hsz : ds.length ≤ 16777216)
    (hQ : ∀ h', St C k z ρ ((a, .lst (ds ++ [d])) :: cs) h' → Q .none { s with heap := h' }) : Wp C (call (.ref b) [v]) Q s := by
  obtain ⟨_, _, _, o, ho, vs, n, rfl, rs⟩ := S.cell (a, .lst ds) (.head _)
  have hob := S.low _ _ hb
  refine wpAny_call (codeAny_of_tree ?_)
  show wpAny _ C.A.in1 (callAny (.ref b) ⟨[v], []⟩) _ _ s
  simp only [callAny]
  refine wpAny_bind (wpAny_load hob ?_)
  simp only [bndObj, show (Value.type "builtin_function_or_method" == Value.type "method" || Value.type "builtin_function_or_method" == Value.type "builtin_function_or_method" || Value.type "builtin_function_or_method" == Value.type "method-wrapper") = true by decide, if_true]
  refine KFB.if_so (by decide) ?_
  refine wpAny_bind (check_la ho ?_)
  refine wpAny_bind (wpAny_pure (wpAny_pure ?_))
  refine ⟨Code.quiet_builtin _ (by decide +kernel), codeAny_builtin entry_list_append ?_⟩
  show wpAny _ _ (updateSeq a (·.push v) >>= fun _ => ret .none) _ _ s
  refine wpAny_bind ?_
  have ho' : s.heap.get? a = some (W.listOf vs.toArray n) := ho
  refine wpAny_updateSeq ho' rfl (wpAny_pure ?_) (hz := by rw [sizeLine_eq, List.size_toArray, rs.length]; exact hsz) (_hz' := by rw [sizeLine_eq, Array.size_push, List.size_toArray, rs.length]; (first | lia | omega))
  refine hQ _ (S.setCell (c' := .lst (ds ++ [d])) (o := W.listOf (vs ++ [v]).toArray (n + 1)) (Heap.SameBut.update ..) ?_ ⟨vs ++ [v], n + 1, rfl, rs.snoc r⟩)
  have e : Obj.mapSeq (·.push v) (W.listOf vs.toArray n) = W.listOf (vs ++ [v]).toArray (n + 1) := by
    rw [show (W.listOf vs.toArray n) = { cls := .type "list", data := .seq vs.toArray n } from rfl, Obj.mapSeq_push_plain]; simp
  rw [Heap.get?_update_self _ ho' (by rw [e]; rfl), e]
theorem Ex.callBnd (G : Gd C) {x : Str} {p1 cp q : Pos} {e : Expr} {a : Addr} {ds : List D} {d : D} (hx : ρ.lookup x = some (.bnd a)) (he : Ev C ρ ((a, .lst ds) :: cs) e d) (hsz : ds.length ≤ 16777216) (k : Ex C ρ ((a, .lst (ds ++ [d])) :: cs) ss Φ)
    (hl : C.env.kindOf x = some .local) (hd : (x == ("__debug__" : Str)) = false) (hse : starred e = false := by rfl) (hc : eval (.Call (.Name x p1) [e] [] cp) C.env = (do callWith cp (← eval (.Name x p1) C.env) [] (backTo cp (starEach [e] C.env)) []) := by rfl) :
    Ex C ρ ((a, .lst ds) :: cs) (.Expr (.Call (.Name x p1) [e] [] cp) q :: ss) Φ := by
  refine Ex.cons fun kk z s h0 S => ?_
  have hint : interactive C.env = false := by unfold interactive; rw [G.kind]; rfl
  show Wp C (do
    standAt q
    if interactive C.env then printExpr (eval (.Call (.Name x p1) [e] [] cp) C.env)
    else if ← swapsWith (.Call (.Name x p1) [e] [] cp) none q.line C.env then do evalThenUse (.Call (.Name x p1) [e] [] cp) C.env fun _ => point; pure .next
    else do dropValue (.Call (.Name x p1) [e] [] cp) q (← eval (.Call (.Name x p1) [e] [] cp) C.env)) _ s
  rw [hint]
  refine wpAny_bind (wpAny_standAt (wpAny_bind (wpAny_pure ?_)))
  refine wpAny_bind ?_
  rw [hc, star_cons hse]
  refine wpAny_bind (Wp.mono (Ev.loc G hx hl hd z kk s h0 S) fun v s1 ht1 ⟨z1, l1, S1, r1, sm1⟩ => ?_)
  cases r1 with
  | @bnd b _ hb =>
    refine callWith_of (P := fun h => h.get? b = some (bndObj a)) rfl (fun h hh => ⟨.machine, .inr (.inl rfl), fun A Q E s hk hq => ?_⟩) ?_
    · unfold keeperOf
      refine wpAny_bind (wpAny_load (hk _ _ hh) ?_)
      simp only [bndObj, show (Value.type "builtin_function_or_method" != Value.type "method") = true by decide, show (Value.type "builtin_function_or_method" == Value.type "builtin_function_or_method" || Value.type "builtin_function_or_method" == Value.type "method-wrapper") = true by decide, if_true]
      exact wpAny_pure hq
    refine evalArgs_any rfl ?_
    show Wp C (spliced [(false, eval e C.env)]) _ s1
    rw [spliced]
    refine wpAny_bind (Wp.mono (he z1 kk s1 (Nat.lt_of_lt_of_le h0 ht1) S1) fun v s2 ht2 ⟨z2, l2, S2, r2, sm2⟩ => ?_)
    simp only [Bool.false_eq_true, if_false]
    refine wpAny_bind (wpAny_pure (wpAny_bind (wpAny_holding (wpAny_pure (wpAny_pure ⟨S2.low _ _ (l2.1 _ _ hb), ?_⟩)))))
    refine call_bnd (l2.1 _ _ hb) S2 r2 hsz fun h' S3 => ?_
    exact wpAny_dropValue ⟨z2, .next _ _, l1.trans l2, S3, k, sm1.trans ⟨sm2.1, sm2.2⟩⟩
end
end Mine
end

section
open PySem PySem.W PySem.Calls PyProof.Rows PySem.Builtin.Str PySem.SeqAt
set_option maxRecDepth 100000
namespace Mine
set_option linter.unusedVariables false
section
variable {C : Cx} {ρ : Loc} {cs : Own} {ss : List Stmt} {Φ : Out → Prop}
/-- a made text of three parts -/
theorem Ev.fstr {x y : Str} {e : Expr} {n m : Nat} {p1 p2 p3 p : Pos} {a b l : List Nat} (hx : x.cps.toList = a) (hy : y.cps.toList = b) (h : Ev C ρ cs e (.str l)) (hsz : a.length + l.length + b.length ≤ 16777216) :
    Ev C ρ cs (.JoinedStr [.Constant (.str x) n p1, .FormattedValue e (-1) none p2, .Constant (.str y) m p3] p) (.str (a ++ l ++ b)) := fun z k s h0 S => by
  refine wpAny_JoinedStr ?_
  have hx0 : ∀ q : Str, (Str.empty ++ q).cps.toList = q.cps.toList := fun q => by rw [Str.cps_append]; simp [Str.empty]
  show Wp C (eval (.Constant (.str x) n p1) C.env) _ s
  refine wpAny_Constant_str ⟨x, _, rfl, by rw [str_len, hx0, hx]; exact fits (by (first | lia | omega)), ?_⟩
  show Wp C (eval (.FormattedValue e (-1) none p2) C.env) _ _
  refine FormattedValue_plain ?_
  have S1 : St C k z ρ cs ({ s with toks := s.toks + 1 } : Shared).heap := S
  refine Wp.mono (h z k { s with toks := s.toks + 1 } (Nat.succ_pos _) S1) fun v s2 ht ⟨z2, l2, S2, r2, sm2⟩ => ?_
  cases r2 using Rep.strE with
  | str w t =>
    have e1 : (Str.empty ++ x ++ w).cps.toList = a ++ w.cps.toList := by rw [Str.cps_append, Array.toList_append, hx0, hx]
    refine formatField_str (fun t' tk => ⟨w, t', rfl, by rw [str_len, e1, List.length_append]; exact fits (by (first | lia | omega)), ?_⟩) (by rw [str_len]; exact fits (by (first | lia | omega)))
    show Wp C (eval (.Constant (.str y) m p3) C.env) _ _
    have e2 : (Str.empty ++ x ++ w ++ y).cps.toList = a ++ w.cps.toList ++ b := by rw [Str.cps_append, Array.toList_append, e1, hy]
    refine wpAny_Constant_str ⟨y, _, rfl, by rw [str_len, e2, List.length_append, List.length_append]; exact fits hsz, ?_⟩
    refine ⟨by rw [str_len, e2, List.length_append, List.length_append]; exact fits hsz, z2, l2, S2, ?_, sm2.trans ⟨rfl, rfl⟩⟩
    rw [← e2]; exact .str _ _
theorem Ex.assignAny (G : Gd C) {x : Str} {p q : Pos} {e : Expr} (h : ∀ z, Tr C ρ cs z (eval e C.env) fun _ v => ∃ a, v = .ref a) (k : ∀ a, Ex C ((x, .val (.ref a)) :: ρ) cs ss Φ) (hl : C.env.kindOf x = some .local)
    (hs : swapsWith e (some (.Name x p)) q.line C.env = pure false := by rfl) : Ex C ρ cs (.Assign [.Name x p] e q :: ss) Φ := by
  refine Ex.cons fun kk z s h0 S => ?_
  refine wpAny_Assign_Name (Wp.mono (h z kk s h0 S) fun v s' ht ⟨z', l, S', ⟨a, e⟩, sm⟩ => ?_) hs
  subst e
  exact Tr.bindLoc (d := .val (.ref a)) G hl (.val _) S' fun h' S'' => ⟨z', .next _ cs, l, S'', k a, sm⟩
end
end Mine
end

section
open PySem PySem.W PySem.Calls PyProof.Rows PySem.Builtin.Str PySem.SeqAt
set_option maxRecDepth 100000
namespace Mine
set_option linter.unusedVariables false
def chD (c : Nat) : D := .str (tr c)
def tailP (star : D) : List (List Nat) → List D
  | [] => []
  | l :: ls => star :: (l.map chD ++ tailP star ls)
def partsP (star : D) : List (List Nat) → List D
  | [] => []
  | l :: ls => l.map chD ++ tailP star ls
theorem pJoinT : Plain dJoinTranslatedPartsP.1 2 := .k2 rfl (fun _ _ _ _ _ _ => rfl) (by decide +kernel) rfl rfl rfl (by decide +kernel)
theorem tr_len (c : Nat) : (tr c).length ≤ 4 := by
  unfold tr
  split
  · simp
  · split
    · simp
    · split <;> simp
theorem flat_len (l : List Nat) : (l.flatMap tr).length ≤ 4 * l.length := by
  induction l with
  | nil => simp
  | cons c l ih => rw [List.flatMap_cons, List.length_append, List.length_cons]; have := tr_len c; (first | lia | omega)
theorem map_flat (l : List Nat) : (l.map tr).flatten = l.flatMap tr := by rw [List.flatMap_def]
theorem EvB.cast {C : Cx} {ρ : Loc} {cs : Own} {e : Expr} {b c : Bool} (h : EvB C ρ cs e b) (q : b = c) : EvB C ρ cs e c := q ▸ h
set_option maxHeartbeats 1000000
theorem c_joinT {C : Cx} (G : Gd C) (K : Kn C) (R : Room C 0) {st : Addr} {l0 : List Nat} {ls : List (List Nat)} (hne : ∀ l ∈ ls, l ≠ []) (hsz : (rxOf (l0 :: ls)).length ≤ 1000000) (hsz2 : (partsP (.val (.ref st)) (l0 :: ls)).length ≤ 1000000) (hll : ∀ l ∈ l0 :: ls, l.length ≤ 1000000) :
    CallD C "_join_translated_parts" [.list (partsP (.val (.ref st)) (l0 :: ls)), .val (.ref st)] (.str (rxOf (l0 :: ls))) := by
  refine CallD.def G R K.dJoinTranslatedPartsP pJoinT rfl fun L f cd => ?_
  have G' := G.call (x := "_join_translated_parts") (scope := dJoinTranslatedPartsP.1.2.2) (L := L) (f := f) (cd := cd) rfl
  have K' : Kn (C.call "_join_translated_parts" dJoinTranslatedPartsP.1.2.2 L f cd) := K.cast rfl rfl rfl
  have hrxlen : (rxOf (l0 :: ls)).length = 7 + (l0.flatMap tr ++ tailB ls).length := by unfold rxOf; simp; (first | lia | omega)
  have hP : partsP (.val (.ref st)) (l0 :: ls) = l0.map chD ++ tailP (.val (.ref st)) ls := rfl
  generalize hI : partsP (.val (.ref st)) (l0 :: ls) = inp at hsz2 hP
  refine Ex.assignNew G' (fun a => ?_) rfl
  refine Ex.assignBnd G' (x := "res") (a := a) (ds := []) rfl (.head _) ?_ rfl rfl rfl
  refine Ex.unpackS (xs := ["i", "n"]) G' (eT (a2 Ev.int (eB G' K'.len (a1 (eL G')) (.lenList (by (first | lia | omega)))))) rfl rfl rfl ?_
  -- the plain head of the pattern
  refine Ex.loop (fun j : Nat => [("i", .int j), ("n", .int inp.length), ("add", .bnd a), ("res", .val (.ref a)), ("inp", .list inp), ("STAR", .val (.ref st))]) (fun j => [(a, .lst ((l0.take j).map chD))]) (fun j => l0.length - j) (fun j => j ≤ l0.length) 0 (Nat.zero_le _) (.cons rfl (.cons rfl (.cons rfl (.cons rfl (.cons rfl (.cons rfl .nil)))))) rfl ?_
  intro j hj ih
  have hnl : inp.length = l0.length + (tailP (.val (.ref st)) ls).length := by rw [hP]; simp
  have hlenI : ∀ k, k ≤ inp.length → (((l0.take k).map chD).length ≤ 16777216) := fun k hk => by rw [List.length_map, List.length_take]; (first | lia | omega)
  have hgetL : ∀ k (hk : k < l0.length), inp[((k : Nat) : Int).toNat]? = some (.str (tr l0[k])) := fun k hk => by
    rw [Int.toNat_natCast, hP, List.getElem?_append_left (by simpa using hk), List.getElem?_map, List.getElem?_eq_getElem hk]; rfl
  by_cases hjl : j < l0.length
  · refine Lp.turn (b := decide ((j : Int) < inp.length) && true) (.and (.cmp (eL G') (eL G') .ltInt) fun _ => .cmp (Ev.item (eL G') (eL G') (.list (by (first | lia | omega)) (hgetL j hjl) (by (first | lia | omega)))) (eL G') .isNotStr) (fun _ => ?_) fun h => by
      have : ((j : Int) < inp.length) := by (first | lia | omega)
      rw [decide_eq_true this] at h; cases h
    refine Ex.callBnd G' rfl (Ev.item (eL G') (eL G') (.list (by (first | lia | omega)) (hgetL j hjl) (by (first | lia | omega)))) (hlenI j (by (first | lia | omega))) ?_ rfl rfl
    refine Ex.aug G' rfl Ev.int .addInt ?_ rfl
    refine Ex.nil ?_
    have e : (l0.take j).map chD ++ [.str (tr l0[j])] = (l0.take (j + 1)).map chD := by rw [List.take_add_one, List.getElem?_eq_getElem hjl, List.map_append]; rfl
    rw [e]
    exact Lp.sub (.cons rfl (.cons rfl (.cons rfl (.cons rfl (.cons rfl (.cons rfl .nil)))))) (ih (j + 1) hjl (by (first | lia | omega)))
  have hje : j = l0.length := by (first | lia | omega)
  subst hje
  refine Lp.turn (b := false) ?_ (fun h => nomatch h) fun _ => Ex.nil ?_
  · have hlt := EvB.cmp (C := C.call "_join_translated_parts" dJoinTranslatedPartsP.1.2.2 L f cd) (ρ := [("i", .int l0.length), ("n", .int inp.length), ("add", .bnd a), ("res", .val (.ref a)), ("inp", .list inp), ("STAR", .val (.ref st))]) (cs := [(a, .lst ((l0.take l0.length).map chD))]) (a := .Name "i" ⟨264, 10, 264, 11⟩) (b := .Name "n" ⟨264, 14, 264, 15⟩) (p := ⟨264, 10, 264, 15⟩) (eL G') (eL G') (Cmp.ltInt (a := l0.length) (b := inp.length))
    by_cases hls : ls = []
    · rw [decide_eq_false (by rw [hnl, hls]; simp [tailP])] at hlt
      exact EvB.and_f hlt
    · obtain ⟨l, rest, hls⟩ := List.exists_cons_of_ne_nil hls
      rw [decide_eq_true (by rw [hnl, hls]; simp [tailP]; (first | lia | omega))] at hlt
      refine EvB.and_t hlt (EvB.one (.cmp (Ev.item (eL G') (eL G') (.list (d := .val (.ref st)) (by (first | lia | omega)) ?_ (by (first | lia | omega)))) (eL G') .isNotSelf))
      rw [Int.toNat_natCast, hP, hls, List.getElem?_append_right (by simp)]; simp [tailP]
  have hbody : ∀ l ∈ ls, l.length ≤ 1000000 := fun l h => hll l (.tail _ h)
  rw [List.take_length]
  refine Ex.loop (fun s : List D × List (List Nat) × List (List Nat) => [("i", .int s.1.length), ("n", .int inp.length), ("add", .bnd a), ("res", .val (.ref a)), ("inp", .list inp), ("STAR", .val (.ref st))]) (fun s => [(a, .lst (s.2.1.map .str))]) (fun s => s.2.2.length)
    (fun s => inp = s.1 ++ tailP (.val (.ref st)) s.2.2 ∧ s.2.1.flatten ++ tailB s.2.2 = l0.flatMap tr ++ tailB ls ∧ (∀ l ∈ s.2.2, l ≠ [] ∧ l.length ≤ 1000000) ∧ s.2.1.length ≤ 2 * s.1.length)
    (l0.map chD, l0.map tr, ls) ⟨hP, by rw [map_flat], fun l h => ⟨hne l h, hbody l h⟩, by simp; (first | lia | omega)⟩ (.cons (by rw [List.length_map]; rfl) (.cons rfl (.cons rfl (.cons rfl (.cons rfl (.cons rfl .nil)))))) (by rw [List.map_map]; rfl) ?_
  rintro ⟨pre, X, rest⟩ ⟨h1, h2, h3, h4⟩ ih2
  simp only at h1 h2 h3 h4
  have hpl : pre.length ≤ 1000000 := by rw [h1, List.length_append] at hsz2; (first | lia | omega)
  cases rest with
  | nil =>
    have hpi : inp = pre := by rw [h1]; simp [tailP]
    refine Lp.turn (b := decide ((pre.length : Int) < inp.length)) (.cmp (eL G') (eL G') .ltInt) (fun h => ?_) fun _ => Ex.nil ?_
    · have := of_decide_eq_true h; rw [hpi] at this; (first | lia | omega)
    have hfl : X.flatten = l0.flatMap tr ++ tailB ls := by rw [← h2]; simp [tailB]
    have hXl : X.flatten.length ≤ 1000000 := by rw [hfl]; (first | lia | omega)
    refine Ex.assert (EvB.cast (.cmp (eL G') (eL G') .eqInt) (by rw [hpi]; simp)) ?_
    refine Ex.freeze (x := "res") rfl ?_
    have hs : (X.map fun y => y.length + ([] : List Nat).length).sum ≤ 16777216 := by
      have : (X.map fun y => y.length + ([] : List Nat).length).sum = X.flatten.length := by rw [List.length_flatten]; rfl
      rw [this]; (first | lia | omega)
    have hj := MethV.join (C := C.call "_join_translated_parts" dJoinTranslatedPartsP.1.2.2 L f cd) (x := []) hs
    rw [jn_nil, hfl] at hj
    refine Ex.assign G' (Ev.meth (eS []) (a1 (eL G')) hj) ?_ rfl
    refine Ex.ret (Ev.fstr (a := [40, 63, 115, 58]) (b := [41, 92, 90]) rfl rfl (eL G') (by simp only [List.length_cons, List.length_nil]; (first | lia | omega))) ⟨[], ?_⟩
    unfold rxOf; simp
  | cons l rs =>
    obtain ⟨hl1, hl2⟩ := h3 l (.head _)
    have hlp : 0 < l.length := List.length_pos_iff.mpr hl1
    have hT : inp = pre ++ ((D.val (.ref st)) :: (l.map chD ++ tailP (.val (.ref st)) rs)) := h1
    have hnl2 : inp.length = pre.length + 1 + l.length + (tailP (.val (.ref st)) rs).length := by rw [hT]; simp; (first | lia | omega)
    have hXs : (X.map D.str).length ≤ 16000000 := by rw [List.length_map]; (first | lia | omega)
    have hg0 : inp[((pre.length : Nat) : Int).toNat]? = some (.val (.ref st)) := by rw [Int.toNat_natCast, hT, List.getElem?_append_right (Nat.le_refl _), Nat.sub_self]; rfl
    have hgk : ∀ k (hk : k < l.length), inp[((pre.length : Int) + 1 + (k : Int)).toNat]? = some (.str (tr l[k])) := fun k hk => by
      rw [show ((pre.length : Int) + 1 + (k : Int)).toNat = pre.length + (k + 1) from by (first | lia | omega), hT, List.getElem?_append_right (by (first | lia | omega)), Nat.add_sub_cancel_left, List.getElem?_cons_succ, List.getElem?_append_left (by simpa using hk), List.getElem?_map, List.getElem?_eq_getElem hk]; rfl
    have hge : rs ≠ [] → inp[((pre.length : Int) + 1 + (l.length : Int)).toNat]? = some (.val (.ref st)) := fun hr => by
      obtain ⟨m, rs', hr⟩ := List.exists_cons_of_ne_nil hr
      rw [show ((pre.length : Int) + 1 + (l.length : Int)).toNat = pre.length + (l.length + 1) from by (first | lia | omega), hT, List.getElem?_append_right (by (first | lia | omega)), Nat.add_sub_cancel_left, List.getElem?_cons_succ, List.getElem?_append_right (by simp), List.length_map, Nat.sub_self, hr]; rfl
    refine Lp.turn (b := decide ((pre.length : Int) < inp.length)) (.cmp (eL G') (eL G') .ltInt) (fun _ => ?_) fun h => by
      have := of_decide_eq_false h; (first | lia | omega)
    refine Ex.assert (.cmp (Ev.item (eL G') (eL G') (.list (by (first | lia | omega)) hg0 (by (first | lia | omega)))) (eL G') .isSelf) ?_
    refine Ex.aug G' rfl Ev.int .addInt ?_ rfl
    refine Ex.ite (b := (((pre.length : Int) + 1) == (inp.length : Int))) (.cmp (eL G') (eL G') .eqInt) (fun h => by
      have : (pre.length : Int) + 1 = inp.length := by simpa using h
      (first | lia | omega)) fun _ => Ex.nil ?_
    have hg1 := hgk 0 hlp
    rw [show (pre.length : Int) + 1 + ((0 : Nat) : Int) = (pre.length : Int) + 1 from by (first | lia | omega)] at hg1
    refine Ex.assert (.cmp (Ev.item (eL G') (eL G') (.list (by (first | lia | omega)) hg1 (by (first | lia | omega)))) (eL G') .isNotStr) ?_
    refine Ex.assignNew G' (fun b => ?_) rfl
    refine Ex.loop (fun k : Nat => [("i", .int ((pre.length : Int) + 1 + (k : Int))), ("fixed", .val (.ref b)), ("n", .int inp.length), ("add", .bnd a), ("res", .val (.ref a)), ("inp", .list inp), ("STAR", .val (.ref st))]) (fun k => [(b, .lst ((l.take k).map chD)), (a, .lst (X.map .str))]) (fun k => l.length - k) (fun k => k ≤ l.length) 0 (Nat.zero_le _) (.cons (by show _ = some (D.int _); rw [show (pre.length : Int) + 1 + ((0 : Nat) : Int) = (pre.length : Int) + 1 from by (first | lia | omega)]; rfl) (.cons rfl (.cons rfl (.cons rfl (.cons rfl (.cons rfl (.cons rfl .nil))))))) rfl ?_
    intro k hk ih3
    by_cases hkl : k < l.length
    · refine Lp.turn (b := decide (((pre.length : Int) + 1 + (k : Int)) < inp.length) && true) (.and (.cmp (eL G') (eL G') .ltInt) fun _ => .cmp (Ev.item (eL G') (eL G') (.list (by (first | lia | omega)) (hgk k hkl) (by (first | lia | omega)))) (eL G') .isNotStr) (fun _ => ?_) fun h => by
        have : ((pre.length : Int) + 1 + (k : Int)) < inp.length := by (first | lia | omega)
        rw [decide_eq_true this] at h; cases h
      refine Ex.append G' rfl (Ev.item (eL G') (eL G') (.list (by (first | lia | omega)) (hgk k hkl) (by (first | lia | omega)))) (by rw [List.length_map, List.length_take]; (first | lia | omega)) ?_ rfl rfl
      refine Ex.aug G' rfl Ev.int .addInt ?_ rfl
      refine Ex.nil ?_
      have e : (l.take k).map chD ++ [.str (tr l[k])] = (l.take (k + 1)).map chD := by rw [List.take_add_one, List.getElem?_eq_getElem hkl, List.map_append]; rfl
      rw [e]
      exact Lp.sub (.cons (by show _ = some (D.int _); rw [show ((k + 1 : Nat) : Int) = (k : Int) + 1 from by (first | lia | omega), ← Int.add_assoc]; rfl) (.cons rfl (.cons rfl (.cons rfl (.cons rfl (.cons rfl (.cons rfl .nil))))))) (ih3 (k + 1) hkl (by (first | lia | omega)))
    have hke : k = l.length := by (first | lia | omega)
    subst hke
    refine Lp.turn (b := false) ?_ (fun h => nomatch h) fun _ => Ex.nil ?_
    · by_cases hr : rs = []
      · refine EvB.and_f (EvB.cast (.cmp (eL G') (eL G') .ltInt) (decide_eq_false ?_))
        rw [hnl2, hr]; simp [tailP]
      · refine EvB.and_t (EvB.cast (.cmp (eL G') (eL G') .ltInt) (decide_eq_true ?_)) (EvB.one (.cmp (Ev.item (eL G') (eL G') (.list (by (first | lia | omega)) (hge hr) (by (first | lia | omega)))) (eL G') .isNotSelf))
        obtain ⟨m, rs', hr⟩ := List.exists_cons_of_ne_nil hr
        rw [hnl2, hr]; simp [tailP]; (first | lia | omega)
    rw [List.take_length]
    refine Ex.freeze (x := "fixed") rfl ?_
    have hfl4 := flat_len l
    have hs : ((l.map tr).map fun y => y.length + ([] : List Nat).length).sum ≤ 16777216 := by
      have : ((l.map tr).map fun y => y.length + ([] : List Nat).length).sum = (l.map tr).flatten.length := by rw [List.length_flatten]; rfl
      rw [this, map_flat]; (first | lia | omega)
    have hj := MethV.join (C := C.call "_join_translated_parts" dJoinTranslatedPartsP.1.2.2 L f cd) (x := []) hs
    rw [jn_nil, map_flat, List.map_map] at hj
    refine Ex.assign G' (Ev.meth (eS []) (a1 (eL G' (d := .list (l.map chD)))) hj) ?_ rfl
    refine Ex.ite (b := (((pre.length : Int) + 1 + (l.length : Int)) == (inp.length : Int))) (.cmp (eL G') (eL G') .eqInt) (fun h => ?_) fun h => ?_
    · have hrs : rs = [] := by
        have h : (pre.length : Int) + 1 + (l.length : Int) = inp.length := by simpa using h
        rw [hnl2] at h
        cases rs with
        | nil => rfl
        | cons m rs' => simp [tailP] at h; (first | lia | omega)
      subst hrs
      refine Ex.callBnd G' rfl (eS [46, 42]) (by (first | lia | omega)) ?_ rfl rfl
      refine Ex.callBnd G' rfl (eL G') (by simp; (first | lia | omega)) ?_ rfl rfl
      repeat (refine Ex.nil ?_)
      have hgo := ih2 (pre ++ (D.val (.ref st)) :: l.map chD, X ++ [[46, 42], l.flatMap tr], []) ⟨by rw [hT]; simp [tailP], by rw [← h2]; simp [tailB], fun l h => (nomatch h), by simp; (first | lia | omega)⟩ (by simp)
      refine Lp.sub (.cons ?_ (.cons rfl (.cons rfl (.cons rfl (.cons rfl (.cons rfl .nil)))))) (by simpa using hgo)
      rw [show (pre.length : Int) + ((l.length : Int) + 1) = (pre.length : Int) + 1 + (l.length : Int) from by (first | lia | omega)]; rfl
    · have hrs : rs ≠ [] := by
        rintro rfl
        have h : ¬ ((pre.length : Int) + 1 + (l.length : Int) = inp.length) := by simpa using h
        apply h; rw [hnl2]; simp [tailP]
      obtain ⟨m, rs', hrs⟩ := List.exists_cons_of_ne_nil hrs
      refine Ex.callBnd G' rfl (Ev.fstr (a := opn) (b := [41]) rfl rfl (eL G') (by simp only [opn, List.length_cons, List.length_nil]; (first | lia | omega))) (by (first | lia | omega)) ?_ rfl rfl
      repeat (refine Ex.nil ?_)
      have hgo := ih2 (pre ++ (D.val (.ref st)) :: l.map chD, X ++ [opn ++ l.flatMap tr ++ [41]], rs) ⟨by rw [hT]; simp, by rw [← h2, hrs]; simp [tailB], fun l h => h3 l (.tail _ h), by simp; (first | lia | omega)⟩ (by simp)
      refine Lp.sub (.cons ?_ (.cons rfl (.cons rfl (.cons rfl (.cons rfl (.cons rfl .nil)))))) (by simpa using hgo)
      rw [show (pre.length : Int) + ((l.length : Int) + 1) = (pre.length : Int) + 1 + (l.length : Int) from by (first | lia | omega)]; rfl
end Mine
end

section
open PySem PySem.W PySem.Calls PyProof.Rows PySem.Builtin.Str PySem.SeqAt
set_option maxRecDepth 100000
namespace Mine
set_option linter.unusedVariables false
/-- what looking a sign up in a table does -/
def TL (M : Model) (A : Around) (E : Value → Shared → Prop) (a : Addr) (c : Nat) (m : Mapped) (J : Shared → Prop) : Prop := ∀ (s : Shared) (Q : Mapped → Shared → Prop), J s → (∀ s', J s' → Q m s') → wpAny M A (tableLookup (.ref a) c) Q E s
theorem trans_keep {prog : Program} {w : World} {A : Around} {P : PySem.Fin → Shared → Prop} {E : Value → Shared → Prop} {s : Shared} {a : Addr} {c : Nat} {u : Tok} {J : Shared → Prop} (tl : TL (model prog w) A E a c .keep J) (hJ : J s) (h : ∀ s', J s' → P (.done (.ret (.str ⟨#[c]⟩ s'.toks))) { s' with toks := s'.toks + 1 }) :
    wpAny (model prog w) A (Builtin.«str.translate» ⟨[.str ⟨#[c]⟩ u, .ref a], []⟩) P E s := by
  unfold Builtin.«str.translate»
  refine wpAny_bind (wpAny_of_eq (a := (.str ⟨#[c]⟩ u, ⟨#[c]⟩, .ref a)) (by first | rfl | kernel_rfl) ?_)
  refine KFB.if_not (by rfl) ?_
  dsimp only
  refine wpAny_bind ?_
  rw [← Array.forIn_toList]
  show wpAny _ _ (forIn [c] _ _) _ _ _
  rw [List.forIn_cons]
  refine wpAny_bind ?_
  refine KFB.if_not rfl ?_
  by_cases hc : c < 128
  · refine KFB.if_so (by simpa using hc) ?_
    dsimp only [List.lookup]
    refine wpAny_bind (tl s _ hJ fun s' hJ' => ?_)
    dsimp only
    try refine wpAny_bind (wpAny_pure ?_)
    refine wpAny_pure ?_
    dsimp only
    refine wpAny_pure ?_
    refine KFB.if_not rfl ?_
    exact wpAny_bind (wpAny_mkStr (wpAny_pure (h s' hJ')) (Nat.le_of_ble_eq_true rfl))
  · refine KFB.if_not (by simpa using hc) ?_
    refine KFB.if_not rfl ?_
    refine wpAny_bind (tl s _ hJ fun s' hJ' => ?_)
    dsimp only
    refine wpAny_pure ?_
    dsimp only
    refine wpAny_pure ?_
    refine KFB.if_not rfl ?_
    exact wpAny_bind (wpAny_mkStr (wpAny_pure (h s' hJ')) (Nat.le_of_ble_eq_true rfl))
theorem trans_text {prog : Program} {w : World} {A : Around} {P : PySem.Fin → Shared → Prop} {E : Value → Shared → Prop} {s : Shared} {a : Addr} {c d e : Nat} {u : Tok} {J : Shared → Prop} (hc : c < 128) (tl : TL (model prog w) A E a c (.text ⟨#[d, e]⟩) J) (hJ : J s) (h : ∀ s', J s' → P (.done (.ret (.str ⟨#[d, e]⟩ s'.toks))) { s' with toks := s'.toks + 1 }) :
    wpAny (model prog w) A (Builtin.«str.translate» ⟨[.str ⟨#[c]⟩ u, .ref a], []⟩) P E s := by
  unfold Builtin.«str.translate»
  refine wpAny_bind (wpAny_of_eq (a := (.str ⟨#[c]⟩ u, ⟨#[c]⟩, .ref a)) (by first | rfl | kernel_rfl) ?_)
  refine KFB.if_not (by rfl) ?_
  dsimp only
  refine wpAny_bind ?_
  rw [← Array.forIn_toList]
  show wpAny _ _ (forIn [c] _ _) _ _ _
  rw [List.forIn_cons]
  refine wpAny_bind ?_
  refine KFB.if_not rfl ?_
  refine KFB.if_so (by simpa using hc) ?_
  dsimp only [List.lookup]
  refine wpAny_bind (tl s _ hJ fun s' hJ' => ?_)
  dsimp only
  have hl : ((⟨#[d, e]⟩ : Str).length == 1 && (⟨#[d, e]⟩ : Str).cps.all fun x => decide (x < 128)) = false := rfl
  rw [hl]
  simp only [Bool.false_eq_true, if_false]
  try refine wpAny_bind (wpAny_pure ?_)
  refine wpAny_bind (wpAny_rule ?_)
  try simp only [Bool.false_eq_true, if_false]
  refine wpAny_bind (tl s' _ hJ' fun s2 hJ2 => ?_)
  dsimp only
  refine wpAny_pure ?_
  dsimp only
  refine wpAny_pure ?_
  refine KFB.if_not rfl ?_
  exact wpAny_bind (wpAny_mkStr (wpAny_pure (h s2 hJ2)) (Nat.le_of_ble_eq_true rfl))
theorem sub_key_look : isSubtype (.type "KeyError") (.type "LookupError") = pure true := by rw [isSubtype_type]; kernel_rfl
/-- the table of the signs that get a backslash -/
def EscMap (prog : Program) (w : World) (h : Heap) (a : Addr) : Prop := (a == sysModules) = false ∧ ∃ f, h.MapOf (intKind prog w) a f ∧ ∀ c : Nat, if c ∈ spec then ∃ t, f (c : Int) = some (.str ⟨#[92, c]⟩ t) else f (c : Int) = none
def esc (c : Nat) : List Nat := if c ∈ spec then [92, c] else [c]
section
variable {C : Cx}
theorem Heap.MapOf.hk {prog : Program} {w : World} {h h' : Heap} {a : Addr} {f : Int → Option Value} (m : h.MapOf (intKind prog w) a f) (hk : HK h h') : h'.MapOf (intKind prog w) a f := by
  obtain ⟨o, es, ep, ho, r⟩ := m
  exact ⟨o, es, ep, hk _ _ ho, r⟩
def TJ (s0 s : Shared) : Prop := HK s0.heap s.heap ∧ Same s0 s
theorem TL.keep {prog : Program} {w : World} {A : Around} {E : Value → Shared → Prop} {a : Addr} {c : Nat} {f : Int → Option Value} {s0 : Shared} (hh : A.handled = none) (hs : (a == sysModules) = false) (hm : s0.heap.MapOf (intKind prog w) a f) (hc : f (c : Int) = none) : TL (model prog w) A E a c .keep (TJ s0) := by
  intro s Q hJ hQ
  unfold tableLookup
  refine wpAny_bind (wpAny_attempt (wpAny_bind (wpAny_mkInt ?_)))
  refine wpAny_getItem_missing_of (knd := intKind prog w) (k := (c : Int)) (intKind_is prog w c _) hs hh (Heap.MapOf.hk hm hJ.1) hc fun h' e he => ?_
  obtain ⟨ob, tt, e1, e2, _⟩ := he.there
  refine wpAny_bind (wpAny_isInstance (T := "KeyError") (b := true) ⟨ob, e1, e2⟩ sub_key_look ?_)
  refine wpAny_bind (wpAny_rule (wpAny_pure (hQ _ ⟨hJ.1.trans he.keeps, hJ.2.trans ⟨rfl, rfl⟩⟩)))
theorem TL.text {prog : Program} {w : World} {A : Around} {E : Value → Shared → Prop} {a : Addr} {c : Nat} {x : Str} {t : Tok} {f : Int → Option Value} {s0 : Shared} (hm : s0.heap.MapOf (intKind prog w) a f) (hc : f (c : Int) = some (.str x t)) : TL (model prog w) A E a c (.text x) (TJ s0) := by
  intro s Q hJ hQ
  unfold tableLookup
  refine wpAny_bind (wpAny_attempt (wpAny_bind (wpAny_mkInt ?_)))
  refine wpAny_getItem_of (knd := intKind prog w) (k := (c : Int)) (intKind_is prog w c _) (Heap.MapOf.hk hm hJ.1) hc ?_
  refine wpAny_bind (wpAny_pure ?_)
  refine wpAny_bind (wpAny_pure ?_)
  exact wpAny_pure (hQ _ ⟨hJ.1, hJ.2.trans ⟨rfl, rfl⟩⟩)
theorem MethV.translate (hh : C.A.handled = none) {a : Addr} {c : Nat} (hmap : EscMap C.prog C.w C.B a) : MethV C "translate" (.str [c]) [.val (.ref a)] (.str (esc c)) := .of (id := "str.translate") (fun y t A E s pl Q h => by with_reducible exact GM.of (.str y t) (typeIs_str _ _ _) F.slot_str_translate F.type_str_translate GM.noRef h) fun y t z vs e r s h0 hb hz => by
  cases r using RepAll.consE with
  | cons r rs =>
    cases rs
    cases r
    have := one_cps e
    subst this
    obtain ⟨hs, f, hm, hf⟩ := hmap
    have hm' : s.heap.MapOf (intKind C.prog C.w) a f := by
      obtain ⟨o, es, ep, ho, r⟩ := hm
      exact ⟨o, es, ep, hz _ _ (hb _ _ ho), r⟩
    have hJ : TJ s s := ⟨HK.refl _, Same.refl _⟩
    have hc := hf c
    have fin : ∀ (l : Str) (s' : Shared), TJ s s' → PostOp z s (fun z' r => Rep C.P z' r (.str l.cps.toList)) (.str l s'.toks) { s' with toks := s'.toks + 1 } := fun l s' hJ' =>
      ⟨hJ'.1, ⟨z, PH.le.refl _, FreshZ.refl, fun b o e => hJ'.1 _ _ (hz _ _ e), .str _ _⟩, hJ'.2.trans ⟨rfl, rfl⟩⟩
    refine wpAny_call_entry F.slot_str_translate (typeIs_str _ _ _) F.entry_str_translate ?_ (F.args_str_translate_2 _ _)
    unfold esc
    by_cases q : c ∈ spec
    · rw [if_pos q] at hc ⊢
      obtain ⟨t', hc⟩ := hc
      have hlt : c < 128 := (by decide : ∀ x ∈ spec, x < 128) c q
      exact trans_text hlt (TL.text hm' hc) hJ fun s' hJ' => ⟨_, rfl, fin ⟨#[92, c]⟩ s' hJ'⟩
    · rw [if_neg q] at hc ⊢
      exact trans_keep (TL.keep hh hs hm' hc) hJ fun s' hJ' => ⟨_, rfl, fin ⟨#[c]⟩ s' hJ'⟩
end
end Mine
end

section
open PySem PySem.W PySem.Calls PyProof.Rows PySem.Builtin.Str PySem.SeqAt
set_option maxRecDepth 100000
namespace Mine
set_option linter.unusedVariables false
def KS (C : Cx) : Prop := ∃ a, Glo C "_special_chars_map" (.ref a) ∧ EscMap C.prog C.w C.B a
theorem pEscape : Plain dEscape.1 1 := .k1 rfl (fun _ _ _ _ _ => rfl) (by decide +kernel) rfl rfl rfl (by decide +kernel)
theorem c_escape {C : Cx} (G : Gd C) (K : Kn C) (hK : KS C) (R : Room C 0) {c : Nat} : CallD C "escape" [.str [c]] (.str (esc c)) := by
  refine CallD.def G R K.dEscape pEscape rfl fun L f cd => ?_
  have G' := G.call (x := "escape") (scope := dEscape.1.2.2) (L := L) (f := f) (cd := cd) rfl
  have K' : Kn (C.call "escape" dEscape.1.2.2 L f cd) := K.cast rfl rfl rfl
  obtain ⟨a, h1, h2⟩ := hK
  refine Ex.ite (b := true) (.plain (eB G' K'.isinstance (a2 (eL G') (eG G' K'.str)) .isStr) .bool) (fun _ => ?_) (fun h => nomatch h)
  exact Ex.ret (Ev.meth (eL G') (a1 (eG G' h1)) (MethV.translate G'.hh h2)) ⟨[], rfl⟩
end Mine
end

section
open PySem PySem.W PySem.Calls PyProof.Rows PySem.Builtin.Re PySem.Builtin
namespace Mine
set_option linter.unusedVariables false
set_option maxRecDepth 100000
def twCode : List Nat := [14, 14, 4, 1, 1, 9, 0, 64, 0, 1342177280, 0, 0, 0, 0, 0, 17, 0, 13, 11, 9, 0, 64, 0, 1342177280, 0, 0, 0, 0, 0, 17, 1, 1]
def drv : Nat → Sre.M → Option Sre.M
  | 0, _ => none
  | n + 1, m => let m := m.runFor reTurnSteps; if m.outcome.isSome then some m else drv n m
def isFailed : Option Sre.Outcome → Bool
  | some .failed => true
  | _ => false
theorem isFailed_eq {o : Option Sre.Outcome} (h : isFailed o = true) : o = some .failed := by
  cases o with
  | none => cases h
  | some o => cases o <;> first | rfl | cases h
theorem drv_ok : ∀ c ∈ [42, 63, 91], ((drv 4 (Sre.forSearch twCode.toArray #[c] 1 0 1 false)).map fun m => isFailed m.outcome) = some true := by
  decide +kernel
structure PatAt (h : Heap) (a : Addr) : Prop where
  ex : ∃ v0 v1 t o n, h.get? a = some { cls := .type "re.Pattern", data := .fields #[v0, v1, rawInt 1, .none, .none, .ref t, rawInt 0] } ∧ h.get? t = some o ∧ o.data = .seq (twCode.map fun w => rawInt (w : Nat)).toArray n
theorem PatAt.keep {h h' : Heap} {a : Addr} (k : ∀ a o, h.get? a = some o → h'.get? a = some o) (p : PatAt h a) : PatAt h' a :=
  let ⟨v0, v1, t, o, n, x, y, z⟩ := p.ex; ⟨v0, v1, t, o, n, k _ _ x, k _ _ y, z⟩
section
variable {M : Model} {A : Around} {E : Value → Shared → Prop} {s : Shared}
theorem wp_drive {Q : Sre.M → Shared → Prop} : ∀ (f turns : Nat) (m m' : Sre.M), drv f m = some m' → f ≤ turns → Q m' s → wpAny M A (reDrive turns m) Q E s
  | 0, _, m, m', h, _, _ => nomatch h
  | f + 1, 0, m, m', h, l, _ => absurd l (by (first | lia | omega))
  | f + 1, turns + 1, m, m', h, l, hq => by
    unfold drv at h
    show wpAny M A (if (m.runFor reTurnSteps).outcome.isSome then pure (m.runFor reTurnSteps) else do rule "sre.turn"; reDrive turns (m.runFor reTurnSteps)) Q E s
    dsimp only at h
    split
    · rename_i q
      rw [if_pos q] at h; cases h
      exact wpAny_pure hq
    · rename_i q
      rw [if_neg q] at h
      exact wpAny_bind (wpAny_rule (wp_drive f turns _ m' h (by (first | lia | omega)) hq))
theorem wp_each {β : Type} {f : Nat → β → Sem (ForInStep β)} (hf : ∀ i b (Q : ForInStep β → Shared → Prop), Q (.yield b) s → wpAny M A (f i b) Q E s) {Q : β → Shared → Prop} : ∀ (l : List Nat) (b : β), Q b s → wpAny M A (forIn l b f) Q E s
  | [], b, hq => by rw [List.forIn_nil]; exact wpAny_pure hq
  | i :: l, b, hq => by
    rw [List.forIn_cons]
    exact wpAny_bind (hf i b _ (wp_each hf l b hq))
theorem wp_runFail {Q : Option Sre.M → Shared → Prop} {m m' : Sre.M} {f : Nat} (h : drv f m = some m') (hf : f ≤ 2 ^ 64) (ho : m'.outcome = some .failed) (hq : Q none s) : wpAny M A (reRunToEnd m) Q E s := by
  unfold reRunToEnd
  refine wpAny_bind (wp_drive f _ m m' h hf ?_)
  refine wpAny_bind (wp_each (fun i b Q hq => ?_) _ _ ?_)
  · split
    · exact wpAny_bind (wpAny_rule (wpAny_pure hq))
    · exact wpAny_pure hq
  · rw [ho]
    exact wpAny_pure hq
theorem wp_text {Q : Array Nat × Nat → Shared → Prop} {y : Str} {t : Tok} (hq : Q (y.cps, 0) s) : wpAny M A (reTextOf (.str y t)) Q E s := by
  unfold reTextOf
  exact wpAny_bind (wpAny_of_eq (a := some y) rfl (wpAny_pure hq))
theorem wp_target {Q : ReTarget → Shared → Prop} {a : Addr} {y : Str} {t : Tok} (hp : PatAt s.heap a) (hq : Q { pattern := .ref a, string := .str y t, code := twCode.toArray, text := y.cps, kind := 0, groups := 1, pos := 0, lim := y.cps.size } s) : wpAny M A (reWholeTarget (.ref a) (.str y t)) Q E s := by
  obtain ⟨v0, v1, tt, o, n, h1, h2, h3⟩ := hp.ex
  unfold reWholeTarget
  refine wpAny_bind (wpAny_fieldsOf h1 rfl ?_)
  refine wpAny_bind (wp_text ?_)
  refine wpAny_bind (KFB.if_not (by decide) (wpAny_pure ?_))
  refine wpAny_bind ?_
  show wpAny M A (do return ((← seqItems? (.ref tt)).getD #[]).map reRawOf) _ E s
  refine wpAny_bind (wpAny_seqItems h2 h3 (wpAny_pure (wpAny_pure ?_)))
  have e1 : (Array.map (fun x => x.toNat) (((some (List.map (fun w => rawInt (w : Nat)) twCode).toArray).getD #[]).map reRawOf)) = twCode.toArray := by
    simp [reRawOf, rawInt, Function.comp_def]
  have e2 : reRawNat (#[v0, v1, rawInt 1, Value.none, Value.none, Value.ref tt, rawInt 0].getD 2 Value.none) = 1 := rfl
  rw [e1, e2]
  exact hq
/-- the loop on a text without a match -/
theorem wp_loop {prog : Program} {w : World} {P : PySem.Fin → Shared → Prop} {a b : Addr} {repl : Value} {c : Nat} {t : Tok} (hc : c ∈ [42, 63, 91]) (hp : PatAt s.heap a) (hb : s.heap.get? b = some { cls := .type "list", data := .seq #[] })
    (hq : ∀ t' k, P (.done (.ret (.str ⟨#[c]⟩ t'))) { s with heap := s.heap.update b (Obj.mapSeq (·.push (.str ⟨#[c]⟩ s.toks))), toks := k }) :
    wpAny (model prog w) A (Builtin.«re.Pattern.sub.loop» ⟨[.ref a, .str ⟨#[c]⟩ t, repl, rawInt 1, rawInt 0, rawInt 0, rawInt 0, rawInt 0, .bool false, .ref b, .bool false], []⟩) P E s := by
  unfold Builtin.«re.Pattern.sub.loop»
  show wpAny (model prog w) A (do
    let t ← reWholeTarget (.ref a) (.str ⟨#[c]⟩ t)
    _) P E s
  refine wpAny_bind (wp_target hp ?_)
  refine KFB.if_not (by decide) ?_
  refine wpAny_bind (KFB.if_not (by decide) ?_)
  have hd : ∃ m', drv 4 (Sre.forSearch twCode.toArray #[c] 1 0 1 false) = some m' ∧ m'.outcome = some .failed := by
    have := drv_ok c hc
    cases q : drv 4 (Sre.forSearch twCode.toArray #[c] 1 0 1 false) with
    | none => rw [q] at this; cases this
    | some m' => rw [q] at this; exact ⟨m', rfl, isFailed_eq (by simpa using this)⟩
  obtain ⟨m', h1, h2⟩ := hd
  unfold reNextFound
  refine wp_runFail h1 (by decide) h2 ?_
  show wpAny (model prog w) A (do
    let v ← reSlice #[c] 0 0 1
    let r ← updateSeq b fun x => x.push v
    let joiner ← reSlice #[c] 0 0 0
    let q ← seqItems? (.ref b)
    let text ← if (q.getD #[]).isEmpty then pure joiner else call (.builtin "str.join") [joiner, .ref b]
    ret text) P E s
  have x1 : ((#[c] : Array Nat).extract 0 1) = #[c] := by simp
  have x0 : ((#[c] : Array Nat).extract 0 0) = #[] := by simp
  have hl : (s.heap.update b (Obj.mapSeq fun x => x.push (Value.str ⟨#[c]⟩ s.toks))).IsList b (strValues [((⟨#[c]⟩ : Str), s.toks)]).toArray := by
    have e : Obj.mapSeq (fun x => x.push (Value.str ⟨#[c]⟩ s.toks)) { cls := .type "list", data := .seq #[] } = { cls := .type "list", data := .seq (strValues [((⟨#[c]⟩ : Str), s.toks)]).toArray (0 + 1) } := by
      rw [Obj.mapSeq_push_plain]; rfl
    refine ⟨_, Heap.get?_update_self _ hb (by rw [e]; rfl), by rw [e], 0 + 1, by rw [e]⟩
  unfold reSlice
  refine wpAny_bind (KFB.if_so (by decide) ?_)
  rw [x1, x0]
  refine wpAny_mkStr ?_ (by show (1 : Nat) ≤ _; decide)
  refine wpAny_bind (wpAny_updateSeq (xs := #[]) (n := 0) hb rfl ?_)
  refine wpAny_bind (KFB.if_so (by decide) (wpAny_mkStr ?_ (by show (0 : Nat) ≤ _; decide)))
  obtain ⟨ol, e1, e2, n, e3⟩ := hl
  refine wpAny_bind (wpAny_seqItems e1 e3 ?_)
  have hem : ((some (strValues [((⟨#[c]⟩ : Str), s.toks)]).toArray).getD #[]).isEmpty = false := rfl
  refine wpAny_bind ?_
  refine SC.join (l := [((⟨#[c]⟩ : Str), s.toks)]) (texts := [⟨#[c]⟩]) ⟨ol, e1, e2, n, e3⟩ rfl (by show JoinOk (⟨#[]⟩ : Str) [⟨#[c]⟩] = true; rfl) fun t' k => wpAny_pure ?_
  have : Txt.join (⟨#[]⟩ : Str) [⟨#[c]⟩] = ⟨#[c]⟩ := by rfl
  rw [this]; exact hq t' k
theorem call_lookup : typeLookup (.type "function") "__call__" = pure (some (.builtin "function.__call__")) := by
  rw [typeLookup_type, builtinLookup_eq_fast]; kernel_rfl
theorem sub_sb : isSubtype (.type "str") (.type "bytearray") = pure false := by rw [isSubtype_type]; kernel_rfl
theorem wp_sub {prog : Program} {w : World} {P : PySem.Fin → Shared → Prop} {a f : Addr} {fd : FuncData} {c : Nat} {t : Tok} (hp : PatAt s.heap a) (hf : s.heap.get? f = some { cls := .type "function", data := .func fd })
    (hq : P (.again (.builtin "re.Pattern.sub.loop" ⟨[.ref a, .str ⟨#[c]⟩ t, .ref f, rawInt 1, rawInt 0, rawInt 0, rawInt 0, rawInt 0, .bool false, .ref s.heap.objs.size, .bool false], []⟩)) { s with heap := s.heap.push { cls := .type "list", data := .seq #[] } }) :
    wpAny (model prog w) A (Builtin.«re.Pattern.sub» ⟨[.ref a, .ref f, .str ⟨#[c]⟩ t], []⟩) P E s := by
  have hT : s.TypeIs (.ref f) "function" := ⟨_, hf, rfl⟩
  have hv := call_lookup
  have hn : reNamed "re.Pattern.sub" "sub" ["repl", "string", "count"] 2 [.ref f, .str ⟨#[c]⟩ t] [] = pure [some (.ref f), some (.str ⟨#[c]⟩ t), none] := by
    rfl
  unfold Builtin.«re.Pattern.sub» reSubstitute
  refine wpAny_bind (wpAny_of_eq hn ?_)
  refine wpAny_bind (wpAny_pure ?_)
  refine wpAny_bind (wpAny_specialOf hT hv ?_)
  refine KFB.if_so rfl (wpAny_bind (wpAny_pure ?_))
  refine KFB.if_so rfl (wpAny_bind (wpAny_pure ?_))
  show wpAny (model prog w) A (do
    let _ ← holding [.ref f] (reWholeTarget (.ref a) (.str ⟨#[c]⟩ t))
    let _ ← reNotHeld "re.Pattern.sub" (.str ⟨#[c]⟩ t)
    let l ← newList []
    again (.builtin "re.Pattern.sub.loop" ⟨[.ref a, .str ⟨#[c]⟩ t, .ref f, rawInt 1, rawInt 0, rawInt 0, rawInt 0, rawInt 0, .bool false, l, .bool false], []⟩)) P E s
  refine wpAny_bind (wpAny_holding (wp_target hp ?_))
  refine wpAny_bind ?_
  unfold reNotHeld
  refine wpAny_bind (wpAny_isInstance (T := "str") (b := false) (typeIs_str _ _ _) sub_sb ?_)
  refine KFB.if_not rfl ?_
  refine wpAny_pure ?_
  refine wpAny_bind (wpAny_newList ?_)
  exact wpAny_pure hq
end
theorem attrs_pat : PlainAttrs "re.Pattern" :=
  ⟨⟨"object.__getattribute__", by rw [typeLookup_type, builtinLookup_eq_fast]; kernel_rfl, by decide +kernel⟩, by rw [typeLookup_type, builtinLookup_eq_fast]; kernel_rfl⟩
theorem slot_pat_sub : Slot "re.Pattern" "sub" "re.Pattern.sub" :=
  .of (owner := "re.Pattern") (n := "sub") (by rw [typeLookup_type, builtinLookup_eq_fast]; kernel_rfl) (by decide +kernel) (by decide +kernel) (by decide +kernel)
    (by first | exact .inl (by decide +kernel) | exact .inr (by decide +kernel)) (by rw [isSubtype_type]; kernel_rfl)
theorem type_pat_sub : typeOf (.builtin "re.Pattern.sub") = pure (.type "method_descriptor") := by show builtinType _ = _; rw [builtinType_eq_fast]; kernel_rfl
theorem entry_pat_sub : entryFor table "re.Pattern.sub" = some Builtin.«re.Pattern.sub» := entryFor_of_tree (by kernel_rfl)
theorem entry_pat_loop : entryFor table "re.Pattern.sub.loop" = some Builtin.«re.Pattern.sub.loop» := entryFor_of_tree (by kernel_rfl)
theorem args_pat_sub (a b c : Value) : argsOk "re.Pattern.sub" ⟨[a, b, c], []⟩ := by unfold argsOk; kernel_rfl
section
variable {C : Cx}
theorem MethV.sub {a : Addr} (hp : PatAt C.B a) {c : Nat} (hc : c ∈ [42, 63, 91]) : MethV C "sub" (.val (.ref a)) [.fn, .str [c]] (.str [c]) := ⟨fun z v r => by
  cases r
  have pat : ∀ z' (h : Heap), BZ C z' → z'.inH h → PatAt h a := fun z' h b l => hp.keep fun a o e => l _ _ (b _ _ e)
  refine ⟨.builtin "re.Pattern.sub", fun h => keeper_builtin h, ?_, ?_⟩
  · intro z' pl l s h0 hb hz
    obtain ⟨v0, v1, t, o, n, h1, _⟩ := (pat z' s.heap hb hz).ex
    exact getMethod_builtin (T := "re.Pattern") ⟨_, h1, rfl⟩ attrs_pat slot_pat_sub type_pat_sub (fun b e => by cases e; exact ⟨_, h1, rfl⟩) (PostOp.now hz rfl)
  · intro z' vs l r s h0 hb hz
    cases r using RepAll.consE with
    | cons r1 rs =>
      cases rs using RepAll.consE with
      | cons r2 rs =>
        cases rs
        generalize he : [c] = k at r2
        cases r1 with
        | @fn f fd hf =>
          cases r2 using Rep.strE with
          | str w u =>
            have := one_cps he.symm
            subst this
            have hp' := pat z' s.heap hb hz
            obtain ⟨v0, v1, t, o, n, h1, _⟩ := hp'.ex
            have hT : s.TypeIs (.ref a) "re.Pattern" := ⟨_, h1, rfl⟩
            refine wpAny_call (codeAny_call_builtin slot_pat_sub.plain entry_pat_sub (slot_pat_sub.check _ _ _ _ _ _ _ _ hT (args_pat_sub _ _ _) (wp_sub hp' (hz _ _ hf) ?_)))
            refine ⟨Code.quiet_builtin _ (by decide +kernel), codeAny_builtin entry_pat_loop ?_⟩
            refine wp_loop hc (hp'.keep fun b o e => Heap.get?_push_of_some _ e) (Heap.get?_push_size _ rfl) fun t' k => ?_
            have hk : HK s.heap ((s.heap.push { cls := .type "list", data := .seq #[] }).update s.heap.objs.size (Obj.mapSeq (·.push (.str ⟨#[c]⟩ s.toks)))) := fun b o e => by
              exact Heap.get?_update_of_ne _ (Nat.ne_of_gt (Heap.lt_size e)) (Heap.get?_push_of_some _ e)
            exact ⟨hk, ⟨z', PH.le.refl _, FreshZ.refl, fun b o e => hk _ _ (hz _ _ e), by have := Rep.str (P := C.P) (z := z') ⟨#[c]⟩ t'; exact this⟩, rfl, rfl⟩⟩
end
end Mine
end

section
open PySem PySem.W PySem.Calls PyProof.Rows PySem.Builtin.Str PySem.SeqAt
set_option maxRecDepth 100000
namespace Mine
set_option linter.unusedVariables false
/-! steps that may turn the code table -/
def HKb (P : Addr) (h h' : Heap) : Prop := ∀ a o, a ≠ P → h.get? a = some o → h'.get? a = some o
def TabIs (z : PH) (P : Addr) (h : Heap) : Prop := ∃ ps, h.get? P = some (W.tabObj ps) ∧ PsOk z ps
def PostT {α : Type} (P : Addr) (z : PH) (s : Shared) (Q : PH → α → Prop) (a : α) (s' : Shared) : Prop :=
  HKb P s.heap s'.heap ∧ (∃ z', z.le z' ∧ FreshZ s.heap z z' ∧ z'.inH s'.heap ∧ TabIs z' P s'.heap ∧ Q z' a) ∧ Same s s'
def OpT {α : Type} (C : Cx) (P : Addr) (z : PH) (t : Sem α) (Q : PH → α → Prop) : Prop :=
  ∀ s, 0 < s.toks → BZ C z → z.inH s.heap → z P = none → TabIs z P s.heap → Wp C t (PostT P z s Q) s
theorem own_unique {a : Addr} {c : Cell} : ∀ {cs : Own}, (cs.map (·.1)).Nodup → (a, c) ∈ cs → ∀ p ∈ cs, p.1 = a → p = (a, c)
  | q :: cs, hn, hm, p, hp, e => by
    have hn' := List.nodup_cons.mp (by simpa using hn : (q.1 :: cs.map (·.1)).Nodup)
    rcases List.mem_cons.mp hm with rfl | hm'
    · rcases List.mem_cons.mp hp with rfl | hp'
      · rfl
      · exact absurd (List.mem_map.mpr ⟨p, hp', e⟩) hn'.1
    · rcases List.mem_cons.mp hp with rfl | hp'
      · exact absurd (List.mem_map.mpr ⟨_, hm', e.symm⟩) hn'.1
      · exact own_unique hn'.2 hm' p hp' e
theorem St.stepT {C : Cx} {k z z' : PH} {ρ : Loc} {cs : Own} {P : Addr} {h h' : Heap} (S : St C k z ρ cs h) (hm : (P, Cell.tab) ∈ cs) (hk : HKb P h h') (hz : z.le z') (hf : FreshZ h z z') (hl : z'.inH h') (ht : TabIs z' P h') : St C k z' ρ cs h' := by
  obtain ⟨zP, kP, hPL, o, ho, _⟩ := S.cell _ hm
  obtain ⟨m, F, hv⟩ := S.fr
  have new : ∀ b o, h.get? b = some o → z b = none → z' b = none := fun b o e n => by
    cases q : z' b with
    | none => rfl
    | some o' => rcases hf _ _ q with r | r
                 · rw [n] at r; cases r
                 · rw [e] at r; cases r
  obtain ⟨oL, es, ep, e1, r1⟩ := id F
  refine ⟨⟨m, ⟨oL, es, ep, hk _ _ (Ne.symm hPL) e1, r1⟩, fun x d e => let ⟨v, a, b⟩ := hv x d e; ⟨v, a, b.mono hz⟩⟩, S.base.mono hz, hl, fun a o e => hk _ _ (fun q => by rw [q] at e; rw [show k P = none from kP] at e; cases e) (S.keep a o e), new _ _ e1 S.zL, S.kL, fun p hp => ?_, S.nodup⟩
  obtain ⟨a, b, c, o', d, e⟩ := S.cell p hp
  by_cases q : p.1 = P
  · have := own_unique S.nodup hm p hp q
    subst this
    obtain ⟨ps, t1, t2⟩ := ht
    exact ⟨new _ _ d a, b, c, _, t1, ps, rfl, t2⟩
  · exact ⟨new _ _ d a, b, c, o', hk _ _ q d, e.mono hz⟩
theorem Tr.opT {α : Type} {C : Cx} {P : Addr} {ρ : Loc} {cs : Own} {z : PH} {t : Sem α} {Q : PH → α → Prop} (hm : (P, Cell.tab) ∈ cs) (h : OpT C P z t Q) : Tr C ρ cs z t Q := by
  intro k s h0 S
  obtain ⟨zP, kP, hPL, o, ho, ps, rfl, hps⟩ := S.cell _ hm
  refine Wp.mono (h s h0 S.base S.low zP ⟨ps, ho, hps⟩) fun a s' _ q => ?_
  obtain ⟨hk, ⟨z', l, fz, iz, ht, hp⟩, sm⟩ := q
  have S' := S.stepT hm hk l fz iz ht
  refine ⟨z', ⟨l, fun b o e => ?_⟩, S', hp, sm⟩
  rcases fz b o e with q | q
  · exact .inl q
  · refine .inr ?_
    cases e2 : k b with
    | none => rfl
    | some o' => rw [S.keep _ _ e2] at q; cases q
/-- what a body that may turn the table must do to give d -/
def GivesT (P : Addr) (d : D) : Out → Prop := fun o => ∃ cs, o = .ret d cs ∧ (P, Cell.tab) ∈ cs
/-- the frame's start -/
theorem St.startT {C : Cx} {P : Addr} {z : PH} {h h₁ : Heap} {ρ : Loc} {m : Str → Option Value} (F : Fr h C.L h₁ m) (hb : BZ C z) (hz : z.inH h) (zP : z P = none) (ht : TabIs z P h) (hL : h.get? C.L = none) (hr : ∀ y e, ρ.lookup y = some e → ∃ v, m y = some v ∧ Rep C.P z v e) :
    St C (fun b => if b = P then none else h.get? b) z ρ [(P, .tab)] h₁ := by
  obtain ⟨ps, t1, t2⟩ := ht
  refine ⟨⟨_, F.ns, hr⟩, hb, fun b o e => F.keep _ _ (hz _ _ e), fun b o e => ?_, inH_none hz hL, ?_, fun p hp => ?_, by simp⟩
  · split at e
    · cases e
    · exact F.keep _ _ e
  · show (if C.L = P then none else h.get? C.L) = none
    split
    · rfl
    · exact hL
  · rw [List.mem_singleton] at hp; subst hp
    refine ⟨zP, if_pos rfl, fun q => ?_, _, F.keep _ _ t1, ps, rfl, t2⟩
    have q : P = C.L := q
    rw [q, hL] at t1; cases t1
theorem PostT.ofRet {C : Cx} {P : Addr} {z : PH} {s s' : Shared} {d : D} {v : Value} {z' : PH} {cs : Own} {k : PH} (hk : k = fun b => if b = P then none else s.heap.get? b) (l : Grow k z z') (S' : St C k z' [] cs s'.heap) (hm : (P, Cell.tab) ∈ cs) (r : Rep C.P z' v d) (zP : z P = none) (sm : Same s s') : PostT P z s (fun z' v => Rep C.P z' v d) v s' := by
  subst hk
  obtain ⟨z'P, kP, hPL, o, ho, ps, rfl, hps⟩ := S'.cell _ hm
  refine ⟨fun a o ha e => S'.keep a o (by rw [if_neg ha]; exact e), ⟨z', l.1, fun b o e => ?_, S'.low, ⟨ps, ho, hps⟩, r⟩, sm⟩
  rcases l.2 b o e with q | q
  · exact .inl q
  · have q : (if b = P then none else s.heap.get? b) = none := q
    split at q
    · rename_i hb; subst hb; rw [show z' b = none from z'P] at e; cases e
    · exact .inr q
/-- a call that may turn the table -/
structure CallVT (C : Cx) (P : Addr) (fv : Value) (ds : List D) (d : D) : Prop where
  kp : ∀ z h, BZ C z → z.inH h → ∃ k, (k = Keeper.frame ∨ k = Keeper.machine ∨ k = Keeper.boundFrame) ∧ Looks C.M h (keeperOf fv) k
  op : ∀ z vs, RepAll C.P z vs ds → OpT C P z (call fv vs) fun z' v => Rep C.P z' v d
def CallT (C : Cx) (P : Addr) (x : Str) (ds : List D) (d : D) : Prop := ∃ f, Glo C x f ∧ CallVT C P f ds d
theorem OpT.def {C : Cx} {P : Addr} (G : Gd C) {n : Nat} (R : Room C n) {x : Str} {f : Addr} {params : Arguments} {body : List Stmt} {scope : Scope} {ds : List D} {d : D} {z : PH} {vs : List Value} (hf : Fn C x f params body scope) (r : RepAll C.P z vs ds)
    (hbind : ∀ pm cd doc, bindArgs (docDef x params body scope pm cd doc) ⟨vs, []⟩ = pure ((params.args.map (·.arg)).zip vs))
    (hloc : ((params.args.map (·.arg)).zip vs).all (fun x => decide (scope.names.lookup x.1 = some .local)) = true)
    (h : ∀ L cd, C.B.CodeRec cd x → (∃ o pm doc, C.B.get? f = some o ∧ o.data = .func (docDef x params body scope pm cd doc)) → Ex (C.call x scope L f cd) (((params.args.map (·.arg)).zip ds).reverse) [(P, .tab)] body (GivesT P d))
    (hco : scope.isCoroutine = false) (hgen : scope.isGenerator = false) (hk : scope.kind = .function)
    (hcell : ∀ x ∈ scope.names, x.2 ≠ .cell) : OpT C P z (call (.ref f) vs) fun z' v => Rep C.P z' v d := by
  intro s h0 hb hz zP ht
  obtain ⟨o, pm, cd, doc, ho, hd, hc⟩ := hf.obj
  refine wpAny_call (call_plain_ret R.depth (hz _ _ (hb _ _ ho)) hd (G.nolimit.keeps fun b o e => hz _ _ (hb b o e)) (CodeRec.inZ hc hb hz) (hbind pm cd doc) (locs hloc) (fun h₁ F => ?_) hco hgen hk hcell)
  have S : St (C.call x scope s.heap.objs.size f cd) (fun b => if b = P then none else s.heap.get? b) z (((params.args.map (·.arg)).zip ds).reverse) [(P, .tab)] h₁ :=
    St.startT (C := C.call x scope s.heap.objs.size f cd) F hb hz zP ht (get_size _) fun y e he => r.lookup _ y e he
  refine Wp.mono (h s.heap.objs.size cd hc ⟨o, pm, doc, ho, hd⟩ _ z { s with heap := h₁, toks := s.toks + ((params.args.map (·.arg)).zip vs).length } (Nat.lt_of_lt_of_le h0 (Nat.le_add_right _ _)) S) fun fl s' _ q => ?_
  obtain ⟨z', o, l, ho, ⟨cs, rfl, hm⟩, sm⟩ := q
  cases fl with
  | ret v =>
    obtain ⟨S', r'⟩ := ho
    exact PostT.ofRet (C := C.call x scope s.heap.objs.size f cd) rfl l S' hm r' zP sm
  | _ => exact ho.elim
end Mine
end

section
open PySem PySem.W PySem.Calls PyProof.Rows PySem.Builtin.Str PySem.SeqAt
set_option maxRecDepth 100000
namespace Mine
set_option linter.unusedVariables false
theorem BuiltinsAt.keep {h h' : Heap} {mg : Str → Option Value} {P : Addr} (hb : h.BuiltinsAt mg P) (k : ∀ a o, h.get? a = some o → h'.get? a = some o) : h'.BuiltinsAt mg P :=
  let ⟨bm, o, a, b, c, d, e, f⟩ := hb; ⟨bm, o, a, b, c, d, k _ _ e, f⟩
/-- what stands for the frame that makes the function -/
structure LamK (C : Cx) (P c : Addr) : Prop where
  code : C.env.code = .ref c
  hd : CodeHd C.B c P
  blt : C.B.BuiltinsAt C.mg P
  gP : mainGlobals ≠ P
theorem lam_new {C : Cx} {P c' : Addr} {z : PH} {s : Shared} {h' : Heap} {tk : Tok} {fd : FuncData} {oc : Obj} {vs : Array Value} {q : Str} {t : Tok} (hz : z.inH s.heap) (zP : z P = none) (hx : Heap.ExtBut P s.heap h') (hge : s.heap.objs.size ≤ c') (hlt : c' < h'.objs.size) (hoc : h'.get? c' = some oc) (hd : oc.data = .fields vs) (hv : vs[1]? = some (.str q t))
    (htb : h'.get? P = some (W.tabObj #[rawInt 244, rawInt 39, .ref c'])) : PostT P z s (fun z' v => Rep C.P z' v .fn) (Value.ref h'.objs.size) { s with heap := h'.push { cls := .type "function", data := .func fd }, toks := tk } := by
  have n1 : s.heap.get? c' = none := Heap.get?_none_of_le hge
  have n2 : s.heap.get? h'.objs.size = none := Heap.get?_none_of_le (Nat.le_trans hge (Nat.le_of_lt hlt))
  have z1 : z c' = none := inH_none hz n1
  have z2 : (z.add c' oc) h'.objs.size = none := by unfold PH.add; rw [if_neg (Nat.ne_of_gt hlt)]; exact inH_none hz n2
  have notP : ∀ b o, z b = some o → b ≠ P := fun b o e q => by rw [q, zP] at e; cases e
  refine ⟨fun b o hb' e => Heap.get?_push_of_some _ (hx b o hb' e), ⟨(z.add c' oc).add h'.objs.size { cls := .type "function", data := .func fd }, (PH.le_add z1).trans (PH.le_add z2), fun b o e => ?_, fun b o e => ?_, ⟨_, Heap.get?_push_of_some _ htb, .inr ⟨c', oc, vs, _, t, rfl, PH.le_add z2 _ _ (PH.add_at _ _ _), hd, hv⟩⟩, .fn (PH.add_at _ _ _)⟩, rfl, rfl⟩
  · unfold PH.add at e; split at e
    · rename_i w; subst w; exact .inr n2
    · split at e
      · rename_i w; subst w; exact .inr n1
      · exact .inl e
  · unfold PH.add at e; split at e
    · rename_i w; subst w; cases e; exact Heap.get?_push_size _ rfl
    · split at e
      · rename_i w; subst w; cases e; exact Heap.get?_push_of_some _ hoc
      · exact Heap.get?_push_of_some _ (hx b o (notP _ _ e) (hz _ _ e))
theorem lam_hit {C : Cx} {P : Addr} {z : PH} {s : Shared} {h' : Heap} {tk : Tok} {fd : FuncData} {ps : Array Value} (hz : z.inH s.heap) (hk : ∀ b o, s.heap.get? b = some o → h'.get? b = some o) (hsz : s.heap.objs.size ≤ h'.objs.size) (t1 : s.heap.get? P = some (W.tabObj ps)) (t2 : PsOk z ps) : PostT P z s (fun z' v => Rep C.P z' v .fn) (Value.ref h'.objs.size) { s with heap := h'.push { cls := .type "function", data := .func fd }, toks := tk } := by
  have n2 : s.heap.get? h'.objs.size = none := Heap.get?_none_of_le hsz
  have z2 : z h'.objs.size = none := inH_none hz n2
  refine ⟨fun b o _ e => Heap.get?_push_of_some _ (hk b o e), ⟨z.add h'.objs.size { cls := .type "function", data := .func fd }, PH.le_add z2, fun b o e => ?_, fun b o e => ?_, ⟨_, Heap.get?_push_of_some _ (hk _ _ t1), t2.mono (PH.le_add z2)⟩, .fn (PH.add_at _ _ _)⟩, rfl, rfl⟩
  · unfold PH.add at e; split at e
    · rename_i w; subst w; exact .inr n2
    · exact .inl e
  · unfold PH.add at e; split at e
    · rename_i w; subst w; cases e; exact Heap.get?_push_size _ rfl
    · exact Heap.get?_push_of_some _ (hk _ _ (hz _ _ e))
theorem Ev.lambda {C : Cx} {P c : Addr} {ρ : Loc} {cs : Own} (G : Gd C) (K : LamK C P c) (hm : (P, Cell.tab) ∈ cs) {params : Arguments} {body : Expr} {scope : Scope} {pos : Pos} {clos : List (Str × Addr)} (hl : pos.line = 244) (hcol : pos.col = 39)
    (hcl : closureFor scope C.env = pure clos) (hdef : defaultsOf params C.env = ([], []) := by rfl) : Ev C ρ cs (.Lambda params body scope pos) .fn := by
  intro z
  refine Tr.opT hm ?_
  intro s h0 hb hz zP ht
  obtain ⟨ps, t1, t2⟩ := ht
  have kk : ∀ a o, C.B.get? a = some o → s.heap.get? a = some o := fun a o e => hz _ _ (hb _ _ e)
  have hg : s.heap.Ns mainGlobals C.mg := Ns.inZ G.g hb hz
  refine kla_eval hdef ?_
  rcases id t2 with rfl | ⟨c', oc, vs, q, t, rfl, zc, hd, hv⟩
  · refine kla_makeFunction (c := c) (P := P) (mg := C.mg) hcl G.glob hg K.code (K.hd.keeps kk) t1 trivial rfl K.gP (BuiltinsAt.keep K.blt kk) fun c' ctv h' tk hx hge hlt hrec htb => ?_
    obtain ⟨c2, oc, vs, t, e2, hoc, hd, hv⟩ := hrec
    cases e2
    rw [hl, hcol] at htb
    exact lam_new hz zP hx hge hlt hoc hd hv htb
  · have hf : codeAmong pos (#[rawInt 244, rawInt 39, Value.ref c'] : Array Value).toList = some (.ref c') := by
      show (if ((244 : Int) == pos.line && (39 : Int) == pos.col) = true then _ else _) = _
      rw [hl, hcol]; rfl
    refine kla_makeFunctionHit (c := c) (P := P) (mg := C.mg) hcl G.glob hg K.code (K.hd.keeps kk) t1 trivial hf (BuiltinsAt.keep K.blt kk) fun ctv h' tk hk hsz => ?_
    exact lam_hit hz hk hsz t1 t2
end Mine
end

section
open PySem PySem.W PySem.Calls PyProof.Rows PySem.Builtin.Str PySem.SeqAt
set_option maxRecDepth 100000
namespace Mine
set_option linter.unusedVariables false
/-- a def whose code object is known -/
def HasDefC (B : Heap) (mg : Str → Option Value) (x : Str) (d : FD) (c : Addr) : Prop := ∃ f, mg x = some (.ref f) ∧ ∃ o pm doc, B.get? f = some o ∧ o.data = .func (docDef x d.1 d.2.1 d.2.2 pm (.ref c) doc) ∧ B.CodeRec (.ref c) x
section
variable {C : Cx} {P : Addr}
theorem CallT.def (G : Gd C) {n : Nat} (R : Room C n) {x : Str} {d : FD} {k : Nat} {ds : List D} {r : D} (hf : HasDef C.B C.mg x d) (hp : Plain d k) (hk : ds.length = k)
    (h : ∀ L f cd, Ex (C.call x d.2.2 L f cd) (((d.1.args.map (·.arg)).zip ds).reverse) [(P, .tab)] d.2.1 (GivesT P r)) : CallT C P x ds r := by
  obtain ⟨f, hm, o, pm, cd, doc, ho, hd, hc⟩ := hf
  obtain ⟨p1, p2, p3, p4, p5, p6, p7⟩ := hp
  have F : Fn C x f d.1 d.2.1 d.2.2 := ⟨hm, o, pm, cd, doc, ho, hd, hc⟩
  refine ⟨.ref f, .inl hm, F.keeper, fun z vs r => ?_⟩
  refine OpT.def G R F r (fun pm cd doc => p2 x pm cd doc vs (by rw [r.length]; exact hk)) (zip_all _ _ _ p3) (fun L cd _ _ => h L f cd) p4 p5 p6 ?_
  intro y hy
  have := List.all_eq_true.mp p7 y hy
  exact of_decide_eq_true this
theorem CallT.defC (G : Gd C) {n : Nat} (R : Room C n) {x : Str} {d : FD} {k : Nat} {c : Addr} {ds : List D} {r : D} (hf : HasDefC C.B C.mg x d c) (hp : Plain d k) (hk : ds.length = k)
    (h : ∀ L f, Ex (C.call x d.2.2 L f (.ref c)) (((d.1.args.map (·.arg)).zip ds).reverse) [(P, .tab)] d.2.1 (GivesT P r)) : CallT C P x ds r := by
  obtain ⟨f, hm, o, pm, doc, ho, hd, hc⟩ := hf
  obtain ⟨p1, p2, p3, p4, p5, p6, p7⟩ := hp
  have F : Fn C x f d.1 d.2.1 d.2.2 := ⟨hm, o, pm, _, doc, ho, hd, hc⟩
  refine ⟨.ref f, .inl hm, F.keeper, fun z vs r => ?_⟩
  refine OpT.def G R F r (fun pm cd doc => p2 x pm cd doc vs (by rw [r.length]; exact hk)) (zip_all _ _ _ p3) (fun L cd _ ⟨o', pm', doc', ho', hd'⟩ => ?_) p4 p5 p6 ?_
  · rw [ho] at ho'; cases ho'
    rw [hd] at hd'
    have : cd = .ref c := by
      have := congrArg (fun d => match d with | .func fd => fd.code | _ => Value.none) hd'
      exact this.symm
    subst this
    exact h L f
  · intro y hy
    have := List.all_eq_true.mp p7 y hy
    exact of_decide_eq_true this
theorem Tr.callWithT {ρ : Loc} {cs : Own} (hm : (P, Cell.tab) ∈ cs) {z : PH} {f : Value} {first : List Value} {args : List Expr} {p : Pos} {ds : List D} {Q : PH → Value → Prop} (kp : ∀ z' h, z.le z' → BZ C z' → z'.inH h → ∃ k, (k = Keeper.frame ∨ k = Keeper.machine ∨ k = Keeper.boundFrame) ∧ Looks C.M h (keeperOf f) k)
    (ha : EvA C ρ cs args ds) (h : ∀ z' vs, z.le z' → RepAll C.P z' vs ds → OpT C P z' (call f (first ++ vs)) Q) : Tr C ρ cs z (PySem.callWith p f first (backTo p (starEach args C.env)) []) Q := by
  intro k s h0 S
  refine callWith_of (P := fun h => ∃ z', z.le z' ∧ BZ C z' ∧ z'.inH h) (by rw [ha.2 p]; rfl) (fun h ⟨z', a, b, c⟩ => kp z' h a b c) ?_
  refine evalArgs_any (ha.2 p) (Wp.mono (ha.1 z p k s h0 S) fun vs s' ht ⟨z', l, S', r, sm⟩ => ⟨⟨z', l.1, S'.base, S'.low⟩, ?_⟩)
  refine Wp.mono (Tr.opT hm (h z' vs l.1 r) k s' (Nat.lt_of_lt_of_le h0 ht) S') fun v s'' _ ⟨z'', l', S'', r', sm'⟩ => ⟨z'', l.trans l', S'', r', sm.trans sm'⟩
theorem Ev.callVT {ρ : Loc} {cs : Own} (hm : (P, Cell.tab) ∈ cs) {f : Expr} {fv : Value} {args : List Expr} {p : Pos} {ds : List D} {d : D} (hf : Ev C ρ cs f (.val fv)) (ha : EvA C ρ cs args ds) (h : CallVT C P fv ds d)
    (hc : eval (.Call f args [] p) C.env = (do callWith p (← eval f C.env) [] (backTo p (starEach args C.env)) []) := by rfl) : Ev C ρ cs (.Call f args [] p) d := by
  intro z
  rw [hc]
  refine Tr.bind (hf z) fun z1 v l1 r1 => ?_
  cases r1
  exact Tr.callWithT hm (fun z' hp _ => h.kp z' hp) ha fun z' vs _ r => h.op z' vs r
theorem Ev.callT (G : Gd C) {ρ : Loc} {cs : Own} (hm : (P, Cell.tab) ∈ cs) {x : Str} {q : Pos} {args : List Expr} {p : Pos} {ds : List D} {d : D} (ha : EvA C ρ cs args ds) (h : CallT C P x ds d) (hl : C.env.kindOf x = some .globalImplicit) (hd : (x == ("__debug__" : Str)) = false) : Ev C ρ cs (.Call (.Name x q) args [] p) d := by
  obtain ⟨f, hg, hv⟩ := h
  exact Ev.callVT hm (Ev.glo G hg hl hd) ha hv
end
end Mine
end

section
open PySem PySem.W PySem.Calls PyProof.Rows PySem.Builtin.Str PySem.SeqAt
set_option maxRecDepth 100000
namespace Mine
set_option linter.unusedVariables false
theorem pTranslateP : Plain dTranslateP.1 3 := .k3 rfl (fun _ _ _ _ _ _ _ => rfl) (by decide +kernel) rfl rfl rfl (by decide +kernel)
/-- what stands at the top for _translate -/
structure TwK (C : Cx) (P c : Addr) : Prop where
  df : HasDefC C.B C.mg "_translate" dTranslateP.1 c
  hd : CodeHd C.B c P
  blt : C.B.BuiltinsAt C.mg P
  gP : mainGlobals ≠ P
  pat : ∃ a, Glo C "_twin_re_1" (.ref a) ∧ PatAt C.B a
def tailJ (ls : List (List Nat)) : List Nat := ls.flatMap fun l => 42 :: l.flatMap bar
structure TS where
  i : Int
  pre : List Nat
  done : List D
  r : List Nat
  ls : List (List Nat)
def TS.loc (s : TS) (pat : List Nat) (a st : Addr) : Loc := [("i", .int s.i), ("n", .int pat.length), ("add", .bnd a), ("res", .val (.ref a)), ("pat", .str pat), ("STAR", .val (.ref st)), ("QUESTION_MARK", .str [46])]
structure TS.Ok (s : TS) (pat : List Nat) (st : Addr) (out : List D) : Prop where
  i : s.i = s.pre.length
  pat : pat = s.pre ++ (s.r.flatMap bar ++ tailJ s.ls)
  out : out = s.done ++ (s.r.map chD ++ tailP (.val (.ref st)) s.ls)
  last : s.r ≠ [] ∨ ∃ x, s.done.getLast? = some (.str x)
  ne : ∀ l ∈ s.ls, l ≠ []
  len : s.done.length ≤ s.pre.length
theorem esc_tr {c : Nat} (h : ¬ (c = 42 ∨ c = 63 ∨ c = 91)) : esc c = tr c := by
  have h1 : ¬ c = 91 := fun e => h (by (first | lia | omega))
  have h2 : ¬ (c = 42 ∨ c = 63) := fun e => h (by (first | lia | omega))
  unfold esc tr
  rw [if_neg h1, if_neg h2]
theorem Ev.cast {C : Cx} {ρ : Loc} {cs : Own} {e : Expr} {d d' : D} (h : Ev C ρ cs e d) (q : d = d') : Ev C ρ cs e d' := q ▸ h
set_option maxHeartbeats 4000000 in
theorem c_translateP {C : Cx} {P c : Addr} (G : Gd C) (K : Kn C) (hK : KS C) (T : TwK C P c) (R : Room C 1) {st : Addr} {l0 : List Nat} {ls : List (List Nat)} (hne0 : l0 ≠ []) (hne : ∀ l ∈ ls, l ≠ []) {pat : List Nat} (hpat : pat = l0.flatMap bar ++ tailJ ls) (hsz : pat.length ≤ 1000000) :
    CallT C P "_translate" [.str pat, .val (.ref st), .str [46]] (.list (partsP (.val (.ref st)) (l0 :: ls))) := by
  refine CallT.defC G R T.df pTranslateP rfl fun L f => ?_
  have G' := G.call (x := "_translate") (scope := dTranslateP.1.2.2) (L := L) (f := f) (cd := .ref c) rfl
  have K' : Kn (C.call "_translate" dTranslateP.1.2.2 L f (.ref c)) := K.cast rfl rfl rfl
  have hK' : KS (C.call "_translate" dTranslateP.1.2.2 L f (.ref c)) := hK
  have R' : Room (C.call "_translate" dTranslateP.1.2.2 L f (.ref c)) 0 := R.call
  have LK : LamK (C.call "_translate" dTranslateP.1.2.2 L f (.ref c)) P c := ⟨rfl, T.hd, T.blt, T.gP⟩
  obtain ⟨tw, htw, hpt⟩ := T.pat
  have htw' : Glo (C.call "_translate" dTranslateP.1.2.2 L f (.ref c)) "_twin_re_1" (.ref tw) := htw
  have hpt' : PatAt (C.call "_translate" dTranslateP.1.2.2 L f (.ref c)).B tw := hpt
  have hout : partsP (.val (.ref st)) (l0 :: ls) = l0.map chD ++ tailP (.val (.ref st)) ls := rfl
  generalize partsP (.val (.ref st)) (l0 :: ls) = out at hout
  refine Ex.assignNew G' (fun a => ?_) rfl
  refine Ex.assignBnd G' (x := "res") (a := a) (ds := []) rfl (.head _) ?_ rfl rfl rfl
  refine Ex.unpackS (xs := ["i", "n"]) G' (eT (a2 Ev.int (eB G' K'.len (a1 (eL G')) (.lenStr (by (first | lia | omega)))))) rfl rfl rfl ?_
  refine Ex.loop (fun s : TS => s.loc pat a st) (fun s => [(a, .lst s.done), (P, .tab)]) (fun s => pat.length - s.pre.length) (fun s => s.Ok pat st out) ⟨0, [], [], l0, ls⟩ ⟨rfl, hpat, hout, .inl hne0, hne, Nat.le_refl _⟩ (.cons rfl (.cons rfl (.cons rfl (.cons rfl (.cons rfl (.cons rfl (.cons rfl .nil))))))) rfl ?_
  rintro ⟨i, pre, done, r, rs⟩ hs ih
  have hi : i = pre.length := hs.i
  have hp : pat = pre ++ (r.flatMap bar ++ tailJ rs) := hs.pat
  have ho : out = done ++ (r.map chD ++ tailP (.val (.ref st)) rs) := hs.out
  have hlen : done.length ≤ pre.length := hs.len
  have hpl : pre.length ≤ pat.length := by rw [hp]; simp
  have hdl : done.length ≤ 1000000 := by (first | lia | omega)
  have hitm : ∀ (j : Nat) (x : Nat), (r.flatMap bar ++ tailJ rs)[j]? = some x → Itm (C.call "_translate" dTranslateP.1.2.2 L f (.ref c)) (.str pat) (.int (i + (j : Int))) (.str [x]) := fun j x hx => by
    have hj : j < (r.flatMap bar ++ tailJ rs).length := (List.getElem?_eq_some_iff.mp hx).1
    have hpl2 : pat.length = pre.length + (r.flatMap bar ++ tailJ rs).length := by rw [hp]; simp
    refine Itm.str (j := pre.length + j) ?_ ?_ ⟨by (first | lia | omega), by (first | lia | omega)⟩
    · unfold seqIndex?
      simp only [show ¬ (i + (j : Int)) < 0 from by (first | lia | omega), if_false]
      simp; (first | lia | omega)
    · rw [hp, List.getElem?_append_right (by (first | lia | omega)), Nat.add_sub_cancel_left]; exact hx
  cases r with
  | nil =>
    cases rs with
    | nil =>
      have he : pat = pre := by rw [hp]; simp [tailJ]
      have hoe : out = done := by rw [ho]; simp [tailP]
      refine Lp.turn (b := decide (i < (pat.length : Int))) (.cmp (eL G') (eL G') .ltInt) (fun h => ?_) fun _ => Ex.nil ?_
      · have := of_decide_eq_true h; rw [he] at this; (first | lia | omega)
      refine Ex.assert (EvB.cast (.cmp (eL G') (eL G') .eqInt) (by rw [he, hi]; simp)) ?_
      refine Ex.freeze (x := "res") rfl ?_
      exact Ex.ret (eL G') ⟨_, by rw [hoe], .head _⟩
    | cons l rs =>
      have hpl2 : pat.length = pre.length + 1 + (l.flatMap bar ++ tailJ rs).length := by rw [hp]; simp [tailJ]; (first | lia | omega)
      have hx0 := hitm 0 42 rfl
      rw [show i + ((0 : Nat) : Int) = i from by (first | lia | omega)] at hx0
      obtain ⟨y, hy⟩ : ∃ x, done.getLast? = some (.str x) := by
        rcases hs.last with h | h
        · exact absurd rfl h
        · exact h
      have hde : done.isEmpty = false := by cases done with
        | nil => cases hy
        | cons => rfl
      refine Lp.turn (b := decide (i < (pat.length : Int))) (.cmp (eL G') (eL G') .ltInt) (fun _ => ?_) fun h => by
        have := of_decide_eq_false h; (first | lia | omega)
      refine Ex.assign G' (Ev.item (eL G') (eL G') hx0) ?_ rfl
      refine Ex.assign G' (Ev.bin (eL G') Ev.int .addInt) ?_ rfl
      refine Ex.ite (b := true) (.cmp (eL G') (eS [42]) .eqStr) (fun _ => ?_) (fun h => nomatch h)
      refine Ex.ite (b := (!(!done.isEmpty)) || true) (.or (.not (EvB.own G' (a := a) rfl (.head _) (by (first | lia | omega)) rfl rfl)) fun _ => .cmp (Ev.ownLast G' (a := a) rfl (.head _) (Ev.neg Ev.int) (by show done.length ≤ _; (first | lia | omega)) hy rfl rfl) (eL G') .isNotStr) (fun _ => ?_) (fun h => by simp at h)
      refine Ex.callBnd G' rfl (eL G' (d := .val (.ref st))) (by show done.length ≤ _; (first | lia | omega)) ?_ rfl rfl
      repeat (refine Ex.nil ?_)
      refine Lp.sub ?_ (ih ⟨i + 1, pre ++ [42], done ++ [D.val (.ref st)], l, rs⟩ ⟨by simp [hi], by rw [hp]; simp [tailJ], by rw [ho]; simp [tailP], .inl (hs.ne l (.head _)), fun l h => hs.ne l (.tail _ h), by simp; (first | lia | omega)⟩ (by simp; (first | lia | omega)))
      exact .cons rfl (.cons rfl (.cons rfl (.cons rfl (.cons rfl (.cons rfl (.cons rfl .nil))))))
  | cons x r =>
    by_cases hb : x = 42 ∨ x = 63 ∨ x = 91
    · have hbar : bar x = [91, x, 93] := by unfold bar; rw [if_pos hb]
      have hmem : x ∈ [42, 63, 91] := by simpa using hb
      have hpe : pat = pre ++ (91 :: x :: 93 :: (r.flatMap bar ++ tailJ rs)) := by rw [hp, List.flatMap_cons, hbar]; simp
      have hpl2 : pat.length = pre.length + 3 + (r.flatMap bar ++ tailJ rs).length := by rw [hpe]; simp; (first | lia | omega)
      have hsh : ((x :: r).flatMap bar ++ tailJ rs) = 91 :: x :: 93 :: (r.flatMap bar ++ tailJ rs) := by rw [List.flatMap_cons, hbar]; simp
      have hx0 := hitm 0 91 (by rw [hsh]; rfl)
      have hx1 := hitm 1 x (by rw [hsh]; rfl)
      have hx2 := hitm 2 93 (by rw [hsh]; rfl)
      rw [show i + ((0 : Nat) : Int) = i from by (first | lia | omega)] at hx0
      rw [show i + ((1 : Nat) : Int) = i + 1 from by (first | lia | omega)] at hx1
      rw [show i + ((2 : Nat) : Int) = i + 1 + 1 from by (first | lia | omega)] at hx2
      have hcut : pyCut (some (i + 1)) (some (i + 1 + 1)) pat = [x] := by
        have := cut_mid pat (pre.length + 1) (pre.length + 2)
        rw [show ((pre.length + 1 : Nat) : Int) = i + 1 from by (first | lia | omega), show ((pre.length + 2 : Nat) : Int) = i + 1 + 1 from by (first | lia | omega)] at this
        rw [this, hpe, show pre.length + 2 - (pre.length + 1) = 1 from by (first | lia | omega), ← List.drop_drop, List.drop_left]; rfl
      have n33 : ([x] == ([33] : List Nat)) = false := by rcases hb with rfl | rfl | rfl <;> rfl
      have n93 : ([x] == ([93] : List Nat)) = false := by rcases hb with rfl | rfl | rfl <;> rfl
      have m93 : ([x] != ([93] : List Nat)) = true := by rcases hb with rfl | rfl | rfl <;> rfl
      have n45 : decide (45 ∈ [x]) = false := by rcases hb with rfl | rfl | rfl <;> rfl
      have hrep : rep 92 [92, 92] [x] = [x] := by rcases hb with rfl | rfl | rfl <;> rfl
      have hany : (([[94], [91]] : List (List Nat)).any (· == [x])) = decide (x = 91) := by rcases hb with rfl | rfl | rfl <;> rfl
      have hlt1 : decide (i + 1 < (pat.length : Int)) = true := decide_eq_true (by (first | lia | omega))
      have hlt2 : decide (i + 1 + 1 < (pat.length : Int)) = true := decide_eq_true (by (first | lia | omega))
      have hs0 : ∀ C, Itm C (.str [x]) (.int 0) (.str [x]) := fun C => Itm.str (j := 0) rfl rfl ⟨by decide, by decide⟩
      refine Lp.turn (b := decide (i < (pat.length : Int))) (.cmp (eL G') (eL G') .ltInt) (fun _ => ?_) fun h => by
        have := of_decide_eq_false h; (first | lia | omega)
      refine Ex.assign G' (Ev.item (eL G') (eL G') hx0) ?_ rfl
      refine Ex.assign G' (Ev.bin (eL G') Ev.int .addInt) ?_ rfl
      refine Ex.ite (b := false) (.cmp (eL G') (eS [42]) .eqStr) (fun h => nomatch h) fun _ => ?_
      refine Ex.ite (b := false) (.cmp (eL G') (eS [63]) .eqStr) (fun h => nomatch h) fun _ => ?_
      refine Ex.ite (b := true) (.cmp (eL G') (eS [91]) .eqStr) (fun _ => ?_) (fun h => nomatch h)
      refine Ex.assign G' (eL G') ?_ rfl
      refine Ex.ite (b := decide (i + 1 < (pat.length : Int)) && ([x] == ([33] : List Nat))) (.and (.cmp (eL G') (eL G') .ltInt) fun _ => .cmp (Ev.item (eL G') (eL G') hx1) (eS [33]) .eqStr) (fun h => by rw [n33, Bool.and_false] at h; cases h) fun _ => Ex.nil ?_
      refine Ex.ite (b := decide (i + 1 < (pat.length : Int)) && ([x] == ([93] : List Nat))) (.and (.cmp (eL G') (eL G') .ltInt) fun _ => .cmp (Ev.item (eL G') (eL G') hx1) (eS [93]) .eqStr) (fun h => by rw [n93, Bool.and_false] at h; cases h) fun _ => Ex.nil ?_
      refine Ex.while_ (Lp.turn (b := decide (i + 1 < (pat.length : Int)) && ([x] != ([93] : List Nat))) (.and (.cmp (eL G') (eL G') .ltInt) fun _ => .cmp (Ev.item (eL G') (eL G') hx1) (eS [93]) .neStr) (fun _ => ?_) fun h => by rw [hlt1, m93] at h; cases h)
      refine Ex.assign G' (Ev.bin (eL G') Ev.int .addInt) ?_ rfl
      refine Ex.nil ?_
      refine Lp.turn (b := decide (i + 1 + 1 < (pat.length : Int)) && ([93] != ([93] : List Nat))) (.and (.cmp (eL G') (eL G') .ltInt) fun _ => .cmp (Ev.item (eL G') (eL G') hx2) (eS [93]) .neStr) (fun h => by rw [hlt2] at h; cases h) fun _ => Ex.nil ?_
      refine Ex.ite (b := decide (i + 1 + 1 ≥ (pat.length : Int))) (.cmp (eL G') (eL G') .geInt) (fun h => by have := of_decide_eq_true h; (first | lia | omega)) fun _ => ?_
      refine Ex.assign G' (eCut (eL G') (.one (eL G')) (.one (eL G')) (by (first | lia | omega)) hcut) ?_ rfl
      refine Ex.ite (b := !decide (45 ∈ [x])) (.cmp (eS [45]) (eL G') .notInStr) (fun _ => ?_) (fun h => by rw [n45] at h; cases h)
      refine Ex.assign G' (d := .str [x]) (Ev.cast (Ev.replace (c := 92) (x := [x]) (r := [92, 92]) (eL G') rfl rfl rfl (by simp)) (by rw [hrep])) ?_ rfl
      refine Ex.nil ?_
      refine Ex.assign G' (Ev.meth (eG G' htw') (a2 (Ev.lambda G' LK (.tail _ (.head _)) rfl rfl rfl) (eL G')) (MethV.sub hpt' hmem)) ?_ rfl
      refine Ex.assign G' (Ev.bin (eL G') Ev.int .addInt) ?_ rfl
      refine Ex.ite (b := !(!([x] : List Nat).isEmpty)) (.not (.plain (eL G') (.str (by simp)))) (fun h => nomatch h) fun _ => ?_
      refine Ex.ite (b := [x] == ([33] : List Nat)) (.cmp (eL G') (eS [33]) .eqStr) (fun h => by rw [n33] at h; cases h) fun _ => ?_
      refine Ex.ite (b := [x] == ([33] : List Nat)) (.cmp (Ev.item (eL G') Ev.int (hs0 _)) (eS [33]) .eqStr) (fun h => by rw [n33] at h; cases h) fun _ => ?_
      have fin : ∀ (ρ : Loc) (t : List Nat), t = tr x → Sub ρ (TS.loc ⟨i + 1 + 1 + 1, pre ++ [91, x, 93], done ++ [.str (tr x)], r, rs⟩ pat a st) → Lp (C.call "_translate" dTranslateP.1.2.2 L f (.ref c)) ρ [(a, .lst (done ++ [.str t])), (P, .tab)] _ _ _ _ := fun ρ t e hsub => by
        subst e
        exact Lp.sub hsub (ih ⟨i + 1 + 1 + 1, pre ++ [91, x, 93], done ++ [.str (tr x)], r, rs⟩ ⟨by simp [hi]; (first | lia | omega), by rw [hpe]; simp, by rw [ho]; simp [chD], .inr ⟨tr x, by simp⟩, hs.ne, by simp; (first | lia | omega)⟩ (by simp; (first | lia | omega)))
      refine Ex.ite (b := ([[94], [91]] : List (List Nat)).any (· == [x])) (.cmp (Ev.item (eL G') Ev.int (hs0 _)) (eT (a2 (eS [94]) (eS [91]))) (Cmp.inStrs (x := [x]) (xs := [[94], [91]]))) (fun h => ?_) fun h => ?_
      · rw [hany] at h
        have hx : x = 91 := of_decide_eq_true h
        refine Ex.assign G' (Ev.bin (eS [92]) (eL G') (.addStr (by simp))) ?_ rfl
        repeat (refine Ex.nil ?_)
        refine Ex.callBnd G' rfl (Ev.fstr (a := [91]) (b := [93]) rfl rfl (eL G') (by simp)) (by show done.length ≤ _; (first | lia | omega)) ?_ rfl rfl
        repeat (refine Ex.nil ?_)
        exact fin _ _ (by subst hx; rfl) (.cons rfl (.cons rfl (.cons rfl (.cons rfl (.cons rfl (.cons rfl (.cons rfl .nil)))))))
      · rw [hany] at h
        have hx : x ≠ 91 := of_decide_eq_false h
        repeat (refine Ex.nil ?_)
        refine Ex.callBnd G' rfl (Ev.fstr (a := [91]) (b := [93]) rfl rfl (eL G') (by simp)) (by show done.length ≤ _; (first | lia | omega)) ?_ rfl rfl
        repeat (refine Ex.nil ?_)
        exact fin _ _ (by rcases hb with rfl | rfl | rfl <;> first | rfl | exact absurd rfl hx) (.cons rfl (.cons rfl (.cons rfl (.cons rfl (.cons rfl (.cons rfl (.cons rfl .nil)))))))
    · have hbar : bar x = [x] := by unfold bar; rw [if_neg hb]
      have hpe : pat = pre ++ (x :: (r.flatMap bar ++ tailJ rs)) := by rw [hp, List.flatMap_cons, hbar]; simp
      have hpl2 : pat.length = pre.length + 1 + (r.flatMap bar ++ tailJ rs).length := by rw [hpe]; simp; (first | lia | omega)
      have hx0 := hitm 0 x (by rw [List.flatMap_cons, hbar]; rfl)
      rw [show i + ((0 : Nat) : Int) = i from by (first | lia | omega)] at hx0
      have n42 : ([x] == ([42] : List Nat)) = false := by simp; (first | lia | omega)
      have n63 : ([x] == ([63] : List Nat)) = false := by simp; (first | lia | omega)
      have n91 : ([x] == ([91] : List Nat)) = false := by simp; (first | lia | omega)
      refine Lp.turn (b := decide (i < (pat.length : Int))) (.cmp (eL G') (eL G') .ltInt) (fun _ => ?_) fun h => by
        have := of_decide_eq_false h; (first | lia | omega)
      refine Ex.assign G' (Ev.item (eL G') (eL G') hx0) ?_ rfl
      refine Ex.assign G' (Ev.bin (eL G') Ev.int .addInt) ?_ rfl
      refine Ex.ite (.cmp (eL G') (eS [42]) .eqStr) (fun h => by rw [n42] at h; cases h) fun _ => ?_
      refine Ex.ite (.cmp (eL G') (eS [63]) .eqStr) (fun h => by rw [n63] at h; cases h) fun _ => ?_
      refine Ex.ite (.cmp (eL G') (eS [91]) .eqStr) (fun h => by rw [n91] at h; cases h) fun _ => ?_
      refine Ex.callBnd G' rfl (eC G' (a1 (eL G')) (c_escape G' K' hK' R')) (by show done.length ≤ _; (first | lia | omega)) ?_ rfl rfl
      repeat (refine Ex.nil ?_)
      refine Lp.sub ?_ (ih ⟨i + 1, pre ++ [x], done ++ [D.str (esc x)], r, rs⟩ ⟨by simp [hi], by rw [hpe]; simp, by rw [ho, esc_tr hb]; simp [chD], .inr ⟨esc x, by simp⟩, hs.ne, by simp; (first | lia | omega)⟩ (by simp; (first | lia | omega)))
      exact .cons rfl (.cons rfl (.cons rfl (.cons rfl (.cons rfl (.cons rfl (.cons rfl .nil))))))
end Mine
end

section
open PySem PySem.W PySem.Calls PyProof.Rows PySem.Builtin.Str PySem.SeqAt
set_option maxRecDepth 100000
namespace Mine
set_option linter.unusedVariables false
/-! object() -/
theorem mro_object : mroOf (.type "object") = pure [.type "object"] := by rw [mroOf_type]; kernel_rfl
theorem lookup_object_new : typeLookup (.type "object") "__new__" = pure (some (.builtin "object.__new__")) := by rw [typeLookup_type, builtinLookup_eq_fast]; kernel_rfl
theorem called_object : TypeCalled "object" "object.__new__" "object.__init__" :=
  ⟨by decide +kernel, by decide +kernel, ⟨_, _, mro_object⟩, madeBy_type mro_object lookup_object_new (by decide +kernel), by decide +kernel, by rw [isSubtype_type]; kernel_rfl, F.slot_object_init⟩
theorem typeCall_object_0 : checkTypeCall "object" ⟨[], []⟩ = pure () := by kernel_rfl
theorem newCall_object_0 : checkBuiltinCall "object.__new__" ⟨[.type "object"], []⟩ = pure () := by kernel_rfl
theorem madeHere_object : Bind.madeHere "object.__new__" (.type "object") = pure () := by
  kernel_rfl
theorem object_new_meets : Meets (Builtin.«object.__new__» ⟨[.type "object"], []⟩) (fun A R s => R (.ok (.ret (.ref s.heap.objs.size))) { s with heap := s.heap.push { cls := .type "object", data := .plain } }) := by
  refine Meets.of_wp fun prog w A R s hs => ?_
  have hmh := madeHere_object
  unfold Builtin.«object.__new__»
  repeat wp_step
  exact ⟨_, rfl, hs⟩
theorem call_object {prog : Program} {w : World} {A : Around} {E : Value → Shared → Prop} {s : Shared} {Q : Value → Shared → Prop}
    (h : Q (.ref s.heap.objs.size) { s with heap := s.heap.push { cls := .type "object", data := .plain } }) : wpAny (model prog w) A (call (.type "object") []) Q E s := by
  refine callType_meets (Q₁ := fun obj s₁ => obj = .ref s.heap.objs.size ∧ s₁ = { s with heap := s.heap.push { cls := .type "object", data := .plain } }) called_object typeCall_object_0 newCall_object_0 F.entry_object_new F.entry_object_init object_new_meets ⟨rfl, rfl⟩ fun obj s₁ hq => ?_
  obtain ⟨rfl, rfl⟩ := hq
  refine ⟨⟨_, Heap.get?_push_size _ rfl, rfl⟩, F.args_object_init_1 _, _, Meets.of_wp (S := fun A R s => R (.ok (.ret .none)) s) fun prog w A R s hs => ?_, rfl, h⟩
  exact wpAny_pure ⟨_, rfl, hs⟩
section
variable {C : Cx} {ρ : Loc} {cs : Own} {ss : List Stmt} {Φ : Out → Prop}
/-- a fresh object -/
theorem Ex.assignObj (G : Gd C) {x y : Str} {p p2 cp q : Pos} (hy : Glo C y (.type "object")) (k : ∀ a, Ex C ((x, .val (.ref a)) :: ρ) cs ss Φ) (hl : C.env.kindOf x = some .local) (hly : C.env.kindOf y = some .globalImplicit) (hd : (y == ("__debug__" : Str)) = false)
    (hs : swapsWith (.Call (.Name y p2) [] [] cp) (some (.Name x p)) q.line C.env = pure false := by rfl) : Ex C ρ cs (.Assign [.Name x p] (.Call (.Name y p2) [] [] cp) q :: ss) Φ := by
  refine Ex.assignAny G (fun z => ?_) k hl hs
  show Tr C ρ cs z (do PySem.callWith cp (← eval (.Name y p2) C.env) [] (backTo cp (starEach [] C.env)) []) _
  refine Tr.bind (Ev.glo G hy hly hd z) fun z1 v l1 r1 => ?_
  cases r1
  refine Tr.callWith (fun z' h _ _ _ => keeper_type h) EvA.nil fun z' vs l r s h0 hb hz => ?_
  cases r
  exact call_object (PostOp.push hz rfl ⟨_, rfl⟩)
end
end Mine
end

section
open PySem PySem.W PySem.Calls PyProof.Rows PySem.Builtin.Str PySem.SeqAt
set_option maxRecDepth 100000
namespace Mine
set_option linter.unusedVariables false
theorem pTranslate : Plain dTranslate.1 1 := .k1 rfl (fun _ _ _ _ _ => rfl) (by decide +kernel) rfl rfl rfl (by decide +kernel)
theorem c_translate {C : Cx} {P c : Addr} (G : Gd C) (K : Kn C) (hK : KS C) (T : TwK C P c) (R : Room C 2) {l0 : List Nat} {ls : List (List Nat)} (hne0 : l0 ≠ []) (hne : ∀ l ∈ ls, l ≠ []) {pat : List Nat} (hpat : pat = l0.flatMap bar ++ tailJ ls) (hsz : pat.length ≤ 1000000)
    (hrx : (rxOf (l0 :: ls)).length ≤ 1000000) (hps : ∀ st, (partsP st (l0 :: ls)).length ≤ 1000000) (hll : ∀ l ∈ l0 :: ls, l.length ≤ 1000000) :
    CallT C P "translate" [.str pat] (.str (rxOf (l0 :: ls))) := by
  refine CallT.def G R K.dTranslate pTranslate rfl fun L f cd => ?_
  have G' := G.call (x := "translate") (scope := dTranslate.1.2.2) (L := L) (f := f) (cd := cd) rfl
  have K' : Kn (C.call "translate" dTranslate.1.2.2 L f cd) := K.cast rfl rfl rfl
  have hK' : KS (C.call "translate" dTranslate.1.2.2 L f cd) := hK
  have T' : TwK (C.call "translate" dTranslate.1.2.2 L f cd) P c := ⟨T.df, T.hd, T.blt, T.gP, T.pat⟩
  have R' : Room (C.call "translate" dTranslate.1.2.2 L f cd) 1 := R.call
  refine Ex.doc G' ?_
  refine Ex.assignObj G' K'.object (fun st => ?_) rfl rfl rfl
  refine Ex.assign G' (Ev.callT G' (.head _) (a3 (eL G') (eL G' (d := .val (.ref st))) (eS [46])) (c_translateP G' K' hK' T' R' hne0 hne hpat hsz) rfl rfl) ?_ rfl
  exact Ex.ret (eC G' (a2 (eL G' (d := .list (partsP (.val (.ref st)) (l0 :: ls)))) (eL G' (d := .val (.ref st)))) (c_joinT G' K' (R'.le (Nat.zero_le _)) hne hrx (hps _) hll)) ⟨_, rfl, .head _⟩
end Mine
end

section
open PySem PySem.W PySem.Calls PyProof.Rows PySem.Builtin.Str PySem.SeqAt
set_option maxRecDepth 100000
namespace Mine
set_option linter.unusedVariables false
theorem spl_ne' (c : Nat) (l : List Nat) : ∃ h t, spl c l = h :: t := by
  cases q : spl c l with
  | nil => exact absurd q (by have := spl_sum c l; intro e; rw [e] at this; simp at this)
  | cons h t => exact ⟨h, t, rfl⟩
theorem spl_cut (c : Nat) (y : List Nat) : ∀ x : List Nat, spl c (x ++ c :: y) = spl c x ++ spl c y
  | [] => by show spl c (c :: y) = _; simp [spl]
  | a :: x => by
    have ih := spl_cut c y x
    show spl c (a :: (x ++ c :: y)) = _
    by_cases e : a = c
    · simp only [spl, e, if_true, ih]; rfl
    · obtain ⟨h, t, q⟩ := spl_ne' c x
      simp only [spl, e, if_false]
      rw [ih, q]; rfl
theorem spl_pre {c : Nat} {l h : List Nat} {t : List (List Nat)} (q : spl c l = h :: t) : ∀ {x : List Nat}, c ∉ x → spl c (x ++ l) = (x ++ h) :: t
  | [], _ => q
  | a :: x, hx => by
    have ha : a ≠ c := fun e => hx (by simp [e])
    have ih := spl_pre q (x := x) (fun e => hx (by simp [e]))
    show spl c (a :: (x ++ l)) = _
    simp only [spl, ha, if_false]
    rw [ih]; rfl
theorem spl_one {c : Nat} {x : List Nat} (h : c ∉ x) : spl c x = [x] := by
  have := spl_pre (c := c) (l := []) (h := []) (t := []) rfl h
  simpa using this
section
variable {t : Tab}
theorem dr_ne (T : TabOk t) (a : Nat) : dr t a ≠ [] := by
  unfold dr
  cases e : t.lookup a with
  | none => simp
  | some r => obtain ⟨m, h1, _⟩ := T.form _ (dr_mem e); simp only at h1; simp only [Option.getD_some]; rw [h1]; simp
theorem dr_free (T : PathTab t) {a : Nat} (h : a ≠ 47) : 47 ∉ dr t a := by
  unfold dr
  cases e : t.lookup a with
  | none => simpa using h.symm
  | some r => exact T.v47 _ (dr_mem e)
theorem spl_dress (T : PathTab t) : ∀ l : List Nat, spl 47 (dress t l) = (spl 47 l).map (dress t)
  | [] => rfl
  | a :: l => by
    have ih := spl_dress T l
    show spl 47 (dr t a ++ dress t l) = _
    obtain ⟨h, r, q⟩ := spl_ne' 47 l
    by_cases e : a = 47
    · rw [e, dr_self T.k47]
      have := spl_cut 47 (dress t l) []
      simp only [List.nil_append] at this
      rw [show ([47] ++ dress t l) = 47 :: dress t l from rfl, this, ih]
      simp [spl]; rfl
    · rw [q] at ih
      rw [spl_pre ih (dr_free T e)]
      simp only [spl, e, if_false, q]; rfl
theorem dress_dots (T : PathTab t) : ∀ {n : Nat} {c : List Nat}, dress t c = List.replicate n 46 → c = List.replicate n 46
  | 0, [], _ => rfl
  | n, a :: c, h => by
    have h : dr t a ++ dress t c = List.replicate n 46 := h
    cases n with
    | zero => exact absurd (List.append_eq_nil_iff.mp h).1 (dr_ne T.ok a)
    | succ n =>
      have ha : a = 46 ∧ dr t a = [a] := by
        unfold dr at h ⊢
        cases e : t.lookup a with
        | none => rw [e] at h; simp [List.replicate_succ] at h; exact ⟨h.1, rfl⟩
        | some r =>
          rw [e] at h
          obtain ⟨m, h1, _⟩ := T.ok.form _ (dr_mem e)
          simp only at h1
          simp only [Option.getD_some] at h
          rw [h1] at h
          simp [List.replicate_succ] at h
      rw [ha.2, ha.1] at h
      have h2 : dress t c = List.replicate n 46 := by simpa [List.replicate_succ] using h
      rw [ha.1, dress_dots T h2]; rfl
  | n + 1, [], h => by cases h
theorem dress_same (T : PathTab t) (n : Nat) : dress t (List.replicate n 46) = List.replicate n 46 := by
  induction n with
  | zero => rfl
  | succ n ih => rw [List.replicate_succ]; show dr t 46 ++ dress t _ = _; rw [dr_self T.k46, ih]; rfl
theorem dress_iff (T : PathTab t) (n : Nat) (c : List Nat) : dress t c = List.replicate n 46 ↔ c = List.replicate n 46 := ⟨dress_dots T, fun e => e ▸ dress_same T n⟩
theorem npStep_dress (T : PathTab t) (init : Bool) (acc : List (List Nat)) (c : List Nat) : npStep init (acc.map (dress t)) (dress t c) = (npStep init acc c).map (dress t) := by
  have i0 : dress t c = [] ↔ c = [] := dress_iff T 0 c
  have i1 : dress t c = [46] ↔ c = [46] := dress_iff T 1 c
  have i2 : dress t c = [46, 46] ↔ c = [46, 46] := dress_iff T 2 c
  have i3 : (acc.map (dress t)).getLast? = some [46, 46] ↔ acc.getLast? = some [46, 46] := by
    rw [List.getLast?_map]
    cases acc.getLast? with
    | none => simp
    | some x => simp only [Option.map_some, Option.some.injEq]; exact dress_iff T 2 x
  have i4 : acc.map (dress t) = [] ↔ acc = [] := List.map_eq_nil_iff
  unfold npStep
  simp only [i0, i1, i2, i3, i4, ne_eq]
  split
  · rfl
  · split
    · simp
    · simp [List.map_dropLast]
theorem npRun_dress (T : PathTab t) (init : Bool) (cs : List (List Nat)) : npRun init (cs.map (dress t)) = (npRun init cs).map (dress t) := by
  unfold npRun
  have : ∀ (cs acc : List (List Nat)), (cs.map (dress t)).foldl (npStep init) (acc.map (dress t)) = (cs.foldl (npStep init) acc).map (dress t) := by
    intro cs
    induction cs with
    | nil => intro acc; rfl
    | cons c cs ih => intro acc; rw [List.map_cons, List.foldl_cons, npStep_dress T, ih, List.foldl_cons]
  exact this cs []
theorem jn_dress (T : PathTab t) : ∀ l : List (List Nat), jn [47] (l.map (dress t)) = dress t (jn [47] l)
  | [] => rfl
  | [x] => rfl
  | x :: y :: l => by
    have ih := jn_dress T (y :: l)
    show dress t x ++ [47] ++ jn [47] ((y :: l).map (dress t)) = dress t (x ++ [47] ++ jn [47] (y :: l))
    rw [ih, dress_append, dress_append]
    congr 2
    show [47] = dr t 47 ++ []
    rw [dr_self T.k47]; rfl
/-- the root and the rest -/
def rt : List Nat → List Nat × List Nat
  | [] => ([], [])
  | a :: r => if a = 47 then match r with
    | [] => ([47], [])
    | b :: r' => if b = 47 then match r' with
      | [] => ([47, 47], [])
      | c :: r'' => if c = 47 then ([47], b :: c :: r'') else ([47, 47], c :: r'')
      else ([47], b :: r')
    else ([], a :: r)
theorem xRoot_eq (p : List Nat) : xRoot p = rt p := by
  have h1 : ∀ p : List Nat, pyCut none (some (1 : Int)) p = p.take 1 := fun p => cut_take p 1
  have h2 : ∀ p : List Nat, pyCut (some (1 : Int)) (some (2 : Int)) p = (p.drop 1).take 1 := fun p => cut_mid p 1 2
  have h3 : ∀ p : List Nat, pyCut (some (2 : Int)) (some (3 : Int)) p = (p.drop 2).take 1 := fun p => cut_mid p 2 3
  have h4 : ∀ p : List Nat, pyCut (some (1 : Int)) none p = p.drop 1 := fun p => cut_drop p 1
  have h5 : ∀ p : List Nat, pyCut none (some (2 : Int)) p = p.take 2 := fun p => cut_take p 2
  have h6 : ∀ p : List Nat, pyCut (some (2 : Int)) none p = p.drop 2 := fun p => cut_drop p 2
  unfold xRoot
  rw [h1, h2, h3, h4, h5, h6]
  match p with
  | [] => simp [rt]
  | [a] => by_cases ea : a = 47 <;> simp [rt, ea]
  | [a, b] => by_cases ea : a = 47 <;> by_cases eb : b = 47 <;> simp [rt, ea, eb]
  | a :: b :: c :: r => by_cases ea : a = 47 <;> by_cases eb : b = 47 <;> by_cases ec : c = 47 <;> simp [rt, ea, eb, ec]
theorem rt_dress {t : Tab} (T : PathTab t) (p : List Nat) : rt (dress t p) = ((rt p).1, dress t (rt p).2) := by
  have d0 : dress t [] = [] := rfl
  have dc : ∀ a r, dress t (a :: r) = dr t a ++ dress t r := fun _ _ => rfl
  have d47 : ∀ r, dress t (47 :: r) = 47 :: dress t r := fun r => by rw [dc, dr_self T.k47]; rfl
  have hd : ∀ a r, a ≠ 47 → ∃ b s, b ≠ 47 ∧ dress t (a :: r) = b :: s := fun a r h => by
    have h1 := dr_ne T.ok a
    have h2 := dr_free T h
    rw [dc]
    cases e : dr t a with
    | nil => exact absurd e h1
    | cons b s => exact ⟨b, s ++ dress t r, fun q => h2 (by rw [e]; simp [q]), rfl⟩
  cases p with
  | nil => simp [rt, d0]
  | cons a r =>
    by_cases ea : a = 47
    · subst ea
      rw [d47]
      cases r with
      | nil => simp [rt, d0]
      | cons b r =>
        by_cases eb : b = 47
        · subst eb
          rw [d47]
          cases r with
          | nil => simp [rt, d0]
          | cons c r =>
            by_cases ec : c = 47
            · subst ec; simp [rt, d47]
            · obtain ⟨x, s, h1, h2⟩ := hd c r ec
              rw [h2]; simp [rt, h1, ec, h2]
        · obtain ⟨x, s, h1, h2⟩ := hd b r eb
          rw [h2]; simp [rt, h1, eb, h2]
    · obtain ⟨x, s, h1, h2⟩ := hd a r ea
      rw [h2]; simp [rt, h1, ea, h2]
theorem xNorm_dress {t : Tab} (T : PathTab t) (p : List Nat) : xNorm (dress t p) = dress t (xNorm p) := by
  have i0 : ∀ c, dress t c = [] ↔ c = [] := dress_iff T 0
  have i1 : dress t [46] = [46] := dress_same T 1
  have h47 : dress t [47] = [47] := by show dr t 47 ++ [] = _; rw [dr_self T.k47]; rfl
  unfold xNorm
  simp only [i0, xRoot_eq, rt_dress T]
  split
  · exact i1.symm
  · have hr : (rt p).1 = [] ∨ (rt p).1 = [47] ∨ (rt p).1 = [47, 47] := by
      match p with
      | [] => simp [rt]
      | [a] => by_cases ea : a = 47 <;> simp [rt, ea]
      | [a, b] => by_cases ea : a = 47 <;> by_cases eb : b = 47 <;> simp [rt, ea, eb]
      | a :: b :: c :: r => by_cases ea : a = 47 <;> by_cases eb : b = 47 <;> by_cases ec : c = 47 <;> simp [rt, ea, eb, ec]
    have hd : dress t (rt p).1 = (rt p).1 := by
      rcases hr with e | e | e <;> rw [e]
      · rfl
      · exact h47
      · show dr t 47 ++ (dr t 47 ++ []) = _; rw [dr_self T.k47]; rfl
    rw [spl_dress T, npRun_dress T, jn_dress T]
    have hx : (rt p).1 ++ dress t (jn [47] (npRun (!(rt p).1.isEmpty) (spl 47 (rt p).2))) = dress t ((rt p).1 ++ jn [47] (npRun (!(rt p).1.isEmpty) (spl 47 (rt p).2))) := by rw [dress_append, hd]
    rw [hx]
    simp only [i0]
    split
    · exact i1.symm
    · rfl
end
end Mine
end

section
open PySem PySem.W PySem.Calls PyProof.Rows PySem.Builtin.Str PySem.SeqAt
set_option maxRecDepth 100000
namespace Mine
set_option linter.unusedVariables false
theorem tabA : PathTab tA := ⟨⟨by decide, by decide, by decide, by decide, fun p hp => by
  simp only [tA, List.mem_cons, List.not_mem_nil, or_false] at hp
  rcases hp with rfl | rfl | rfl
  · exact ⟨[97, 109, 112], rfl, by decide⟩
  · exact ⟨[108, 116], rfl, by decide⟩
  · exact ⟨[103, 116], rfl, by decide⟩⟩, by decide, by decide, by decide, by decide⟩
theorem tabB : PathTab tB := ⟨⟨by decide, by decide, by decide, by decide, fun p hp => by
  simp only [tB, List.mem_cons, List.not_mem_nil, or_false] at hp
  rcases hp with rfl | rfl | rfl | rfl | rfl | rfl | rfl
  · exact ⟨[97, 109, 112], rfl, by decide⟩
  · exact ⟨[108, 116], rfl, by decide⟩
  · exact ⟨[103, 116], rfl, by decide⟩
  · exact ⟨[113, 117, 111, 116], rfl, by decide⟩
  · exact ⟨[35, 49, 51], rfl, by decide⟩
  · exact ⟨[35, 49, 48], rfl, by decide⟩
  · exact ⟨[35, 48, 57], rfl, by decide⟩⟩, by decide, by decide, by decide, by decide⟩
theorem tabC : PathTab tC := ⟨⟨by decide, by decide, by decide, by decide, fun p hp => by
  simp only [tC, List.mem_cons, List.not_mem_nil, or_false] at hp
  rcases hp with rfl | rfl | rfl
  · exact ⟨[97, 109, 112], rfl, by decide⟩
  · exact ⟨[103, 116], rfl, by decide⟩
  · exact ⟨[113, 117, 111, 116], rfl, by decide⟩⟩, by decide, by decide, by decide, by decide⟩
theorem tabD' : PathTab tD := ⟨⟨by decide, by decide, by decide, by decide, fun p hp => by
  simp only [tD, List.mem_cons, List.not_mem_nil, or_false] at hp
  rcases hp with rfl | rfl | rfl | rfl
  · exact ⟨[97, 109, 112], rfl, by decide⟩
  · exact ⟨[108, 116], rfl, by decide⟩
  · exact ⟨[103, 116], rfl, by decide⟩
  · exact ⟨[35, 120, 68], rfl, by decide⟩⟩, by decide, by decide, by decide, by decide⟩
theorem tabE : PathTab tE := ⟨⟨by decide, by decide, by decide, by decide, fun p hp => by
  simp only [tE, List.mem_cons, List.not_mem_nil, or_false] at hp
  rcases hp with rfl | rfl | rfl | rfl | rfl | rfl
  · exact ⟨[97, 109, 112], rfl, by decide⟩
  · exact ⟨[108, 116], rfl, by decide⟩
  · exact ⟨[113, 117, 111, 116], rfl, by decide⟩
  · exact ⟨[35, 120, 68], rfl, by decide⟩
  · exact ⟨[35, 120, 65], rfl, by decide⟩
  · exact ⟨[35, 120, 57], rfl, by decide⟩⟩, by decide, by decide, by decide, by decide⟩
/-- a plain name -/
structure PlainOk (x : List Nat) : Prop where
  ne : x ≠ []
  no47 : 47 ∉ x
  n1 : x ≠ [46]
  n2 : x ≠ [46, 46]
theorem WyOk.nameOk {w : Wy} {m : Nat} (h : WyOk w m) (hm : m ≤ 20) {nm : List (List Nat)} (hn : nm ∈ w.names) : NameOk nm :=
  ⟨h.names nm hn, by have := (h.nm hn).1; (first | lia | omega)⟩
theorem NameOk.plain {nm : List (List Nat)} (h : NameOk nm) : PlainOk nm.flatten := by
  obtain ⟨_, _, _, _, _, _, a, b, c, d⟩ := name_parts tabA h
  refine ⟨fun q => a (by rw [q]; rfl), fun q => b ?_, fun q => c ((dress_iff tabA 1 _).mpr q), fun q => d ((dress_iff tabA 2 _).mpr q)⟩
  exact List.mem_flatMap.mpr ⟨47, q, by rw [dr_self tabA.k47]; simp⟩
theorem npStep_skip (init : Bool) (S : List (List Nat)) : npStep init S [] = S ∧ npStep init S [46] = S := by simp [npStep]
theorem npStep_push {init : Bool} {S : List (List Nat)} {x : List Nat} (h0 : x ≠ []) (h1 : x ≠ [46]) (h2 : x ≠ [46, 46]) : npStep init S x = S ++ [x] := by simp [npStep, h0, h1, h2]
theorem npStep_pop (init : Bool) {S : List (List Nat)} {x : List Nat} (h2 : x ≠ [46, 46]) : npStep init (S ++ [x]) [46, 46] = S := by simp [npStep, h2]
theorem crk_run {x : List Nat} (h : PlainOk x) {k : Nat} (hk : k < 6) (init : Bool) (S : List (List Nat)) :
    (spl 47 ((crk x).getD k [])).foldl (npStep init) S = S ++ [x] ∧ ((crk x).getD k []).head? ≠ some 47 ∧ (crk x).getD k [] ≠ [] := by
  have hx := spl_one h.no47
  have px := fun S => npStep_push (init := init) (S := S) h.ne h.n1 h.n2
  obtain ⟨a, r, e⟩ := List.exists_cons_of_ne_nil h.ne
  have ha : a ≠ 47 := fun q => h.no47 (by rw [e]; simp [q])
  have hcut := spl_cut 47
  match k, hk with
  | 0, _ =>
    refine ⟨?_, ?_, ?_⟩
    · show (spl 47 x).foldl _ _ = _; rw [hx]; exact px S
    · show x.head? ≠ _; rw [e]; simpa using ha
    · exact h.ne
  | 1, _ =>
    refine ⟨?_, by show some 46 ≠ _; decide, by show _ :: _ ≠ _; simp⟩
    show (spl 47 ([46] ++ 47 :: x)).foldl _ _ = _
    rw [hcut, hx]
    show npStep init (npStep init S [46]) x = _
    rw [(npStep_skip init S).2, px]
  | 2, _ =>
    refine ⟨?_, by show some 98 ≠ _; decide, by show _ :: _ ≠ _; simp⟩
    show (spl 47 ([98] ++ 47 :: ([46, 46] ++ 47 :: x))).foldl _ _ = _
    rw [hcut, hcut, hx]
    show npStep init (npStep init (npStep init S [98]) [46, 46]) x = _
    rw [npStep_push (x := [98]) (by simp) (by simp) (by simp), npStep_pop init (by simp), px]
  | 3, _ =>
    refine ⟨?_, ?_, by show _ ++ _ ≠ _; simp⟩
    · show (spl 47 (x ++ 47 :: [])).foldl _ _ = _
      rw [hcut, hx]
      show npStep init (npStep init S x) [] = _
      rw [px, (npStep_skip init _).1]
    · show (x ++ _).head? ≠ _; rw [e]; simpa using ha
  | 4, _ =>
    refine ⟨?_, ?_, by show _ ++ _ ≠ _; simp⟩
    · show (spl 47 (x ++ 47 :: ([] ++ 47 :: [46]))).foldl _ _ = _
      rw [hcut, hcut, hx]
      show npStep init (npStep init (npStep init S x) []) [46] = _
      rw [px, (npStep_skip init _).1, (npStep_skip init _).2]
    · show (x ++ _).head? ≠ _; rw [e]; simpa using ha
  | 5, _ =>
    refine ⟨?_, by show some 46 ≠ _; decide, by show _ :: _ ≠ _; simp⟩
    have : (crk x).getD 5 [] = [46] ++ 47 :: ([] ++ 47 :: (x ++ 47 :: ([38] ++ 47 :: [46, 46]))) := by simp [crk]
    rw [this, hcut, hcut, hcut, hcut, hx]
    show npStep init (npStep init (npStep init (npStep init (npStep init S [46]) []) x) [38]) [46, 46] = _
    rw [(npStep_skip init _).2, (npStep_skip init _).1, px, npStep_push (x := [38]) (by simp) (by simp) (by simp), npStep_pop init (by simp)]
/-- the path under the root -/
structure PathIs (root : List Nat) (S : List (List Nat)) (p : List Nat) : Prop where
  ex : ∃ q, p = root ++ q ∧ q.head? ≠ some 47 ∧ npRun (!root.isEmpty) (spl 47 q) = S
theorem jStep_is {root p b : List Nat} {S : List (List Nat)} (hr : root = [] ∨ root = [47] ∨ root = [47, 47]) (h : PathIs root S p) (hb : b ≠ []) (hb2 : b.head? ≠ some 47) :
    PathIs root ((spl 47 b).foldl (npStep (!root.isEmpty)) S) (jStep p b) := by
  obtain ⟨q, rfl, hq, rfl⟩ := h.ex
  have hb3 : (b.head? == some 47) = false := by simpa using hb2
  rcases List.eq_nil_or_concat q with rfl | ⟨q', a, rfl⟩
  · have hS : npRun (!root.isEmpty) (spl 47 []) = [] := by simp [npRun, spl, npStep]
    rw [hS]
    have : jStep (root ++ []) b = root ++ b := by
      rcases hr with rfl | rfl | rfl <;> simp [jStep, hb3]
    rw [this]
    exact ⟨b, rfl, hb2, rfl⟩
  · have hne : (root ++ q'.concat a).isEmpty = false := by simp
    have hlast : (root ++ q'.concat a).getLast? = some a := by rw [List.concat_eq_append, ← List.append_assoc]; simp
    by_cases ha : a = 47
    · subst ha
      have : jStep (root ++ q'.concat 47) b = root ++ (q' ++ 47 :: b) := by
        unfold jStep; rw [hb3, hne, hlast]; simp
      rw [this]
      refine ⟨_, rfl, ?_, ?_⟩
      · intro e; apply hq; rw [List.concat_eq_append]; cases q' with
        | nil => rfl
        | cons x q' => simpa using e
      · rw [List.concat_eq_append, spl_cut, spl_cut]
        show (spl 47 q' ++ spl 47 b).foldl _ _ = (spl 47 b).foldl _ ((spl 47 q' ++ [[]]).foldl _ _)
        rw [List.foldl_append, List.foldl_append]
        congr 1
    · have : jStep (root ++ q'.concat a) b = root ++ (q'.concat a ++ 47 :: b) := by
        unfold jStep; rw [hb3, hne, hlast]; simp [ha]
      rw [this]
      refine ⟨_, rfl, ?_, ?_⟩
      · intro e; apply hq; cases q' with
        | nil => simpa using e
        | cons x q' => simpa using e
      · rw [spl_cut]
        unfold npRun
        rw [List.foldl_append]
theorem spells_is {root : List Nat} (hr : root = [] ∨ root = [47] ∨ root = [47, 47]) : ∀ (names : List (List (List Nat))) (crooks : List Int) (S : List (List Nat)) (p : List Nat), crooks.length = names.length → (∀ nm ∈ names, NameOk nm) → (∀ c ∈ crooks, 0 ≤ c ∧ c < 6) → PathIs root S p →
    PathIs root (S ++ names.map List.flatten) ((spells names crooks).foldl jStep p)
  | [], [], S, p, _, _, _, h => by simpa [spells] using h
  | nm :: names, c :: crooks, S, p, hl, hn, hc, h => by
    obtain ⟨c0, c6⟩ := hc c (by simp)
    obtain ⟨h1, h2, h3⟩ := crk_run (hn nm (by simp)).plain (k := c.toNat) (by (first | lia | omega)) (!root.isEmpty) S
    have hs := jStep_is hr h h3 h2
    rw [h1] at hs
    have := spells_is hr names crooks _ _ (by simpa using hl) (fun x hx => hn x (by simp [hx])) (fun x hx => hc x (by simp [hx])) hs
    simpa [spells, spell] using this
theorem ups_run : ∀ (n k : Nat), (spl 47 (List.replicate n [46, 46, 47]).flatten).foldl (npStep false) (List.replicate k [46, 46]) = List.replicate (k + n) [46, 46]
  | 0, k => by simp [spl, npStep]
  | n + 1, k => by
    rw [List.replicate_succ, List.flatten_cons]
    have : [46, 46, 47] ++ (List.replicate n [46, 46, 47]).flatten = [46, 46] ++ 47 :: (List.replicate n [46, 46, 47]).flatten := rfl
    rw [this, spl_cut]
    show List.foldl _ (npStep false (List.replicate k [46, 46]) [46, 46]) (spl 47 (List.replicate n [46, 46, 47]).flatten) = _
    have : npStep false (List.replicate k [46, 46]) [46, 46] = List.replicate (k + 1) [46, 46] := by
      cases k with
      | zero => rfl
      | succ k =>
        rw [List.replicate_succ' (n := k + 1)]
        simp [npStep, List.getLast?_replicate]
    rw [this, ups_run n (k + 1)]
    congr 1; (first | lia | omega)
theorem ups_head (n : Nat) : (List.replicate n [46, 46, 47]).flatten.head? ≠ some 47 := by
  cases n with
  | zero => simp
  | succ n => rw [List.replicate_succ]; simp
theorem spelled_is {w : Wy} {m : Nat} (h : WyOk w m) (hm : m ≤ 20) : PathIs w.root (List.replicate w.ups [46, 46] ++ w.names.map List.flatten) (xSpelled w) := by
  refine spells_is h.root _ _ _ _ h.lens (fun nm hn => h.nameOk hm hn) h.crooks ⟨_, rfl, ups_head _, ?_⟩
  by_cases e : w.root = []
  · rw [e]
    have := ups_run w.ups 0
    rw [Nat.zero_add] at this
    exact this
  · rw [h.ups e]; simp [spl, npRun, npStep]
theorem rt_of {root q : List Nat} (hr : root = [] ∨ root = [47] ∨ root = [47, 47]) (h : q.head? ≠ some 47) : rt (root ++ q) = (root, q) := by
  cases q with
  | nil => rcases hr with rfl | rfl | rfl <;> rfl
  | cons a q =>
    have : a ≠ 47 := fun e => h (by rw [e]; rfl)
    rcases hr with rfl | rfl | rfl <;> simp [rt, this]
theorem jn_nonnil : ∀ {l : List (List Nat)}, (∀ x ∈ l, x ≠ []) → l ≠ [] → jn [47] l ≠ []
  | [x], h, _ => h x (by simp)
  | x :: y :: l, h, _ => by show x ++ [47] ++ _ ≠ []; simp
theorem xNorm_spelled {w : Wy} {m : Nat} (h : WyOk w m) (hm : m ≤ 20) : xNorm (xSpelled w) = w.root ++ jn [47] (comps0 [] w.root w.ups w.names) := by
  obtain ⟨q, hp, hq, hS⟩ := (spelled_is h hm).ex
  have hc : comps [] w.ups w.names = List.replicate w.ups [46, 46] ++ w.names.map List.flatten := by simp [comps, dress_nil]
  have hne : ∀ x ∈ comps [] w.ups w.names, x ≠ [] := fun x hx => by
    rw [hc] at hx
    rcases List.mem_append.mp hx with q | q
    · obtain ⟨_, rfl⟩ := List.mem_replicate.mp q; simp
    · obtain ⟨nm, hn, rfl⟩ := List.mem_map.mp q
      exact (h.nameOk hm hn).plain.ne
  unfold xNorm
  rw [xRoot_eq, hp, rt_of h.root hq]
  simp only [hS, ← hc]
  by_cases e : w.root = [] ∧ comps [] w.ups w.names = []
  · have : comps0 [] w.root w.ups w.names = [[46]] := by unfold comps0; rw [if_pos e]
    rw [this, e.1, e.2]
    simp [jn]
  · have : comps0 [] w.root w.ups w.names = comps [] w.ups w.names := by unfold comps0; rw [if_neg e]
    rw [this]
    have hr : w.root ++ jn [47] (comps [] w.ups w.names) ≠ [] := by
      intro q
      obtain ⟨a, b⟩ := List.append_eq_nil_iff.mp q
      exact jn_nonnil hne (fun k => e ⟨a, k⟩) b
    rw [if_neg hr, if_neg]
    intro q0
    obtain ⟨a, b⟩ := List.append_eq_nil_iff.mp q0
    apply e
    refine ⟨a, ?_⟩
    rw [hc, ← hS, b, a]; simp [npRun, spl, npStep]
/-- how the shown path is built -/
theorem comps_dress (t : Tab) (T : PathTab t) (ups : Nat) (names : List (List (List Nat))) : (comps [] ups names).map (dress t) = comps t ups names := by
  simp [comps, dress_nil, List.map_replicate]
  rw [show dress t [46, 46] = [46, 46] from dress_same T 2]; rfl
theorem xShown {t : Tab} (T : PathTab t) {w : Wy} {m : Nat} (h : WyOk w m) (hm : m ≤ 20) : xNorm (dress t (xSpelled w)) = w.root ++ jn [47] (comps0 t w.root w.ups w.names) ∧ dress t (xNorm (xSpelled w)) = w.root ++ jn [47] (comps0 t w.root w.ups w.names) := by
  have key : dress t (xNorm (xSpelled w)) = w.root ++ jn [47] (comps0 t w.root w.ups w.names) := by
    rw [xNorm_spelled h hm, dress_append, ← jn_dress T]
    have hr : dress t w.root = w.root := by
      have h47 : dr t 47 = [47] := dr_self T.k47
      rcases h.root with e | e | e <;> rw [e]
      · rfl
      · show dr t 47 ++ [] = _; rw [h47]; rfl
      · show dr t 47 ++ (dr t 47 ++ []) = _; rw [h47]; rfl
    rw [hr]
    congr 2
    unfold comps0
    rw [← comps_dress t T]
    simp only [List.map_eq_nil_iff]
    split
    · show [dress t [46]] = _; rw [show dress t [46] = [46] from dress_same T 1]
    · rfl
  exact ⟨by rw [xNorm_dress T, key], key⟩
end Mine
end

section
open PySem PySem.W PySem.Calls PyProof.Rows PySem.Builtin.Str PySem.SeqAt
set_option maxRecDepth 100000
namespace Mine
set_option linter.unusedVariables false
/-- the path as it is shown -/
def sh (t : Tab) (w : Wy) : List Nat := w.root ++ jn [47] (comps0 t w.root w.ups w.names)
theorem root_len {w : Wy} {m : Nat} (h : WyOk w m) : w.root.length ≤ 2 := by
  rcases h.root with e | e | e <;> rw [e] <;> decide
theorem spelled_len {w : Wy} {m : Nat} (h : WyOk w m) : (xSpelled w).length ≤ 2 + 18 * m := by
  have h1 := foldl_jStep_len (spells w.names w.crooks) (w.root ++ (List.replicate w.ups [46, 46, 47]).flatten)
  have h2 := spells_sum (m := m) w.names w.crooks
  have hr := root_len h
  have hfl : (List.replicate w.ups [46, 46, 47]).flatten.length = 3 * w.ups := by
    rw [List.length_flatten, List.map_replicate, sum_rep]; show w.ups * 3 = _; (first | lia | omega)
  have hc := h.count
  have hs := h.size
  rw [List.length_append, hfl] at h1
  unfold xSpelled
  (first | lia | omega)
theorem dressed_sum {t : Tab} (T : ∀ p ∈ t, p.2.length ≤ 6) : ∀ names : List (List (List Nat)), ((names.map fun nm => dress t nm.flatten).map fun y => y.length + 1).sum ≤ 6 * (names.map fun nm => nm.flatten.length).sum + names.length
  | [] => by simp
  | nm :: names => by
    have ih := dressed_sum T names
    have h1 := dress_length T nm.flatten
    simp only [List.map_cons, List.sum_cons, List.length_cons] at ih ⊢
    (first | lia | omega)
theorem sh_len {t : Tab} (T : ∀ p ∈ t, p.2.length ≤ 6) {w : Wy} {m : Nat} (h : WyOk w m) : (sh t w).length ≤ 4 + 40 * m := by
  have hr := root_len h
  have hc := h.count
  have hs := h.size
  have hj := jn_length 47 (comps0 t w.root w.ups w.names)
  unfold sh
  rw [List.length_append]
  unfold comps0 at hj ⊢
  split at hj
  · rename_i q
    rw [if_pos q] at ⊢
    simp at hj ⊢
    (first | lia | omega)
  · rename_i q
    rw [if_neg q] at ⊢
    have hd := dressed_sum T w.names
    have : ((comps t w.ups w.names).map fun y => y.length + 1).sum ≤ 3 * w.ups + (6 * (w.names.map fun nm => nm.flatten.length).sum + w.names.length) := by
      unfold comps
      rw [List.map_append, List.sum_append, List.map_replicate, sum_rep]
      simp only [List.length_cons, List.length_nil]
      (first | lia | omega)
    (first | lia | omega)
theorem sh_ne {t : Tab} (T : PathTab t) {w : Wy} {m : Nat} (h : WyOk w m) (hm : m ≤ 20) : sh t w ≠ [] := by
  intro q
  obtain ⟨a, b⟩ := List.append_eq_nil_iff.mp q
  have hp := comps0_ok T (root := w.root) (ups := w.ups) (fun nm hn => h.nameOk hm hn)
  have := (jn_nil_iff hp).mp b
  unfold comps0 at this
  split at this
  · cases this
  · rename_i w'; exact w' ⟨a, this⟩
theorem jn_bar : ∀ (ls : List (List Nat)) (l0 : List Nat), jn [42] ((l0 :: ls).map fun l => l.flatMap bar) = l0.flatMap bar ++ tailJ ls
  | [], l0 => by simp [jn, tailJ]
  | l :: ls, l0 => by
    have ih := jn_bar ls l
    show l0.flatMap bar ++ [42] ++ jn [42] ((l :: ls).map fun l => l.flatMap bar) = _
    rw [ih]
    simp [tailJ]
theorem bar_len (l : List Nat) : (l.flatMap bar).length ≤ 3 * l.length := by
  induction l with
  | nil => simp
  | cons c l ih =>
    rw [List.flatMap_cons, List.length_append, List.length_cons]
    have : (bar c).length ≤ 3 := by unfold bar; split <;> simp
    (first | lia | omega)
theorem tailJ_len {N : Nat} : ∀ ls : List (List Nat), (∀ l ∈ ls, l.length ≤ N) → (tailJ ls).length ≤ ls.length * (3 * N + 1)
  | [], _ => by simp [tailJ]
  | l :: ls, h => by
    have ih := tailJ_len ls fun l hl => h l (.tail _ hl)
    have h1 := bar_len l
    have h2 := h l (.head _)
    unfold tailJ at ih ⊢
    rw [List.flatMap_cons, List.length_append, List.length_cons, List.length_cons, Nat.succ_mul]
    (first | lia | omega)
theorem tailB_len {N : Nat} : ∀ ls : List (List Nat), (∀ l ∈ ls, l.length ≤ N) → (tailB ls).length ≤ ls.length * (4 * N + 7)
  | [], _ => by simp [tailB]
  | [l], h => by
    have h1 := flat_len l
    have h2 := h l (.head _)
    simp only [tailB, List.length_append, List.length_cons, List.length_nil]
    (first | lia | omega)
  | l :: l' :: ls, h => by
    have ih := tailB_len (l' :: ls) fun l hl => h l (.tail _ hl)
    have h1 := flat_len l
    have h2 := h l (.head _)
    rw [List.length_cons, Nat.succ_mul]
    simp only [tailB, opn, List.length_append, List.length_cons, List.length_nil] at ih ⊢
    (first | lia | omega)
theorem rxOf_len {N : Nat} {l0 : List Nat} {ls : List (List Nat)} (h0 : l0.length ≤ N) (h : ∀ l ∈ ls, l.length ≤ N) : (rxOf (l0 :: ls)).length ≤ (ls.length + 1) * (4 * N + 7) := by
  have h1 := flat_len l0
  have h2 := tailB_len ls h
  unfold rxOf
  simp only [List.length_append, List.length_cons, List.length_nil]
  rw [Nat.succ_mul]
  (first | lia | omega)
theorem tailP_len {N : Nat} {st : D} : ∀ ls : List (List Nat), (∀ l ∈ ls, l.length ≤ N) → (tailP st ls).length ≤ ls.length * (N + 1)
  | [], _ => by simp [tailP]
  | l :: ls, h => by
    have ih := tailP_len (st := st) ls fun l hl => h l (.tail _ hl)
    have h2 := h l (.head _)
    rw [List.length_cons, Nat.succ_mul]
    simp only [tailP, List.length_append, List.length_cons, List.length_map]
    (first | lia | omega)
theorem partsP_len {N : Nat} {st : D} {l0 : List Nat} {ls : List (List Nat)} (h0 : l0.length ≤ N) (h : ∀ l ∈ ls, l.length ≤ N) : (partsP st (l0 :: ls)).length ≤ (ls.length + 1) * (N + 1) := by
  have h2 := tailP_len (st := st) ls h
  rw [Nat.succ_mul]
  simp only [partsP]
  rw [List.length_append, List.length_map]
  have : (partsP st (l0 :: ls)) = l0.map chD ++ tailP st ls := rfl
  (first | lia | omega)
end Mine
end

section
open PySem PySem.W PySem.Calls PyProof.Rows PySem.Builtin.Str PySem.SeqAt
set_option maxRecDepth 100000
namespace Mine
set_option linter.unusedVariables false
/-! a frame with cells -/
abbrev Cx.callC (C : Cx) (x : Str) (scope : Scope) (L f : Addr) (cd : Value) : Cx := { C with A := C.A.deeper (envOfC x scope L f cd), env := envOfC x scope L f cd }
theorem Gd.callC {C : Cx} (G : Gd C) {x : Str} {scope : Scope} {L f : Addr} {cd : Value} (hk : scope.kind = .function) : Gd (C.callC x scope L f cd) :=
  ⟨G.g, G.b, G.nolimit, G.hh, hk, rfl, rfl, G.sm⟩
theorem Room.callC {C : Cx} {n : Nat} (h : Room C (n + 1)) {x : Str} {scope : Scope} {L f : Addr} {cd : Value} : Room (C.callC x scope L f cd) n := by
  obtain ⟨a, b⟩ := h
  refine ⟨?_, ?_⟩
  · show C.A.depth + 1 + n < 900; (first | lia | omega)
  · show C.A.units + 3 + 4 * n < 9000; (first | lia | omega)
theorem call_cellsT {prog : Program} {w : World} {A : Around} {R : Result → Shared → Prop} {s : Shared} {name : Str} {params : Arguments} {body : List Stmt} {scope : Scope}
    {pm cd doc : Value} {a : Addr} {o : Obj} {args : List Value} {binds : List (Str × Value)}
    (hroom : A.depth < recursionLimit) (ho : s.heap.get? a = some o) (hdata : o.data = .func (Calls.docDef name params body scope pm cd doc)) (hlim : s.heap.NoLimit) (hcd : s.heap.CodeRec cd name)
    (hbind : bindArgs (Calls.docDef name params body scope pm cd doc) ⟨args, []⟩ = pure binds)
    (hkind : ∀ x ∈ binds, scope.names.lookup x.1 = some .local ∨ (scope.names.lookup x.1 = some .cell ∧ ((cellsFrom (s.heap.objs.size + 1) scope.names []).lookup x.1).isSome = true))
    (h : ∀ h₁ tk, s.toks ≤ tk → Fr s.heap s.heap.objs.size h₁ (bindL (envOfC name scope s.heap.objs.size a cd).kindOf binds fun _ => none) →
      Cl s.heap.objs.size (cellsFrom (s.heap.objs.size + 1) scope.names []) h₁ (bindC (envOfC name scope s.heap.objs.size a cd).kindOf binds fun _ => none) →
      wpAny (model prog w) (A.deeper (envOfC name scope s.heap.objs.size a cd)) (execs body (envOfC name scope s.heap.objs.size a cd))
        (fun f s' => R (.ok (.ret (match f with | .ret v => v | _ => .none))) s') (fun _ _ => False) { s with heap := h₁, toks := tk })
    (hco : scope.isCoroutine = false) (hgen : scope.isGenerator = false) (hk : scope.kind = .function) :
    codeAny (model prog w) A (.call (.ref a) ⟨args, []⟩) R s := by
  refine codeAny_call_function (fd := Calls.docDef name params body scope pm cd doc) hroom ho hdata hco hgen rfl hcd ?_
  rw [hbind]
  refine wpAny_pure (wpAny_with_toks (Nat.le_refl _) (wpAny_newFunctionEnv_cells hk hkind fun env he s₁ X ht => ?_))
  subst he
  refine ⟨hlim.keeps X.toInCall.keep, codeAny_func ?_⟩
  obtain ⟨h₁, tk, rfl, _⟩ := X.done
  exact wpAny_mono (h h₁ tk ht ⟨X.toInCall.ns, X.toInCall.keep, X.toInCall.fresh⟩ ⟨X.cell, X.apart, X.above⟩) (fun _ _ x => x) (fun _ _ x => x.elim)
theorem OpT.defCells {C : Cx} {P : Addr} (G : Gd C) {n : Nat} (R : Room C n) {x : Str} {f : Addr} {params : Arguments} {body : List Stmt} {scope : Scope} {ds : List D} {d : D} {z : PH} {vs : List Value} (hf : Fn C x f params body scope) (r : RepAll C.P z vs ds)
    (hbind : ∀ pm cd doc, bindArgs (docDef x params body scope pm cd doc) ⟨vs, []⟩ = pure ((params.args.map (·.arg)).zip vs))
    (hkind : ∀ L, ∀ y ∈ (params.args.map (·.arg)).zip vs, scope.names.lookup y.1 = some .local ∨ (scope.names.lookup y.1 = some .cell ∧ ((cellsFrom (L + 1) scope.names []).lookup y.1).isSome = true))
    (ρ : Loc) (cc : Addr → Own)
    (hloc : ∀ L cd, ∀ y e, ρ.lookup y = some e → ∃ v, bindL (envOfC x scope L f cd).kindOf ((params.args.map (·.arg)).zip vs) (fun _ => none) y = some v ∧ Rep C.P z v e)
    (hcc : ∀ L cd (h : Heap), (∀ n c, (cellsFrom (L + 1) scope.names []).lookup n = some c → h.IsCell c (bindC (envOfC x scope L f cd).kindOf ((params.args.map (·.arg)).zip vs) (fun _ => none) n)) → ∀ p ∈ cc L, L < p.1 ∧ ∃ o, h.get? p.1 = some o ∧ CellIs C.P z o p.2)
    (hnd : ∀ L, ((cc L).map (·.1)).Nodup)
    (h : ∀ L cd, Ex (C.callC x scope L f cd) ρ (cc L ++ [(P, .tab)]) body (GivesT P d))
    (hco : scope.isCoroutine = false) (hgen : scope.isGenerator = false) (hk : scope.kind = .function) : OpT C P z (call (.ref f) vs) fun z' v => Rep C.P z' v d := by
  intro s h0 hb hz zP ht
  obtain ⟨o, pm, cd, doc, ho, hd, hc⟩ := hf.obj
  obtain ⟨ps, t1, t2⟩ := id ht
  refine wpAny_call (call_cellsT R.depth (hz _ _ (hb _ _ ho)) hd (G.nolimit.keeps fun b o e => hz _ _ (hb b o e)) (CodeRec.inZ hc hb hz) (hbind pm cd doc) (hkind _) (fun h₁ tk htk F X => ?_) hco hgen hk)
  have big : ∀ b, s.heap.objs.size < b → s.heap.get? b = none := fun b hb => Heap.get?_none_of_le (Nat.le_of_lt hb)
  have hcs := hcc s.heap.objs.size cd h₁ X.cell
  have S : St (C.callC x scope s.heap.objs.size f cd) (fun b => if b = P then none else s.heap.get? b) z ρ (cc s.heap.objs.size ++ [(P, .tab)]) h₁ := by
    refine ⟨⟨_, F.ns, hloc _ cd⟩, hb, fun b o e => F.keep _ _ (hz _ _ e), fun b o e => ?_, inH_none hz (get_size _), ?_, fun p hp => ?_, ?_⟩
    · have e : (if b = P then none else s.heap.get? b) = some o := e
      split at e
      · cases e
      · exact F.keep _ _ e
    · show (if s.heap.objs.size = P then none else s.heap.get? s.heap.objs.size) = none
      split
      · rfl
      · exact get_size _
    · rcases List.mem_append.mp hp with hp | hp
      · obtain ⟨hL, o, ho, hi⟩ := hcs p hp
        refine ⟨inH_none hz (big _ hL), ?_, Nat.ne_of_gt hL, o, ho, hi⟩
        show (if p.1 = P then none else s.heap.get? p.1) = none
        split
        · rfl
        · exact big _ hL
      · rw [List.mem_singleton] at hp; subst hp
        refine ⟨zP, if_pos rfl, fun q => ?_, _, F.keep _ _ t1, ps, rfl, t2⟩
        have q : P = s.heap.objs.size := q
        rw [q, get_size] at t1; cases t1
    · rw [List.map_append, List.nodup_append]
      refine ⟨hnd _, by simp, fun a ha b hb => ?_⟩
      simp only [List.map_cons, List.map_nil, List.mem_singleton] at hb
      subst hb
      obtain ⟨p, hp, rfl⟩ := List.mem_map.mp ha
      intro q
      have := (hcs p hp).1
      rw [q] at this
      rw [big _ this] at t1; cases t1
  refine Wp.mono (h s.heap.objs.size cd _ z { s with heap := h₁, toks := tk } (Nat.lt_of_lt_of_le h0 htk) S) fun fl s' _ q => ?_
  obtain ⟨z', o, l, ho, ⟨cs, rfl, hm⟩, sm⟩ := q
  cases fl with
  | ret v =>
    obtain ⟨S', r'⟩ := ho
    exact PostT.ofRet (C := C.callC x scope s.heap.objs.size f cd) rfl l S' hm r' zP sm
  | _ => exact ho.elim
section
variable {C : Cx} {ρ : Loc} {cs : Own} {ss : List Stmt} {Φ : Out → Prop}
/-- a store into a cell -/
theorem Ex.assignCel (G : Gd C) {x : Str} {p q : Pos} {e : Expr} {a : Addr} {d0 : Option D} {d : D} (hc : C.env.cells.lookup x = some a) (h : Ev C ρ ((a, .cel d0) :: cs) e d) (k : Ex C ρ ((a, .cel (some d)) :: cs) ss Φ) (hl : C.env.kindOf x = some .cell)
    (hs : swapsWith e (some (.Name x p)) q.line C.env = pure false := by rfl) : Ex C ρ ((a, .cel d0) :: cs) (.Assign [.Name x p] e q :: ss) Φ := by
  refine Ex.cons fun kk z s h0 S => ?_
  refine wpAny_Assign_Name (Wp.mono (h z kk s h0 S) fun v s' ht ⟨z', l, S', r, sm⟩ => ?_) hs
  obtain ⟨_, _, _, o, ho, hi⟩ := S'.cell _ (.head _)
  have hcell : ∃ v₀, s'.heap.IsCell a v₀ := by
    cases d0 with
    | none => exact ⟨_, o, ho, hi⟩
    | some d0 => obtain ⟨v, hv, _⟩ := hi; exact ⟨_, o, ho, hv⟩
  obtain ⟨v₀, hcell⟩ := hcell
  refine wpAny_storeName_cell G.kind hl hc hcell fun h' hv hsb => ?_
  obtain ⟨o', ho', hd'⟩ := hv
  exact ⟨z', .next ρ _, l, S'.setCell (c' := .cel (some d)) hsb ho' ⟨v, hd', r⟩, k, sm⟩
theorem eCompI (G : Gd C) {elt iter : Expr} {x : Str} {px pos : Pos} {scope : Scope} (cl : List (Str × Addr)) {d : D} {all outs : List D} (hol : outs.length = all.length) (hsz : all.length ≤ 16777216)
    (hi : Ev C ρ cs iter d) (hIt : ∀ z v, Rep C.P z v d → It C (.Name x px) v z all) (he : ∀ L, Gd (C.comp scope cl L) → ∀ (i : Nat) d e, all[i]? = some d → outs[i]? = some e → ∀ cs', cs ⊆ cs' → Ev (C.comp scope cl L) [(x, d)] cs' elt e)
    (hclos : closureFor scope C.env = pure cl := by rfl) (hkind : scope.kind = .function := by rfl) (hcell : ∀ y ∈ scope.names, y.2 ≠ .cell := by decide +kernel) (hnm : ∀ y ∈ scope.names, y.2 = .local → scope.names.lookup y.1 = some .local := by decide +kernel) (hx : scope.names.lookup x = some .local := by rfl)
    (hs : ∀ x, foldedSetIterable iter C.env x = pure x := by intro _; rfl) : Ev C ρ cs (.ListComp elt [⟨.Name x px, iter, [], 0⟩] scope pos) (.list outs) :=
  Ev.compI G hol hsz hi hIt (fun L => he L (G.comp hkind)) hclos hkind hcell hnm hx hs
theorem eAssignCompI (G : Gd C) {elt iter : Expr} {x y : Str} {px py pos spos : Pos} {scope : Scope} (cl : List (Str × Addr)) {d : D} {all outs : List D} (hol : outs.length = all.length) (hsz : all.length ≤ 16777216)
    (hi : Ev C ρ cs iter d) (hIt : ∀ z v, Rep C.P z v d → It C (.Name x px) v z all) (he : ∀ L, Gd (C.comp scope cl L) → ∀ (i : Nat) d e, all[i]? = some d → outs[i]? = some e → ∀ cs', cs ⊆ cs' → Ev (C.comp scope cl L) [(x, d)] cs' elt e)
    (k : Ex C ((y, .list outs) :: ρ) cs ss Φ)
    (hclos : closureFor scope C.env = pure cl := by rfl) (hkind : scope.kind = .function := by rfl) (hcell : ∀ y ∈ scope.names, y.2 ≠ .cell := by decide +kernel) (hnm : ∀ y ∈ scope.names, y.2 = .local → scope.names.lookup y.1 = some .local := by decide +kernel) (hx : scope.names.lookup x = some .local := by rfl)
    (hy : C.env.kindOf y = some .local := by rfl) (hsw : swapsWith (.ListComp elt [⟨.Name x px, iter, [], 0⟩] scope pos) (some (.Name y py)) spos.line C.env = pure true := by rfl)
    (hs : ∀ x, foldedSetIterable iter C.env x = pure x := by intro _; rfl) : Ex C ρ cs (.Assign [.Name y py] (.ListComp elt [⟨.Name x px, iter, [], 0⟩] scope pos) spos :: ss) Φ :=
  Ex.assignCompI G hol hsz hi hIt (fun L => he L (G.comp hkind)) hclos hkind hcell hnm hx hy k hsw hs
end
end Mine
end

section
open PySem PySem.W PySem.Calls PyProof.Rows PySem.Builtin.Str PySem.SeqAt
set_option maxRecDepth 100000
namespace Mine
set_option linter.unusedVariables false
theorem tab_dr {t : Tab} (h : (t.map (·.1)).Nodup) : ∀ p ∈ t, dr t p.1 = p.2 := by
  intro p hp
  unfold dr
  induction t with
  | nil => cases hp
  | cons q t ih =>
    rw [List.map_cons, List.nodup_cons] at h
    rw [List.lookup_cons]
    rcases List.mem_cons.mp hp with rfl | hp
    · simp
    · have : (p.1 == q.1) = false := by
        rw [beq_eq_false_iff_ne]
        intro e
        exact h.1 (List.mem_map.mpr ⟨_, hp, e⟩)
      rw [this]
      exact ih h.2 hp
theorem tab_look {t : Tab} (h : (t.map (·.1)).Nodup) : ∀ p ∈ t, (t.map fun p => ([p.1], D.str p.2)).lookup [p.1] = some (.str p.2) := by
  intro p hp
  induction t with
  | nil => cases hp
  | cons q t ih =>
    rw [List.map_cons, List.nodup_cons] at h
    rw [List.map_cons, List.lookup_cons]
    rcases List.mem_cons.mp hp with rfl | hp
    · simp
    · have : ([p.1] == [q.1]) = false := by
        rw [beq_eq_false_iff_ne]
        intro e
        exact h.1 (List.mem_map.mpr ⟨_, hp, by simpa using e⟩)
      rw [this]
      exact ih h.2 hp
def backF (t : Tab) : D → List Nat × D
  | .str [c] => (dr t c, .str [c])
  | d => ([], d)
theorem back_eq {t : Tab} (h : (t.map (·.1)).Nodup) : D.dict (((t.map fun p => ([p.1], D.str p.2)).map fun q => D.str q.1).map (backF t)) = backD t := by
  unfold backD
  rw [List.map_map, List.map_map]
  congr 1
  refine List.map_congr_left fun p hp => ?_
  show (dr t p.1, D.str [p.1]) = _
  rw [tab_dr h p hp]
theorem eqq_way (w : Wy) : Eqq 3 (wayD w.root w.ups w.names) := by
  refine .list fun d hd => ?_
  simp only [List.mem_cons, List.not_mem_nil, or_false] at hd
  rcases hd with rfl | rfl | rfl
  · exact .str _
  · exact .int _
  · refine .list fun d hd => ?_
    obtain ⟨nm, _, rfl⟩ := List.mem_map.mp hd
    refine .list fun d hd => ?_
    obtain ⟨x, _, rfl⟩ := List.mem_map.mp hd
    exact .str _
theorem pick2 {α : Type} {f g : α → D} {xs : List α} {i : Nat} {d e : D} (h1 : (xs.map f)[i]? = some d) (h2 : (xs.map g)[i]? = some e) : ∃ x, x ∈ xs ∧ d = f x ∧ e = g x := by
  rw [List.getElem?_map] at h1 h2
  cases q : xs[i]? with
  | none => rw [q] at h1; cases h1
  | some x =>
    rw [q] at h1 h2; cases h1; cases h2
    exact ⟨x, List.mem_of_getElem? q, rfl, rfl⟩
theorem sum_bound {α : Type} {f : α → Nat} {B : Nat} : ∀ {xs : List α}, (∀ x ∈ xs, f x ≤ B) → (xs.map f).sum ≤ xs.length * B
  | [], _ => by simp
  | x :: xs, h => by
    have ih := sum_bound (xs := xs) fun y hy => h y (.tail _ hy)
    have h1 := h x (.head _)
    rw [List.map_cons, List.sum_cons, List.length_cons, Nat.succ_mul]; (first | lia | omega)
/-- an escape, wherever it is called -/
def Drs (C : Cx) (f : Addr) (t : Tab) : Prop := ∀ C' : Cx, C'.B = C.B → C'.mg = C.mg → Gd C' → Room C' 0 → ∀ l : List Nat, l.length ≤ 200000 → CallV C' (.ref f) [.str l] (.str (dress t l))
set_option maxHeartbeats 4000000 in
theorem c_agrees {C : Cx} {P c : Addr} (G : Gd C) (K : Kn C) (hK : KS C) (T : TwK C P c) (R : Room C 4) {f : Addr} {t : Tab} (PT : PathTab t) (hdr : Drs C f t) {ways : List Wy} {m : Nat} (hw : WaysOk ways m) (hm : m ≤ 12) (ht : t.length ≤ 100) :
    CallT C P "_law_agrees" [.val (.ref f), tabD t, .list (ways.map wyD)] (.bool true) := by
  obtain ⟨fa, hmg, o, pm, cd, doc, ho, hd, hc⟩ := K.dLawAgreesP
  have F : Fn C "_law_agrees" fa dLawAgreesP.1.1 dLawAgreesP.1.2.1 dLawAgreesP.1.2.2 := ⟨hmg, o, pm, cd, doc, ho, hd, hc⟩
  refine ⟨.ref fa, .inl hmg, F.keeper, fun z vs r => ?_⟩
  cases r using RepAll.consE with
  | cons r1 r =>
  cases r using RepAll.consE with
  | cons r2 r =>
  cases r using RepAll.consE with
  | cons r3 r =>
  cases r using RepAll.nilE
  rename_i v1 v2 v3
  refine OpT.defCells G R F (.cons r1 (.cons r2 (.cons r3 .nil))) (fun pm cd doc => rfl) (fun L y hy => ?_) [("ways", .list (ways.map wyD))] (fun L => [(L + 3, .cel none), (L + 1, .cel (some (.val (.ref f)))), (L + 2, .cel (some (tabD t)))]) (fun L cd y e he => ?_) (fun L cd h X p hp => ?_) (fun L => ?_) (fun L cd => ?_) rfl rfl rfl
  · have hy : y ∈ [(("dress" : Str), v1), ("table", v2), ("ways", v3)] := hy
    simp only [List.mem_cons, List.not_mem_nil, or_false] at hy
    rcases hy with rfl | rfl | rfl
    · exact .inr ⟨rfl, rfl⟩
    · exact .inr ⟨rfl, rfl⟩
    · exact .inl rfl
  · rw [List.lookup_cons] at he
    by_cases q : y = "ways"
    · subst q; simp only [beq_self_eq_true] at he; cases he; exact ⟨v3, rfl, r3⟩
    · rw [show (y == ("ways" : Str)) = false from by simpa using q] at he; cases he
  · simp only [List.mem_cons, List.not_mem_nil, or_false] at hp
    rcases hp with rfl | rfl | rfl
    · obtain ⟨o, ho, hd⟩ := X "back" (L + 3) rfl
      exact ⟨by show L < L + 3; (first | lia | omega), o, ho, hd⟩
    · obtain ⟨o, ho, hd⟩ := X "dress" (L + 1) rfl
      exact ⟨by show L < L + 1; (first | lia | omega), o, ho, v1, hd, r1⟩
    · obtain ⟨o, ho, hd⟩ := X "table" (L + 2) rfl
      exact ⟨by show L < L + 2; (first | lia | omega), o, ho, v2, hd, r2⟩
  · simp
  have G' := G.callC (x := "_law_agrees") (scope := dLawAgreesP.1.2.2) (L := L) (f := fa) (cd := cd) rfl
  have K' : Kn (C.callC "_law_agrees" dLawAgreesP.1.2.2 L fa cd) := K.cast rfl rfl rfl
  have hK' : KS (C.callC "_law_agrees" dLawAgreesP.1.2.2 L fa cd) := hK
  have T' : TwK (C.callC "_law_agrees" dLawAgreesP.1.2.2 L fa cd) P c := ⟨T.df, T.hd, T.blt, T.gP, T.pat⟩
  have R' : Room (C.callC "_law_agrees" dLawAgreesP.1.2.2 L fa cd) 3 := R.callC
  have R2 : ∀ sc cl L2, Room (Cx.comp (C.callC "_law_agrees" dLawAgreesP.1.2.2 L fa cd) sc cl L2) 2 := fun _ _ _ => R'.le (by decide)
  have R0 : ∀ sc cl L2, Room (Cx.comp (C.callC "_law_agrees" dLawAgreesP.1.2.2 L fa cd) sc cl L2) 0 := fun _ _ _ => R'.le (by decide)
  have D2 : ∀ sc cl L2, Gd (Cx.comp (C.callC "_law_agrees" dLawAgreesP.1.2.2 L fa cd) sc cl L2) → ∀ l : List Nat, l.length ≤ 200000 → CallV (Cx.comp (C.callC "_law_agrees" dLawAgreesP.1.2.2 L fa cd) sc cl L2) (.ref f) [.str l] (.str (dress t l)) := fun sc cl L2 G2 l hl => hdr (Cx.comp (C.callC "_law_agrees" dLawAgreesP.1.2.2 L fa cd) sc cl L2) rfl rfl G2 (R0 sc cl L2) l hl
  have hm20 : m ≤ 20 := by (first | lia | omega)
  have hwl := hw.four
  have hsp : ∀ w ∈ ways, (xSpelled w).length ≤ 1000 := fun w h => by have := spelled_len (hw.all w h); (first | lia | omega)
  have hds : ∀ w ∈ ways, (dress t (xSpelled w)).length ≤ 1000000 := fun w h => by have := hsp w h; have := dress_length PT.ok.six (xSpelled w); (first | lia | omega)
  have hsl : ∀ w ∈ ways, (sh t w).length ≤ 484 := fun w h => by have := sh_len PT.ok.six (hw.all w h); (first | lia | omega)
  refine Ex.assignCel (d := backD t) G' (a := L + 3) rfl ?_ ?_ rfl
  · rw [← back_eq PT.ok.keys]
    refine eDcomp G' [("table", L + 2)] (all := (t.map fun p => ([p.1], D.str p.2)).map fun q => D.str q.1) (backF t) ?_ (by simp; (first | lia | omega)) (Ev.cel G' (a := L + 2) rfl (.tail _ (.tail _ (.head _))) rfl rfl) (fun z v r => It.keys G' r) fun L2 G2 d hd cs' hcs => ?_
    · rw [List.map_map, List.map_map]
      have : (t.map fun p => (backF t (D.str [p.1])).1) = t.map (·.2) := List.map_congr_left fun p hp => tab_dr PT.ok.keys p hp
      show (t.map fun p => (backF t (D.str [p.1])).1).Nodup
      rw [this]; exact PT.ok.vals
    · obtain ⟨q, hq, rfl⟩ := List.mem_map.mp hd
      obtain ⟨p, hp, rfl⟩ := List.mem_map.mp hq
      refine ⟨Ev.cast (Ev.item (Ev.cel G2 (a := L + 2) rfl (hcs (.tail _ (.tail _ (.head _)))) rfl rfl) (eL G2) (Itm.dict (tab_look PT.ok.keys p hp))) ?_, eL G2⟩
      show _ = D.str (dr t p.1)
      rw [tab_dr PT.ok.keys p hp]
  refine eAssignCompI G' [("dress", L + 1)] (all := ways.map wyD) (outs := ways.map fun w => D.str (sh t w)) (by simp) (by simp; (first | lia | omega)) (eL G') (fun z v r => It.list G' r) (fun L2 G2 i d e h1 h2 cs' hcs => ?_) ?_
  · obtain ⟨w, hwm, rfl, rfl⟩ := pick2 h1 h2
    refine Ev.cast (eC G2 (a1 (Ev.callV (Ev.cel G2 (a := L + 1) rfl (hcs (.tail _ (.head _))) rfl rfl) (a1 (eC G2 (a1 (eL G2)) (c_spelled G2 (K'.cast rfl rfl rfl) (R2 _ _ _) (hw.all w hwm) hm20))) (D2 _ _ _ G2 (xSpelled w) (by have := hsp w hwm; (first | lia | omega))))) (c_normpath G2 (K'.cast rfl rfl rfl) (R2 _ _ _) (hds w hwm))) ?_
    rw [(xShown PT (hw.all w hwm) hm20).1]; rfl
  refine Ex.ite (b := false) (EvB.cmp (eL G') (eCompI G' [("dress", L + 1)] (all := ways.map wyD) (outs := ways.map fun w => D.str (sh t w)) (by simp) (by simp; (first | lia | omega)) (eL G') (fun z v r => It.list G' r) (fun L2 G2 i d e h1 h2 cs' hcs => ?_)) (Cmp.neSame (n := 0) R' (fun d hd => ?_) (by decide))) (fun h => nomatch h) fun _ => Ex.nil ?_
  · obtain ⟨w, hwm, rfl, rfl⟩ := pick2 h1 h2
    have hnl : (xNorm (xSpelled w)).length ≤ 200000 := by
      rw [xNorm_spelled (hw.all w hwm) hm20]
      have : (w.root ++ jn [47] (comps0 [] w.root w.ups w.names)).length ≤ 4 + 40 * m := sh_len (t := []) (fun p hp => (nomatch hp)) (hw.all w hwm)
      (first | lia | omega)
    refine Ev.cast (Ev.callV (Ev.cel G2 (a := L + 1) rfl (hcs (.tail _ (.head _))) rfl rfl) (a1 (eC G2 (a1 (eC G2 (a1 (eL G2)) (c_spelled G2 (K'.cast rfl rfl rfl) (R2 _ _ _) (hw.all w hwm) hm20))) (c_normpath G2 (K'.cast rfl rfl rfl) (R2 _ _ _) (by have := hsp w hwm; (first | lia | omega))))) (D2 _ _ _ G2 (xNorm (xSpelled w)) hnl)) ?_
    rw [(xShown PT (hw.all w hwm) hm20).2]; rfl
  · obtain ⟨w, _, rfl⟩ := List.mem_map.mp hd
    exact .str _
  obtain ⟨w0, ws, rfl⟩ := List.exists_cons_of_ne_nil hw.ne
  have hll : ∀ l ∈ sh t w0 :: ws.map (sh t), l.length ≤ 484 := fun l hl => by
    have hl : l ∈ (w0 :: ws).map (sh t) := hl
    obtain ⟨w, hwm, rfl⟩ := List.mem_map.mp hl
    exact hsl w hwm
  have hl0 : (sh t w0).length ≤ 484 := hll _ (.head _)
  have hls : ∀ l ∈ ws.map (sh t), l.length ≤ 484 := fun l hl => hll l (.tail _ hl)
  have hwsl : (ws.map (sh t)).length ≤ 3 := by rw [List.length_map]; rw [List.length_cons] at hwl; (first | lia | omega)
  have hne : ∀ l ∈ ws.map (sh t), l ≠ [] := fun l hl => by
    obtain ⟨w, hwm, rfl⟩ := List.mem_map.mp hl
    exact sh_ne PT (hw.all w (.tail _ hwm)) hm20
  have hrx : (rxOf (sh t w0 :: ws.map (sh t))).length ≤ 8000 := by
    have h1 := rxOf_len hl0 hls
    have : ((ws.map (sh t)).length + 1) * (4 * 484 + 7) ≤ 4 * (4 * 484 + 7) := Nat.mul_le_mul_right _ (by (first | lia | omega))
    (first | lia | omega)
  have hps : ∀ st, (partsP st (sh t w0 :: ws.map (sh t))).length ≤ 1000000 := fun st => by
    have h1 := partsP_len (st := st) hl0 hls
    have : ((ws.map (sh t)).length + 1) * (484 + 1) ≤ 4 * (484 + 1) := Nat.mul_le_mul_right _ (by (first | lia | omega))
    (first | lia | omega)
  have hpat := jn_bar (ws.map (sh t)) (sh t w0)
  have hpl : (jn [42] ((sh t w0 :: ws.map (sh t)).map fun l => l.flatMap bar)).length ≤ 1000000 := by
    rw [hpat, List.length_append]
    have h1 := bar_len (sh t w0)
    have h2 := tailJ_len _ hls
    have : (ws.map (sh t)).length * (3 * 484 + 1) ≤ 3 * (3 * 484 + 1) := Nat.mul_le_mul_right _ (by (first | lia | omega))
    (first | lia | omega)
  have hjs : (((sh t w0 :: ws.map (sh t)).map fun l => l.flatMap bar).map fun y => y.length + ([42] : List Nat).length).sum ≤ 16777216 := by
    have h1 := sum_bound (f := fun y : List Nat => y.length + ([42] : List Nat).length) (B := 1500) (xs := (sh t w0 :: ws.map (sh t)).map fun l => l.flatMap bar) fun y hy => by
      obtain ⟨l, hl, rfl⟩ := List.mem_map.mp hy
      have h1 := bar_len l
      have h2 := hll l hl
      simp only [List.length_cons, List.length_nil]; (first | lia | omega)
    have h2 : ((sh t w0 :: ws.map (sh t)).map fun l => l.flatMap bar).length * 1500 ≤ 4 * 1500 := Nat.mul_le_mul_right _ (by rw [List.length_map, List.length_cons]; (first | lia | omega))
    (first | lia | omega)
  have eb : D.list ((w0 :: ws).map fun w => D.str ((sh t w).flatMap bar)) = D.list (((sh t w0 :: ws.map (sh t)).map fun l => l.flatMap bar).map D.str) := by
    simp [List.map_map, Function.comp_def]
  refine Ex.assign G' (eC G' (a1 (Ev.callT G' (.tail _ (.tail _ (.tail _ (.head _)))) (a1 (Ev.meth (eS [42]) (a1 (Ev.cast (eCompI G' [] (all := (w0 :: ws).map fun w => D.str (sh t w)) (outs := (w0 :: ws).map fun w => D.str ((sh t w).flatMap bar)) (by simp) (by rw [List.length_map]; (first | lia | omega)) (eL G') (fun z v r => It.list G' r) (fun L2 G2 i d e h1 h2 cs' hcs => ?_)) eb)) (MethV.join hjs))) (c_translate G' K' hK' T' (R'.le (by decide)) (sh_ne PT (hw.all w0 (.head _)) hm20) hne hpat hpl (by (first | lia | omega)) hps fun l hl => by have := hll l hl; (first | lia | omega)) rfl rfl)) (c_runs G' K' (R'.le (by decide)) (by (first | lia | omega)) (by (first | lia | omega)) fun l hl => by have := hll l hl; (first | lia | omega))) ?_ rfl
  · obtain ⟨w, hwm, rfl, rfl⟩ := pick2 h1 h2
    exact eC G2 (a1 (eL G2)) (c_barred G2 (K'.cast rfl rfl rfl) (R0 _ _ _) (by have := hsl w hwm; (first | lia | omega)))
  have er : (sh t w0 :: ws.map (sh t)).map D.str = (w0 :: ws).map fun w => D.str (sh t w) := by simp [List.map_map, Function.comp_def]
  rw [er]
  refine Ex.ret (Ev.cmp (eCompI G' [("back", L + 3)] (all := (w0 :: ws).map fun w => D.str (sh t w)) (outs := (w0 :: ws).map fun w => wayD w.root w.ups w.names) (by simp) (by rw [List.length_map]; (first | lia | omega)) (eL G') (fun z v r => It.list G' r) (fun L2 G2 i d e h1 h2 cs' hcs => ?_)) (eCompI G' [] (all := (w0 :: ws).map wyD) (outs := (w0 :: ws).map fun w => wayD w.root w.ups w.names) (by simp) (by rw [List.length_map]; (first | lia | omega)) (eL G') (fun z v r => It.list G' r) (fun L2 G2 i d e h1 h2 cs' hcs => ?_)) (Cmp.eqSame (n := 3) R' (fun d hd => ?_) (by decide))) ⟨_, rfl, .tail _ (.tail _ (.tail _ (.head _)))⟩
  · obtain ⟨w, hwm, rfl, rfl⟩ := pick2 h1 h2
    have hok := hw.all w hwm
    exact eC G2 (a2 (eL G2 (d := .str (sh t w))) (Ev.cel G2 (a := L + 3) (d := backD t) rfl (hcs (.head _)) rfl rfl)) (c_read G2 (K'.cast rfl rfl rfl) R' PT hok.root (fun nm hn => hok.nameOk hm20 hn) (by have := hok.count; (first | lia | omega)) (by have : (w.root ++ jn [47] (comps0 t w.root w.ups w.names)).length ≤ 484 := hsl w hwm; (first | lia | omega)))
  · obtain ⟨w, hwm, rfl, rfl⟩ := pick2 h1 h2
    exact eCutL (eL G2) .nil (.one Ev.int) (by show 4 ≤ _; decide) (by
      have := cut_takeG [D.str w.root, .int w.ups, .list (w.names.map nmD), .list (w.crooks.map .int)] 3
      exact this)
  · obtain ⟨w, _, rfl⟩ := List.mem_map.mp hd
    exact eqq_way w
end Mine
end

section
open PySem PySem.W PySem.Calls PyProof.Rows PySem.Builtin.Str PySem.SeqAt
set_option maxRecDepth 100000
namespace Mine
set_option linter.unusedVariables false
theorem fold_ok : ∀ (ms : List Int) {ways : List Wy} {m : Nat}, WaysOk ways m → (∀ n ∈ ms, 0 ≤ n) → WaysOk (ms.foldl dStep ways) (m + ms.length)
  | [], _, _, h, _ => h
  | n :: ms, ways, m, h, hn => by
    have := fold_ok ms (dStep_ok h (hn n (.head _))) fun x hx => hn x (.tail _ hx)
    rw [List.length_cons, show m + (ms.length + 1) = m + 1 + ms.length from by (first | lia | omega)]
    exact this
theorem way0 : WaysOk [(⟨[], 0, [], []⟩ : Wy)] 0 := by
  refine ⟨by simp, by simp, fun w h => ?_⟩
  rw [List.mem_singleton] at h; subst h
  exact ⟨.inl rfl, fun h => absurd rfl h, fun nm h => (nomatch h), rfl, fun c h => (nomatch h), Nat.le_refl _, Nat.le_refl _⟩
/-- an escape that the loop hands on -/
structure Pr (C : Cx) (d : D) : Prop where
  ex : ∃ f t, d = .tup [.val (.ref f), tabD t] ∧ PathTab t ∧ t.length ≤ 100 ∧ Drs C f t
set_option maxHeartbeats 4000000 in
theorem x_law {C : Cx} {P c L fa : Addr} {cd : Value} (G : Gd (C.call "law" dLaw.1.2.2 L fa cd)) (K : Kn C) (hK : KS C) (T : TwK C P c) (R : Room (C.call "law" dLaw.1.2.2 L fa cd) 4) {ns : List Int} (hl : ns.length ≤ 63) :
    Ex (C.call "law" dLaw.1.2.2 L fa cd) [("script", .list (ns.map .int))] [(P, .tab)] dLaw.1.2.1 (GivesT P (.bool true)) := by
  have K' : Kn (C.call "law" dLaw.1.2.2 L fa cd) := K.cast rfl rfl rfl
  have hK' : KS (C.call "law" dLaw.1.2.2 L fa cd) := hK
  have T' : TwK (C.call "law" dLaw.1.2.2 L fa cd) P c := ⟨T.df, T.hd, T.blt, T.gP, T.pat⟩
  have hw := fold_ok ((ns.take 12).map (· % 1000000)) way0 fun n hn => by
    obtain ⟨x, _, rfl⟩ := List.mem_map.mp hn
    exact Int.emod_nonneg _ (by decide)
  have hlen : ((ns.take 12).map (· % 1000000)).length ≤ 12 := by rw [List.length_map, List.length_take]; (first | lia | omega)
  have hcut : pyCut none (some (12 : Int)) (ns.map D.int) = (ns.take 12).map D.int := by
    have := cut_takeG (ns.map D.int) 12
    rw [List.map_take]; exact this
  obtain ⟨f1, m1, q1⟩ := K.dEscapeCdataP
  obtain ⟨f2, m2, q2⟩ := K.dEscapeAttribP
  obtain ⟨f3, m3, q3⟩ := K.dEscapeAttribHtmlP
  obtain ⟨f4, m4, q4⟩ := K.dEscapeCdataC14nP
  obtain ⟨f5, m5, q5⟩ := K.dEscapeAttribC14nP
  have D1 : Drs (C.call "law" dLaw.1.2.2 L fa cd) f1 tA := fun C' hB hm G' R' l hl => c_e1 G' (by rw [hB, hm]; exact ⟨m1, q1⟩) R' hl
  have D2 : Drs (C.call "law" dLaw.1.2.2 L fa cd) f2 tB := fun C' hB hm G' R' l hl => c_e2 G' (by rw [hB, hm]; exact ⟨m2, q2⟩) R' hl
  have D3 : Drs (C.call "law" dLaw.1.2.2 L fa cd) f3 tC := fun C' hB hm G' R' l hl => c_e3 G' (by rw [hB, hm]; exact ⟨m3, q3⟩) R' hl
  have D4 : Drs (C.call "law" dLaw.1.2.2 L fa cd) f4 tD := fun C' hB hm G' R' l hl => c_e4 G' (by rw [hB, hm]; exact ⟨m4, q4⟩) R' hl
  have D5 : Drs (C.call "law" dLaw.1.2.2 L fa cd) f5 tE := fun C' hB hm G' R' l hl => c_e5 G' (by rw [hB, hm]; exact ⟨m5, q5⟩) R' hl
  refine Ex.assign G (d := .list ((((ns.take 12).map (· % 1000000)).foldl dStep [⟨[], 0, [], []⟩]).map wyD)) (eC G (a1 (Ev.cast (eCompI G [] (all := (ns.take 12).map D.int) (outs := (ns.take 12).map fun n => D.int (n % 1000000)) (by simp) (by rw [List.length_map, List.length_take]; (first | lia | omega)) (eCutL (eL G (d := .list (ns.map .int))) .nil (.one Ev.int) (by rw [List.length_map]; (first | lia | omega)) hcut) (fun z v r => It.list G r) (fun L2 G2 i d e h1 h2 cs' hcs => ?_)) (d' := .list (((ns.take 12).map (· % 1000000)).map .int)) (by rw [List.map_map]; rfl))) (c_drawn G K' (R.le (by decide)) (fun n hn => ?_) hlen)) ?_ rfl
  · obtain ⟨n, _, rfl, rfl⟩ := pick2 h1 h2
    exact Ev.bin (eL G2) (Ev.bin Ev.int Ev.int .powInt) (.modInt (by decide))
  · obtain ⟨x, _, rfl⟩ := List.mem_map.mp hn
    exact ⟨Int.emod_nonneg _ (by decide), Int.emod_lt_of_pos _ (by decide)⟩
  have hm : 0 + ((ns.take 12).map (· % 1000000)).length ≤ 12 := by (first | lia | omega)
  generalize ((ns.take 12).map (· % 1000000)).foldl dStep [⟨[], 0, [], []⟩] = ways at hw ⊢
  generalize 0 + ((ns.take 12).map (· % 1000000)).length = m at hw hm
  refine Ex.assign G (d := .list [.val (.ref f1), .val (.ref f2), .val (.ref f3), .val (.ref f4), .val (.ref f5)]) (eLs (.cons (eG G (.inl m1)) (.cons (eG G (.inl m2)) (.cons (eG G (.inl m3)) (.cons (eG G (.inl m4)) (.cons (eG G (.inl m5)) .nil)))))) ?_ rfl
  have hz : zipD [.val (.ref f1), .val (.ref f2), .val (.ref f3), .val (.ref f4), .val (.ref f5)] [tabD tA, tabD tB, tabD tC, tabD tD, tabD tE] = [.tup [.val (.ref f1), tabD tA], .tup [.val (.ref f2), tabD tB], .tup [.val (.ref f3), tabD tC], .tup [.val (.ref f4), tabD tD], .tup [.val (.ref f5), tabD tE]] := rfl
  have hpr : ∀ d ∈ zipD [.val (.ref f1), .val (.ref f2), .val (.ref f3), .val (.ref f4), .val (.ref f5)] [tabD tA, tabD tB, tabD tC, tabD tD, tabD tE], Pr (C.call "law" dLaw.1.2.2 L fa cd) d := fun d hd => by
    rw [hz] at hd
    simp only [List.mem_cons, List.not_mem_nil, or_false] at hd
    rcases hd with rfl | rfl | rfl | rfl | rfl
    · exact ⟨f1, tA, rfl, tabA, by decide, D1⟩
    · exact ⟨f2, tB, rfl, tabB, by decide, D2⟩
    · exact ⟨f3, tC, rfl, tabC, by decide, D3⟩
    · exact ⟨f4, tD, rfl, tabD', by decide, D4⟩
    · exact ⟨f5, tE, rfl, tabE, by decide, D5⟩
  refine Ex.forZip G K'.zip (xs := [.val (.ref f1), .val (.ref f2), .val (.ref f3), .val (.ref f4), .val (.ref f5)]) (ys := [tabD tA, tabD tB, tabD tC, tabD tD, tabD tE]) (adds := fun d => match d with | .tup ds => ([("dress" : Str), ("table" : Str)].zip ds).reverse | _ => []) (a2 (eL G) (eC G a0 (c_tables G K' (R.le (by decide))))) (fun d hd => ?_) (FL.sub (ρ' := [("ways", .list (ways.map wyD))]) (.cons rfl .nil)
    (FL.ind (fun _ : Unit => [("ways", .list (ways.map wyD))]) (fun _ => [(P, .tab)]) (fun _ ds => ∀ d ∈ ds, Pr (C.call "law" dLaw.1.2.2 L fa cd) d) (fun _ h => ?_) (fun _ d ds h => ?_) _ () hpr))
  · obtain ⟨f, t, rfl, _⟩ := (hpr d hd).ex
    exact As.many G (xs := ["dress", "table"]) (ds := [.val (.ref f), tabD t]) (.cons (.cons .nil)) rfl rfl (.inl rfl)
  · refine Ex.nil ?_
    exact Ex.ret Ev.bool ⟨_, rfl, .head _⟩
  · obtain ⟨f, t, rfl, PT, ht, hD⟩ := (h d (.head _)).ex
    refine Ex.ite (b := !true) (.not (.plain (Ev.callT G (.head _) (a3 (eL G (d := .val (.ref f))) (eL G (d := tabD t)) (eL G (d := .list (ways.map wyD)))) (c_agrees G K' hK' T' R PT hD hw hm ht) rfl rfl) .bool)) (fun h => nomatch h) fun _ => Ex.nil ?_
    exact Ex.nil ⟨(), fun d hd => h d (.tail _ hd), .cons rfl .nil, rfl⟩
end Mine
end

section
open PySem PySem.W PySem.Calls PyProof.Rows PySem.Builtin.Str PySem.SeqAt
set_option maxRecDepth 100000
namespace Mine
set_option linter.unusedVariables false
/-- a def in the written part -/
def HasDefK (K : Frag) (x : Str) (d : FD) (cd : Value) : Prop := ∃ f, nsIn K mainGlobals x = some (some (.ref f)) ∧ (∃ o pm doc, K.lookup f = some o ∧ o.data = .func (docDef x d.1 d.2.1 d.2.2 pm cd doc)) ∧ codeIn K cd x = true
section
variable {K : Frag} {B : Heap} {mg mb : Str → Option Value}
theorem HasDefK.has {x : Str} {d : FD} {cd : Value} (X : K.In B) (g : B.Ns mainGlobals mg) (h : HasDefK K x d cd) : HasDef B mg x d := by
  obtain ⟨f, h1, ⟨o, pm, doc, h2, h3⟩, h4⟩ := h
  exact ⟨f, mg_of X g h1, o, pm, cd, doc, X _ _ h2, h3, codeRec_of X h4⟩
theorem HasDefK.hasC {x : Str} {d : FD} {c : Addr} (X : K.In B) (g : B.Ns mainGlobals mg) (h : HasDefK K x d (.ref c)) : HasDefC B mg x d c := by
  obtain ⟨f, h1, ⟨o, pm, doc, h2, h3⟩, h4⟩ := h
  exact ⟨f, mg_of X g h1, o, pm, doc, X _ _ h2, h3, codeRec_of X h4⟩
/-- the entries of the table of the signs -/
def spcRow (e : DictEntry) (c : Nat) : Prop := e.hash = hashInt (c : Int) ∧ (∃ t, e.key = .int (c : Int) t) ∧ ∃ t, e.val = .str ⟨#[92, c]⟩ t
inductive SpcRows : List DictEntry → List Nat → Prop
  | nil : SpcRows [] []
  | cons {e : DictEntry} {es : List DictEntry} {c : Nat} {cs : List Nat} : spcRow e c → SpcRows es cs → SpcRows (e :: es) (c :: cs)
theorem SpcRows.keys {prog : Program} {w : World} : ∀ {es : List DictEntry} {cs : List Nat}, SpcRows es cs → ∀ e ∈ es, ∃ k, (intKind prog w).is k e.key = true ∧ e.hash = (intKind prog w).hash k
  | _, _, .nil, e, h => (nomatch h)
  | _, _, .cons (c := c) ⟨a, ⟨t, b⟩, _⟩ r, e, h => by
    rcases List.mem_cons.mp h with rfl | h
    · refine ⟨(c : Int), ?_, a⟩
      rw [b]
      show Value.isInt (c : Int) (.int (c : Int) t) = true
      simp [Value.isInt]
    · exact r.keys e h
theorem SpcRows.find {prog : Program} {w : World} (k : Nat) : ∀ {es : List DictEntry} {cs : List Nat}, SpcRows es cs → if k ∈ cs then ∃ t, (es.find? fun e => (intKind prog w).is (k : Int) e.key).map (·.val) = some (.str ⟨#[92, k]⟩ t) else (es.find? fun e => (intKind prog w).is (k : Int) e.key).map (·.val) = none
  | _, _, .nil => by simp
  | e :: es, c :: cs, .cons ⟨a, ⟨t, b⟩, ⟨u, v⟩⟩ r => by
    have ih := r.find (prog := prog) (w := w) k
    have he : (intKind prog w).is (k : Int) e.key = decide (k = c) := by
      rw [b]
      show Value.isInt (k : Int) (.int (c : Int) t) = _
      by_cases q : k = c
      · subst q; simp [Value.isInt]
      · have : ¬ ((c : Int) = (k : Int)) := by (first | lia | omega)
        have : ¬ ((k : Int) = (c : Int)) := by (first | lia | omega)
        simp [Value.isInt, *]
    by_cases q : k = c
    · subst q
      rw [if_pos (by simp)]
      refine ⟨u, ?_⟩
      rw [List.find?_cons_of_pos (by rw [he]; simp)]
      simp [v]
    · rw [List.find?_cons_of_neg (by rw [he]; simpa using q)]
      by_cases m : k ∈ cs
      · rw [if_pos m] at ih
        rw [if_pos (by simp [m])]
        exact ih
      · rw [if_neg m] at ih
        rw [if_neg (by simp [m, q])]
        exact ih
/-- what the written part must hold -/
structure FactsK (K : Frag) : Prop where
  type : nsIn K mainGlobals "type" = some none
  issubclass : nsIn K mainGlobals "issubclass" = some none
  str : nsIn K mainGlobals "str" = some none
  bytes : nsIn K mainGlobals "bytes" = some none
  isinstance : nsIn K mainGlobals "isinstance" = some none
  len : nsIn K mainGlobals "len" = some none
  zip : nsIn K mainGlobals "zip" = some none
  object : nsIn K mainGlobals "object" = some none
  dFspath : ∃ cd, HasDefK K "fspath" dFspath.1 cd
  dGetSepP : ∃ cd, HasDefK K "_get_sep" dGetSepP.1 cd
  dJoin : ∃ cd, HasDefK K "join" dJoin.1 cd
  dSplit : ∃ cd, HasDefK K "split" dSplit.1 cd
  dSplitextP : ∃ cd, HasDefK K "_splitext" dSplitextP.1 cd
  dSplitext : ∃ cd, HasDefK K "splitext" dSplitext.1 cd
  dSplitroot : ∃ cd, HasDefK K "splitroot" dSplitroot.1 cd
  dNormpath : ∃ cd, HasDefK K "normpath" dNormpath.1 cd
  dTranslate : ∃ cd, HasDefK K "translate" dTranslate.1 cd
  dEscape : ∃ cd, HasDefK K "escape" dEscape.1 cd
  dTranslateP : HasDefK K "_translate" dTranslateP.1 (.ref 207)
  dJoinTranslatedPartsP : ∃ cd, HasDefK K "_join_translated_parts" dJoinTranslatedPartsP.1 cd
  dEscapeCdataP : ∃ cd, HasDefK K "_escape_cdata" dEscapeCdataP.1 cd
  dEscapeAttribP : ∃ cd, HasDefK K "_escape_attrib" dEscapeAttribP.1 cd
  dEscapeAttribHtmlP : ∃ cd, HasDefK K "_escape_attrib_html" dEscapeAttribHtmlP.1 cd
  dEscapeCdataC14nP : ∃ cd, HasDefK K "_escape_cdata_c14n" dEscapeCdataC14nP.1 cd
  dEscapeAttribC14nP : ∃ cd, HasDefK K "_escape_attrib_c14n" dEscapeAttribC14nP.1 cd
  dLawDrawnP : ∃ cd, HasDefK K "_law_drawn" dLawDrawnP.1 cd
  dLawSpelledP : ∃ cd, HasDefK K "_law_spelled" dLawSpelledP.1 cd
  dLawTablesP : ∃ cd, HasDefK K "_law_tables" dLawTablesP.1 cd
  dLawBarredP : ∃ cd, HasDefK K "_law_barred" dLawBarredP.1 cd
  dLawRunsP : ∃ cd, HasDefK K "_law_runs" dLawRunsP.1 cd
  dLawBareP : ∃ cd, HasDefK K "_law_bare" dLawBareP.1 cd
  dLawReadP : ∃ cd, HasDefK K "_law_read" dLawReadP.1 cd
  dLawAgreesP : ∃ cd, HasDefK K "_law_agrees" dLawAgreesP.1 cd
  spc : ∃ a o es n, nsIn K mainGlobals "_special_chars_map" = some (some (.ref a)) ∧ K.lookup a = some o ∧ o.ExactDict ∧ o.data = .dict (es : List DictEntry).toArray n ∧ SpcRows es spec ∧ (a == sysModules) = false
  pat : ∃ a v0 v1 t o n, nsIn K mainGlobals "_twin_re_1" = some (some (.ref a)) ∧ K.lookup a = some { cls := .type "re.Pattern", data := .fields #[v0, v1, rawInt 1, .none, .none, .ref t, rawInt 0] } ∧ K.lookup t = some o ∧ o.data = .seq (twCode.map fun w => rawInt (w : Nat)).toArray n
  low : ∃ o, K.lookup 2 = some o
theorem glo_b {x : Str} {v : Value} {C : Cx} (X : K.In C.B) (g : C.B.Ns mainGlobals C.mg) (hb : ∀ x : Str, x ≠ "__name__" → C.mb x = bootBuiltins x) (h : nsIn K mainGlobals x = some none) (hn : x ≠ "__name__") (hv : bootBuiltins x = some v) : Glo C x v :=
  .inr ⟨mg_none_of X g h, (hb x hn).trans hv⟩
theorem FactsK.kn {C : Cx} (F : FactsK K) (X : K.In C.B) (g : C.B.Ns mainGlobals C.mg) (hb : ∀ x : Str, x ≠ "__name__" → C.mb x = bootBuiltins x) : Kn C := by
  have d : ∀ {x : Str} {d : FD}, (∃ cd, HasDefK K x d cd) → HasDef C.B C.mg x d := fun ⟨cd, h⟩ => h.has X g
  exact ⟨glo_b X g hb F.type (by decide) (by boot_fast), glo_b X g hb F.issubclass (by decide) (by decide +kernel), glo_b X g hb F.str (by decide) (by boot_fast), glo_b X g hb F.bytes (by decide) (by boot_fast), glo_b X g hb F.isinstance (by decide) (by boot_fast), glo_b X g hb F.len (by decide) (by decide +kernel), glo_b X g hb F.zip (by decide) (by boot_fast), glo_b X g hb F.object (by decide) (by boot_fast),
    d F.dFspath, d F.dGetSepP, d F.dJoin, d F.dSplit, d F.dSplitextP, d F.dSplitext, d F.dSplitroot, d F.dNormpath, d F.dTranslate, d F.dEscape, F.dTranslateP.has X g, d F.dJoinTranslatedPartsP, d F.dEscapeCdataP, d F.dEscapeAttribP, d F.dEscapeAttribHtmlP, d F.dEscapeCdataC14nP, d F.dEscapeAttribC14nP, d F.dLawDrawnP, d F.dLawSpelledP, d F.dLawTablesP, d F.dLawBarredP, d F.dLawRunsP, d F.dLawBareP, d F.dLawReadP, d F.dLawAgreesP⟩
theorem FactsK.ks {C : Cx} (F : FactsK K) (X : K.In C.B) (g : C.B.Ns mainGlobals C.mg) : KS C := by
  obtain ⟨a, o, es, n, h1, h2, h3, h4, h5, h6⟩ := F.spc
  refine ⟨a, .inl (mg_of X g h1), h6, fun k => (es.find? fun e => (intKind C.prog C.w).is k e.key).map (·.val), ⟨o, es.toArray, n, X _ _ h2, h3, h4, fun e he => ?_, fun k => ?_⟩, fun c => h5.find c⟩
  · exact h5.keys e (by simpa using he)
  · unfold findBy; rw [← Array.find?_toList]
theorem FactsK.twk {C : Cx} {P : Addr} (F : FactsK K) (X : K.In C.B) (g : C.B.Ns mainGlobals C.mg) (hd : CodeHd C.B 207 P) (blt : C.B.BuiltinsAt C.mg P) (gP : mainGlobals ≠ P) : TwK C P 207 := by
  obtain ⟨a, v0, v1, t, o, n, h1, h2, h3, h4⟩ := F.pat
  exact ⟨F.dTranslateP.hasC X g, hd, blt, gP, a, .inl (mg_of X g h1), ⟨v0, v1, t, o, n, X _ _ h2, X _ _ h3, h4⟩⟩
end
end Mine
end

section
open PySem PySem.W PySem.Calls PyProof.Rows PySem.Builtin.Str PySem.SeqAt
set_option maxRecDepth 100000
namespace Mine
set_option linter.unusedVariables false
theorem well_all {P : Params} {h : Heap} {z : PH} : ∀ {ns : List Int} {vs : List Value}, WellAll P h vs (ofPys (ns.map PyData.int)) → RepAll P z vs (ns.map .int)
  | [], _, w => by cases w; exact .nil
  | n :: ns, _, w => by
    cases w with
    | cons a r => cases a; exact .cons (.int _ _) (well_all r)
theorem well_ints {P : Params} {h : Heap} {l : Addr} {ns : List Int} (w : Well P h (.ref l) (ofPy (PyData.list (ns.map PyData.int)))) : ∃ vs : List Value, h.get? l = some { cls := .type "list", data := .seq vs.toArray } ∧ ∀ z, RepAll P z vs (ns.map .int) := by
  have w : Well P h (.ref l) (.list (ofPys (ns.map PyData.int))) := w
  cases w with
  | list a r => exact ⟨_, a, fun z => well_all r⟩
theorem blt_of {h : Heap} {p : Program} {loose : List Str} {mean : ExcName → Option Value} {mg mb : Str → Option Value} {P : Addr} (T : Top p loose mean mg mb h) (hP : h.get? P = none) : h.BuiltinsAt mg P := by
  obtain ⟨bm, ob, h1, h2, h3, h4, h5, h6⟩ := T.bmain
  refine ⟨bm, ob, h1, h2, fun q => ?_, fun q => ?_, h3, h4, h5, h6⟩
  · obtain ⟨o, es, ep, e1, e2, _⟩ := T.g
    rw [q, e1] at h3; cases h3
    rw [h6] at e2; cases e2
  · rw [q, hP] at h3; cases h3
theorem join {prog : Program} {w : World} {s : Shared} {K : Frag} {B : Heap} {mg mb : Str → Option Value} {p : Program} {loose : List Str} {mean : ExcName → Option Value} {fa l : Addr} {cd : Value} {ns : List Int} {h₁ : Heap}
    (FK : FactsK K) (X : K.In B) (T : Top p loose mean mg mb B) (hB : ∀ b o, B.get? b = some o → s.heap.get? b = some o) (hlist : ∃ o, B.get? l = some o)
    (F : Fr B s.heap.objs.size h₁ (fun x => List.lookup x [(("script" : Str), Value.ref l)].reverse))
    (W : Well w.params s.heap (.ref l) (ofPy (PyData.list (ns.map PyData.int)))) (hlen : ¬ ((63 : Nat) : Int) < (ns.length : Int)) (hC : CodeHd B 207 203) (N : News B s.heap.objs.size h₁ [(203, tabObj #[])])
    {Q : Flow → Shared → Prop} {E : Value → Shared → Prop}
    (hQ : ∀ s' : Shared, (∀ b o, B.get? b = some o → s'.heap.get? b = some o) → s'.gens = s.gens → s'.os = s.os → GrownAll [(207, 203)] s'.heap → Q (.ret (.bool true)) s') :
    wpAny (model prog w) (callerA.deeper (envOf "law" dLaw.1.2.2 s.heap.objs.size fa cd)) (execs dLaw.1.2.1 (envOf "law" dLaw.1.2.2 s.heap.objs.size fa cd)) Q E { s with heap := h₁, toks := s.toks + 1 } := by
  have hn : News B s.heap.objs.size h₁ [(203, tabObj #[])] := N
  obtain ⟨t1, t2, t3⟩ := hn _ (.head _)
  have t1 : h₁.get? 203 = some (tabObj #[]) := t1
  have t2 : (203 : Addr) ≠ s.heap.objs.size := t2
  have t3 : B.get? 203 = none := t3
  have hL : B.get? s.heap.objs.size = none := Heap.get?_none_of_le F.above
  obtain ⟨vs, hv, hr⟩ := well_ints W
  obtain ⟨ol, hol⟩ := hlist
  have hlB : B.get? l = some { cls := .type "list", data := .seq vs.toArray } := by
    have := hB _ _ hol
    rw [hv] at this; cases this; exact hol
  let C : Cx := { prog := prog, w := w, B := B, mg := mg, mb := mb, A := callerA, env := default }
  have G : Gd (C.call "law" dLaw.1.2.2 s.heap.objs.size fa cd) := by
    obtain ⟨o, ho⟩ := FK.low
    exact ⟨T.g, T.b, T.nolimit, rfl, rfl, rfl, rfl, 2, o, by decide, X _ _ ho⟩
  have Kn' : Kn C := FK.kn X T.g T.builtins
  have Ks' : KS C := FK.ks X T.g
  have Tw' : TwK C 203 207 := FK.twk X T.g hC (blt_of T t3) (by decide)
  have R : Room (C.call "law" dLaw.1.2.2 s.heap.objs.size fa cd) 4 := by
    refine ⟨?_, ?_⟩
    · show callerA.depth + 1 + 4 < 900; decide
    · show callerA.units + 3 + 4 * 4 < 9000; decide
  have body := x_law (C := C) (P := 203) (c := 207) (L := s.heap.objs.size) (fa := fa) (cd := cd) G Kn' Ks' Tw' R (ns := ns) (by (first | lia | omega))
  have S : St (C.call "law" dLaw.1.2.2 s.heap.objs.size fa cd) (fun b => B.get? b) (fun b => B.get? b) [("script", .list (ns.map .int))] [(203, .tab)] h₁ := by
    refine ⟨⟨_, F.ns, fun y e he => ?_⟩, fun b o e => e, F.keep, F.keep, hL, hL, fun p hp => ?_, by simp⟩
    · rw [List.lookup_cons] at he
      by_cases q : y = "script"
      · subst q; simp only [beq_self_eq_true] at he; cases he
        exact ⟨.ref l, rfl, .list (n := 0) hlB (hr _)⟩
      · rw [show (y == ("script" : Str)) = false from by simpa using q] at he; cases he
    · rw [List.mem_singleton] at hp; subst hp
      exact ⟨t3, t3, t2, _, t1, #[], rfl, .inl rfl⟩
  refine wpAny_mono (E := fun _ _ => False) (Wp.mono (body _ _ { s with heap := h₁, toks := s.toks + 1 } (Nat.succ_pos _) S) fun f s' _ q => ?_) (fun _ _ q => q) fun _ _ e => e.elim
  obtain ⟨z', o, g, ho, ⟨cs, rfl, hm⟩, sm⟩ := q
  cases f with
  | ret v =>
    obtain ⟨S', r⟩ := ho
    cases r
    obtain ⟨_, _, _, o, ho, ps, rfl, _⟩ := S'.cell _ hm
    exact hQ s' S'.keep sm.1 sm.2 ⟨⟨ps, ho⟩, trivial⟩
  | _ => exact ho.elim
end Mine
end

open PySem PySem.W PyProof.Rows
namespace Mine
theorem head.tw6474009502463322548 : True := trivial
theorem head.tw9975738240907327011 : True := trivial
theorem head.tw13412022041919118725 : True := trivial
theorem head.tw13335025841360890868 : True := trivial
theorem head.tw3642419971838929586 : True := trivial
theorem head.tw5238325282659567380 : True := trivial
theorem head.tw6133374836822340032 : True := trivial
theorem head.tw17271770055516897997 : True := trivial
theorem head.tw9224727606216920406 : True := trivial
theorem head.tw1633178978018031862 : True := trivial
theorem head.tw11041032747693170624 : True := trivial
theorem head.tw13295602550337036981 : True := trivial
theorem head.tw6958054317093949245 : True := trivial
theorem head.tw12058348164842460966 : True := trivial
theorem head.tw16390735416758967846 : True := trivial
theorem head.tw13695277343892569604 : True := trivial
theorem head.tw11457916452242354218 : True := trivial
theorem head.tw1120683029170811851 : True := trivial
theorem head.tw11560791298762117392 : True := trivial
theorem head.tw6310438205146278909 : True := trivial
theorem head.tw17036706341803953120 : True := trivial
theorem head.tw11603432971120843656 : True := trivial
theorem head.tw4965378191221513410 : True := trivial
theorem head.tw5870146547769353613 : True := trivial
theorem head.tw7062146859851562108 : True := trivial
theorem head.tw5479459121986351116 : True := trivial
theorem head.tw7789450098604059249 : True := trivial
theorem head.tw16471695610963150605 : True := trivial
theorem head.tw5141380973458375857 : True := trivial
theorem head.tw15532160837916378065 : True := trivial
theorem head.tw12851702773856589430 : True := trivial
theorem head.tw6880043348581005364 : True := trivial
theorem head.tw6088685845774392931 : True := trivial
theorem head.tw14112051064653734678 : True := trivial
theorem head.tw558170032926108959 : True := trivial
theorem head.tw5506250874072839755 : True := trivial
theorem head.tw13942192884097748152 : True := trivial
theorem head.tw17265401458761052179 : True := trivial
theorem head.tw9280153536138602973 : True := trivial
theorem head.tw10021064610941686981 : True := trivial
theorem head.tw9464831228461672588 : True := trivial
theorem head.tw12024539317367501503 : True := trivial
theorem head.tw10018764681926925449 : True := trivial
theorem head.tw15510365090734361527 : True := trivial
theorem head.tw16800043278716471037 : True := trivial
theorem head.tw532055438628499158 : True := trivial
theorem head.tw6100774026682323163 : True := trivial
theorem head.tw14720509044617813951 : True := trivial
theorem head.tw15204471325056678010 : True := trivial
theorem head.tw1909714482019496454 : True := trivial
theorem head.tw8997269238129315039 : True := trivial
theorem head.tw16894197260953374720 : True := trivial
theorem head.tw2525317073905713282 : True := trivial
theorem head.tw9388430590476628193 : True := trivial
theorem head.tw8812732774380208333 : True := trivial
theorem head.tw3089916443595474862 : True := trivial
theorem head.tw37620276538422747 : True := trivial
theorem head.tw2554682012703037696 : True := trivial
theorem head.tw14969872817325187116 : True := trivial
theorem head.tw2340069552987342377 : True := trivial
theorem head.tw16572314662081343053 : True := trivial
theorem head.tw3512634313551410195 : True := trivial
theorem head.tw1919001801439425371 : True := trivial
theorem head.tw5737951250597237232 : True := trivial
theorem head.tw14643560169476415855 : True := trivial
theorem head.tw10898857373019930491 : True := trivial
theorem head.tw7876399200375917224 : True := trivial
theorem head.tw12870424476946447624 : True := trivial
theorem head.tw16050388347410925577 : True := trivial
theorem head.tw12330954535739239725 : True := trivial
theorem head.tw15112835437128306455 : True := trivial
theorem head.tw4839655697589452165 : True := trivial
theorem head.tw8187629637223713605 : True := trivial
theorem head.tw10786079294511566085 : True := trivial
theorem head.tw17619409864816609055 : True := trivial
theorem head.tw12074249297620881909 : True := trivial
theorem head.tw533756555076263647 : True := trivial
theorem head.tw6085824867444503733 : True := trivial
theorem head.tw9114333099845857663 : True := trivial
theorem head.tw16640130746408290383 : True := trivial
theorem head.tw3980653432952411973 : True := trivial
theorem head.tw2218057530078777247 : True := trivial
theorem head.tw17577399041416155939 : True := trivial
theorem head.tw4976181008148175253 : True := trivial
theorem head.tw16952853204520103121 : True := trivial
theorem head.tw8097174177036852075 : True := trivial
theorem head.tw16714887947964762639 : True := trivial
theorem head.tw11484358847640170188 : True := trivial
theorem head.tw1748456618969930982 : True := trivial
theorem head.tw14877080517539528568 : True := trivial
theorem head.tw13704148757180265829 : True := trivial
theorem head.tw7661765248129044261 : True := trivial
theorem head.tw8773370040425892893 : True := trivial
theorem head.tw8758324158161630591 : True := trivial
theorem head.tw2014290360899714077 : True := trivial
theorem head.tw9716329373054682134 : True := trivial
theorem head.tw69809265629811306 : True := trivial
theorem head.tw9113478365216168667 : True := trivial
theorem head.tw11063524718261073790 : True := trivial
theorem head.tw16874305072444578374 : True := trivial
theorem head.tw17508272824862286709 : True := trivial
theorem head.tw8451290768687142514 : True := trivial
theorem head.tw3737903218282963058 : True := trivial
theorem head.tw2249667046024356820 : True := trivial
theorem head.tw5015311536963163689 : True := trivial
theorem head.tw2581250870941146908 : True := trivial
theorem head.tw11434997419882176723 : True := trivial
theorem head.tw12398312691204496596 : True := trivial
theorem head.tw70090929366303766 : True := trivial
theorem head.tw11988142204041823098 : True := trivial
theorem head.tw15539854500240908086 : True := trivial
theorem head.tw13637325136056909300 : True := trivial
theorem head.tw13954853420313727417 : True := trivial
theorem head.tw7253898381062576733 : True := trivial
theorem head.tw17994110348256069173 : True := trivial
theorem head.tw4415685298772064003 : True := trivial
theorem head.tw2393098407364606883 : True := trivial
theorem head.tw6053349399257934933 : True := trivial
theorem head.tw2237326684586592538 : True := trivial
theorem head.tw17698105195316432488 : True := trivial
theorem head.tw4746297304354101679 : True := trivial
theorem head.tw16031315777459398524 : True := trivial
theorem head.tw4433315090154635215 : True := trivial
theorem head.tw12475708393154427166 : True := trivial
theorem head.tw7704315382344345624 : True := trivial
theorem head.tw9929037282122898367 : True := trivial
theorem head.tw5515381820778694223 : True := trivial
theorem head.tw13508044439285423174 : True := trivial
theorem head.tw1917425121527220963 : True := trivial
theorem head.tw11005904730967762025 : True := trivial
theorem head.tw1049504637558403989 : True := trivial
theorem head.tw18416563613846182222 : True := trivial
theorem head.tw7277520189549225825 : True := trivial
theorem head.tw1618804561499322139 : True := trivial
theorem head.tw9101448428047585222 : True := trivial
theorem head.tw13988103294471073821 : True := trivial
theorem head.tw12740806245664736207 : True := trivial
theorem head.tw8715499118904818895 : True := trivial
theorem head.tw5944575059761466720 : True := trivial
theorem head.tw12032222614953749359 : True := trivial
theorem head.tw10356212845559719233 : True := trivial
theorem head.tw9133290819911140118 : True := trivial
theorem head.tw14788773977795034992 : True := trivial
theorem head.tw10812213935944405949 : True := trivial
theorem head.tw604627371996746742 : True := trivial
theorem head.tw6110071263904590700 : True := trivial
theorem head.tw3083302935323014018 : True := trivial
theorem head.tw1276956409769668328 : True := trivial
theorem head.tw2280412012180511131 : True := trivial
theorem head.tw5545290222666719245 : True := trivial
theorem head.tw14699528089545365996 : True := trivial
theorem head.tw6846597200999610202 : True := trivial
theorem head.tw6388477656530123435 : True := trivial
theorem head.tw8912104118211102971 : True := trivial
theorem head.tw6507506987150044280 : True := trivial
theorem head.tw8866670633112419022 : True := trivial
theorem head.tw12604462930493870256 : True := trivial
theorem head.tw15064752311394979489 : True := trivial
theorem head.tw6684978435548883818 : True := trivial
theorem head.tw497287684792784471 : True := trivial
theorem head.tw14028522991509751376 : True := trivial
theorem head.tw16966009324859112401 : True := trivial
theorem head.tw14693403494379673507 : True := trivial
theorem head.tw13743032657059413451 : True := trivial
theorem head.tw5508695066786827253 : True := trivial
theorem head.tw4693820183103290663 : True := trivial
theorem head.tw8402214883040486957 : True := trivial
theorem head.tw1499353310998574721 : True := trivial
theorem head.tw8185714761375850791 : True := trivial
theorem head.tw18433677622606106133 : True := trivial
theorem head.tw17212568112599259466 : True := trivial
theorem head.tw5617373736292572815 : True := trivial
theorem head.tw7287109101882759415 : True := trivial
theorem head.tw10519217271611395807 : True := trivial
theorem head.tw1620002657737552111 : True := trivial
theorem head.tw3688799982635324794 : True := trivial
theorem head.tw6857060684267632606 : True := trivial
theorem head.tw13337238644230332656 : True := trivial
theorem head.tw2506711637615833298 : True := trivial
theorem head.tw807142644699662319 : True := trivial
theorem head.tw8476099583838051002 : True := trivial
theorem head.tw16014373381606645092 : True := trivial
theorem head.tw10079960370226730655 : True := trivial
theorem head.tw16817119741492734445 : True := trivial
theorem head.tw3581614266968435656 : True := trivial
theorem head.tw15895748673760503845 : True := trivial
theorem head.tw15782939476341012554 : True := trivial
theorem head.tw9082462177598256812 : True := trivial
theorem head.tw11308087075614649832 : True := trivial
theorem head.tw4972248218790579157 : True := trivial
theorem head.tw12310735299239354703 : True := trivial
theorem head.tw13896987355042952010 : True := trivial
theorem head.tw15296082917334920728 : True := trivial
theorem head.tw10366927770000222440 : True := trivial
theorem head.tw4009957668330374740 : True := trivial
theorem head.tw15894371620910866019 : True := trivial
theorem head.tw15091486752826498866 : True := trivial
theorem head.tw5438144065070405397 : True := trivial
theorem head.tw7994106446794305319 : True := trivial
theorem head.tw10261356005730403935 : True := trivial
theorem head.tw3453547403478019728 : True := trivial
theorem head.tw18123143868385100064 : True := trivial
theorem head.tw6889739017440866108 : True := trivial
theorem head.tw12763952150808568291 : True := trivial
theorem head.tw17844492200522320778 : True := trivial
theorem head.tw5599997604879368025 : True := trivial
theorem head.tw7833285031277912329 : True := trivial
theorem head.tw8101760021730824546 : True := trivial
theorem head.tw16106133796442146334 : True := trivial
theorem head.tw16922147877168347812 : True := trivial
theorem head.tw2518057956044344595 : True := trivial
theorem head.tw18384547517478447814 : True := trivial
theorem head.tw7928285938522686346 : True := trivial
theorem head.tw976808484645153763 : True := trivial
theorem head.tw11194998557105285118 : True := trivial
theorem head.tw13086575352542018947 : True := trivial
theorem head.tw7119846925741900413 : True := trivial
theorem head.tw2864405669816312776 : True := trivial
theorem head.tw7758381527925395934 : True := trivial
theorem head.tw8414573866900348196 : True := trivial
theorem head.tw13180129090757240718 : True := trivial
theorem head.tw12892129938458570674 : True := trivial
theorem head.tw9057548533030974712 : True := trivial
theorem head.tw3501597964444990463 : True := trivial
theorem head.tw9083612298779875492 : True := trivial
theorem head.tw17197444120159719569 : True := trivial
theorem head.tw17142359554024780413 : True := trivial
theorem head.tw9062998866958442273 : True := trivial
theorem head.tw17332727794074296334 : True := trivial
theorem head.tw8169693465737517768 : True := trivial
theorem head.tw4964814941381164201 : True := trivial
theorem head.tw4328326069544100732 : True := trivial
theorem head.tw9978949632667528635 : True := trivial
theorem head.tw300626226527484142 : True := trivial
theorem head.tw14139502460874162764 : True := trivial
theorem head.tw5986637957666399235 : True := trivial
theorem head.tw4160124254940468481 : True := trivial
theorem head.tw12352672977532951062 : True := trivial
theorem head.tw5401097623525119610 : True := trivial
theorem head.tw14943480678444902952 : True := trivial
theorem head.tw11628534518673281344 : True := trivial
theorem head.tw14679116673082234219 : True := trivial
theorem head.tw4607607821588926596 : True := trivial
theorem head.tw5797013207949663412 : True := trivial
theorem head.tw9196398404247428943 : True := trivial
theorem head.tw3103639331685909893 : True := trivial
theorem head.tw5629256929840616583 : True := trivial
theorem head.tw7680146299302783591 : True := trivial
theorem head.tw17525636777796739105 : True := trivial
theorem head.tw17789423225533864492 : True := trivial
theorem head.tw3991279037241028524 : True := trivial
theorem head.tw14527164170590304321 : True := trivial
theorem head.tw12287978374625458572 : True := trivial
theorem head.tw16441004959143088680 : True := trivial
theorem head.tw9592777112578238593 : True := trivial
theorem head.tw6211381574409162282 : True := trivial
theorem head.tw16128420640991077102 : True := trivial
theorem head.tw13295774097974887486 : True := trivial
theorem head.tw11105056867450500199 : True := trivial
theorem head.tw12704426703380559182 : True := trivial
theorem head.tw12865059321931465230 : True := trivial
theorem head.tw6161856959107265637 : True := trivial
set_option maxRecDepth 100000 in
set_option maxHeartbeats 8000000 in
theorem head : PySem.Challenge.rw_il0088_01.Holds := by
  w_on; o_law; k_head; (case hw => w_witness2)
  w_strict (
    k_go0
    (refine' Mine.join ?jfk ?jX ?jT ?jhB ?jhlist ?jF ?jW ?jhlen ?jhC ?jN ?jhQ)
    (case jX => assumption)
    (case jT => assumption)
    (case jhB => exact fun b o e => of_hideAll _ e)
    (case jhlist => exact (let ⟨o, e, _⟩ := lifted; ⟨o, e⟩))
    (case jF => assumption)
    (case jW => assumption)
    (case jhlen => assumption)
    (case jhC => assumption)
    (case jN => assumption)
    (case jfk => exact { type := rfl, issubclass := rfl, str := rfl, bytes := rfl, isinstance := rfl, len := rfl, zip := rfl, object := rfl, dFspath := ⟨_, _, rfl, ⟨_, _, _, rfl, rfl⟩, rfl⟩, dGetSepP := ⟨_, _, rfl, ⟨_, _, _, rfl, rfl⟩, rfl⟩, dJoin := ⟨_, _, rfl, ⟨_, _, _, rfl, rfl⟩, rfl⟩, dSplit := ⟨_, _, rfl, ⟨_, _, _, rfl, rfl⟩, rfl⟩, dSplitextP := ⟨_, _, rfl, ⟨_, _, _, rfl, rfl⟩, rfl⟩, dSplitext := ⟨_, _, rfl, ⟨_, _, _, rfl, rfl⟩, rfl⟩, dSplitroot := ⟨_, _, rfl, ⟨_, _, _, rfl, rfl⟩, rfl⟩, dNormpath := ⟨_, _, rfl, ⟨_, _, _, rfl, rfl⟩, rfl⟩, dTranslate := ⟨_, _, rfl, ⟨_, _, _, rfl, rfl⟩, rfl⟩, dEscape := ⟨_, _, rfl, ⟨_, _, _, rfl, rfl⟩, rfl⟩, dTranslateP := ⟨_, rfl, ⟨_, _, _, rfl, rfl⟩, rfl⟩, dJoinTranslatedPartsP := ⟨_, _, rfl, ⟨_, _, _, rfl, rfl⟩, rfl⟩, dEscapeCdataP := ⟨_, _, rfl, ⟨_, _, _, rfl, rfl⟩, rfl⟩, dEscapeAttribP := ⟨_, _, rfl, ⟨_, _, _, rfl, rfl⟩, rfl⟩, dEscapeAttribHtmlP := ⟨_, _, rfl, ⟨_, _, _, rfl, rfl⟩, rfl⟩, dEscapeCdataC14nP := ⟨_, _, rfl, ⟨_, _, _, rfl, rfl⟩, rfl⟩, dEscapeAttribC14nP := ⟨_, _, rfl, ⟨_, _, _, rfl, rfl⟩, rfl⟩, dLawDrawnP := ⟨_, _, rfl, ⟨_, _, _, rfl, rfl⟩, rfl⟩, dLawSpelledP := ⟨_, _, rfl, ⟨_, _, _, rfl, rfl⟩, rfl⟩, dLawTablesP := ⟨_, _, rfl, ⟨_, _, _, rfl, rfl⟩, rfl⟩, dLawBarredP := ⟨_, _, rfl, ⟨_, _, _, rfl, rfl⟩, rfl⟩, dLawRunsP := ⟨_, _, rfl, ⟨_, _, _, rfl, rfl⟩, rfl⟩, dLawBareP := ⟨_, _, rfl, ⟨_, _, _, rfl, rfl⟩, rfl⟩, dLawReadP := ⟨_, _, rfl, ⟨_, _, _, rfl, rfl⟩, rfl⟩, dLawAgreesP := ⟨_, _, rfl, ⟨_, _, _, rfl, rfl⟩, rfl⟩, spc := ⟨_, _, _, _, rfl, rfl, ⟨rfl, rfl, rfl⟩, rfl, by repeat (first | exact .nil | refine .cons ⟨rfl, ⟨_, rfl⟩, ⟨_, rfl⟩⟩ ?_), rfl⟩, pat := ⟨_, _, _, _, _, _, rfl, rfl, rfl, rfl⟩, low := ⟨_, rfl⟩ })
    (case jhQ => (intro s' k g os gr; refine ⟨⟨.inl ⟨.bool true, .bool true, [], rfl, fun _ => rfl, .bool _, ?post, fun _ => ⟨List.nodup_nil, fun a h => nomatch h⟩⟩, k, os, g.trans (by assumption)⟩, gr⟩; wrow_post))
  )
end Mine
theorem PySem.Challenge.cw_il0088_01_holds : PySem.Challenge.rw_il0088_01.Holds :=
  Mine.head
