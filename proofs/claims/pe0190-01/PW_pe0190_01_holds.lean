import PyProof.Rows.All
import Wide.All
import OpenK.AllK
import Wide.FinOn
import KE.KRevIter
import KE.IntBitsLaws
import Lean
import PySem.Challenge.RW_pe0190_01
set_option Elab.async false
set_option maxRecDepth 10000
set_option linter.unusedVariables false
namespace Mine
open PySem PyProof.Rows
/-- plain data, as trees -/
inductive AV where
  | none
  | bool (b : Bool)
  | int (i : Int)
  | str (s : Str)
  | tuple (l : List AV)
  | list (l : List AV)
  | dict (l : List (Str × AV))
  deriving Inhabited
noncomputable abbrev Fz := Addr → Option Obj
noncomputable def lObj (vs : List Value) (n : Nat) : Obj := { cls := .type "list", data := .seq vs.toArray n }
noncomputable def tObj (vs : List Value) (n : Nat) : Obj := { cls := .type "tuple", data := .seq vs.toArray n }
noncomputable def dObj (es : List DictEntry) (n : Nat) : Obj := { cls := .type "dict", data := .dict es.toArray n }
noncomputable def hashP (P : Params) (x : Str) : Int := if x.cps.isEmpty = true then 0 else reduceHash (P.strHash x.cps)
/-- an entry bears a key -/
noncomputable def KeyIs (P : Params) (k : Str) (e : DictEntry) : Prop := (∃ t, e.key = .str k t) ∧ e.hash = hashP P k
inductive Rep (P : Params) (D : Fz) : AV → Value → Prop
  | none : Rep P D .none .none
  | bool (b : Bool) : Rep P D (.bool b) (.bool b)
  | int (i : Int) (t : Tok) : Rep P D (.int i) (.int i t)
  | str (s : Str) (t : Tok) : Rep P D (.str s) (.str s t)
  | tuple {ds : List AV} {a : Addr} {vs : List Value} {n : Nat} : D a = some (tObj vs n) → ds.length = vs.length →
      (∀ (i : Nat) d v, ds[i]? = some d → vs[i]? = some v → Rep P D d v) → Rep P D (.tuple ds) (.ref a)
  | list {ds : List AV} {a : Addr} {vs : List Value} {n : Nat} : D a = some (lObj vs n) → ds.length = vs.length →
      (∀ (i : Nat) d v, ds[i]? = some d → vs[i]? = some v → Rep P D d v) → Rep P D (.list ds) (.ref a)
  | dict {kvs : List (Str × AV)} {a : Addr} {es : List DictEntry} {n : Nat} : D a = some (dObj es n) → a ≠ sysModules → (kvs.map (·.1)).Nodup → kvs.length = es.length →
      (∀ (i : Nat) k d e, kvs[i]? = some (k, d) → es[i]? = some e → KeyIs P k e) →
      (∀ (i : Nat) k d e, kvs[i]? = some (k, d) → es[i]? = some e → Rep P D d e.val) → Rep P D (.dict kvs) (.ref a)
theorem Rep.mono {P : Params} {D D' : Fz} (hD : ∀ b o, D b = some o → D' b = some o) {d : AV} {v : Value} (h : Rep P D d v) : Rep P D' d v := by
  induction h with
  | none => exact .none
  | bool b => exact .bool b
  | int i t => exact .int i t
  | str s t => exact .str s t
  | tuple h1 h2 _ ih => exact .tuple (hD _ _ h1) h2 ih
  | list h1 h2 _ ih => exact .list (hD _ _ h1) h2 ih
  | dict h1 hs hn h2 h3 _ ih => exact .dict (hD _ _ h1) hs hn h2 h3 ih
noncomputable abbrev RepL (P : Params) (D : Fz) : List AV → List Value → Prop := Paired (Rep P D)
noncomputable def RepP (P : Params) (D : Fz) (p : Str × AV) (e : DictEntry) : Prop := KeyIs P p.1 e ∧ Rep P D p.2 e.val
noncomputable abbrev RepE (P : Params) (D : Fz) : List (Str × AV) → List DictEntry → Prop := Paired (RepP P D)
theorem paired_of {α β : Type} {F : α → β → Prop} : ∀ {l : List α} {m : List β}, l.length = m.length → (∀ (i : Nat) a b, l[i]? = some a → m[i]? = some b → F a b) → Paired F l m
  | [], [], _, _ => .nil
  | [], _ :: _, h, _ => by cases h
  | _ :: _, [], h, _ => by cases h
  | a :: l, b :: m, h, hf => .cons (hf 0 a b rfl rfl) (paired_of (by simpa using h) fun i x y hx hy => hf (i + 1) x y (by simpa using hx) (by simpa using hy))
theorem paired_get {α β : Type} {F : α → β → Prop} {l : List α} {m : List β} (h : Paired F l m) : ∀ {i : Nat} {a : α} {b : β}, l[i]? = some a → m[i]? = some b → F a b := by
  induction h with
  | nil => intro i a b h _; simp at h
  | cons h1 _ ih =>
    intro i a b ha hb
    cases i with
    | zero => simp at ha hb; subst ha; subst hb; exact h1
    | succ i => exact ih (by simpa using ha) (by simpa using hb)
theorem paired_some {α β : Type} {F : α → β → Prop} {l : List α} {m : List β} (h : Paired F l m) {i : Nat} {a : α} (ha : l[i]? = some a) : ∃ b, m[i]? = some b ∧ F a b := by
  have hl := h.length
  have hi : i < l.length := by
    cases Nat.lt_or_ge i l.length with
    | inl h => exact h
    | inr h => rw [List.getElem?_eq_none h] at ha; cases ha
  have : i < m.length := hl ▸ hi
  exact ⟨m[i], List.getElem?_eq_getElem this, paired_get h ha (List.getElem?_eq_getElem this)⟩
theorem paired_append {α β : Type} {F : α → β → Prop} {l l' : List α} {m m' : List β} (h : Paired F l m) (h' : Paired F l' m') : Paired F (l ++ l') (m ++ m') := by
  induction h with
  | nil => exact h'
  | cons h1 _ ih => exact .cons h1 ih
theorem paired_set {α β : Type} {F : α → β → Prop} {l : List α} {m : List β} (h : Paired F l m) {a : α} {b : β} (hab : F a b) (k : Nat) : Paired F (l.set k a) (m.set k b) := by
  induction h generalizing k with
  | nil => simp; exact .nil
  | cons h1 h2 ih => cases k with
    | zero => exact .cons hab h2
    | succ k => simpa using Paired.cons h1 (ih k)
theorem paired_reverse {α β : Type} {F : α → β → Prop} {l : List α} {m : List β} (h : Paired F l m) : Paired F l.reverse m.reverse := by
  induction h with
  | nil => exact .nil
  | cons h1 _ ih => rw [List.reverse_cons, List.reverse_cons]; exact ih.snoc h1
theorem paired_erase {α β : Type} {F : α → β → Prop} {l : List α} {m : List β} (h : Paired F l m) (k : Nat) : Paired F (l.eraseIdx k) (m.eraseIdx k) := by
  induction h generalizing k with
  | nil => simp; exact .nil
  | cons h1 h2 ih => cases k with
    | zero => exact h2
    | succ k => simpa using Paired.cons h1 (ih k)
section
variable {P : Params} {D : Fz}
theorem repL_mono {D' : Fz} (hD : ∀ b o, D b = some o → D' b = some o) {ds : List AV} {vs : List Value} (h : RepL P D ds vs) : RepL P D' ds vs := h.mono fun _ _ => Rep.mono hD
theorem repE_mono {D' : Fz} (hD : ∀ b o, D b = some o → D' b = some o) {ds : List (Str × AV)} {vs : List DictEntry} (h : RepE P D ds vs) : RepE P D' ds vs := h.mono fun _ _ x => ⟨x.1, x.2.mono hD⟩
theorem Rep.bool' {b : Bool} {v : Value} (h : Rep P D (.bool b) v) : v = .bool b := by cases h; rfl
theorem Rep.int' {i : Int} {v : Value} (h : Rep P D (.int i) v) : ∃ t, v = .int i t := by cases h; exact ⟨_, rfl⟩
theorem Rep.str' {x : Str} {v : Value} (h : Rep P D (.str x) v) : ∃ t, v = .str x t := by cases h; exact ⟨_, rfl⟩
theorem Rep.tuple' {ds : List AV} {v : Value} (h : Rep P D (.tuple ds) v) : ∃ a vs n, v = .ref a ∧ D a = some (tObj vs n) ∧ RepL P D ds vs := by
  cases h with | tuple h1 h2 h3 => exact ⟨_, _, _, rfl, h1, paired_of h2 h3⟩
theorem Rep.list' {ds : List AV} {v : Value} (h : Rep P D (.list ds) v) : ∃ a vs n, v = .ref a ∧ D a = some (lObj vs n) ∧ RepL P D ds vs := by
  cases h with | list h1 h2 h3 => exact ⟨_, _, _, rfl, h1, paired_of h2 h3⟩
theorem Rep.dict' {ds : List (Str × AV)} {v : Value} (h : Rep P D (.dict ds) v) : ∃ a es n, v = .ref a ∧ D a = some (dObj es n) ∧ RepE P D ds es ∧ a ≠ sysModules ∧ (ds.map (·.1)).Nodup := by
  cases h with | dict h1 hs hn h2 h3 h4 => exact ⟨_, _, _, rfl, h1, paired_of h2 fun i p e hp he => ⟨h3 i p.1 p.2 e hp he, h4 i p.1 p.2 e hp he⟩, hs, hn⟩
theorem Rep.tuple_ {ds : List AV} {a : Addr} {vs : List Value} {n : Nat} (h1 : D a = some (tObj vs n)) (h : RepL P D ds vs) : Rep P D (.tuple ds) (.ref a) := .tuple h1 h.length fun _ _ _ hd hv => paired_get h hd hv
theorem Rep.list_ {ds : List AV} {a : Addr} {vs : List Value} {n : Nat} (h1 : D a = some (lObj vs n)) (h : RepL P D ds vs) : Rep P D (.list ds) (.ref a) := .list h1 h.length fun _ _ _ hd hv => paired_get h hd hv
theorem Rep.dict_ {ds : List (Str × AV)} {a : Addr} {es : List DictEntry} {n : Nat} (h1 : D a = some (dObj es n)) (hs : a ≠ sysModules) (hn : (ds.map (·.1)).Nodup) (h : RepE P D ds es) : Rep P D (.dict ds) (.ref a) :=
  .dict h1 hs hn h.length (fun _ _ _ _ hd hv => (paired_get h hd hv).1) fun _ _ _ _ hd hv => (paired_get h hd hv).2
end
/-- the fixed things of the run -/
structure Wd where
  prog : Program
  w : World
  T : List Addr
  G : Heap → Prop
  mg : Str → Option Value
  mb : Str → Option Value
  keepG : ∀ h h', G h → (∀ b o, h.get? b = some o → h'.get? b = some o) → G h'
  tab : ∀ h t, G h → t ∈ T → ∃ o vs, h.get? t = some o ∧ o.cls = .none ∧ o.data = .fields vs
  gns : ∀ h, G h → h.Ns mainGlobals mg
  bns : ∀ h, G h → h.Ns builtinsNs mb
  nol : ∀ h, G h → h.NoLimit
  sys : ∀ h, G h → ∃ o, h.get? sysModules = some o
noncomputable abbrev Wd.M (W : Wd) : Model := model W.prog W.w
noncomputable abbrev Wd.P (W : Wd) : Params := W.w.params
structure Ext (W : Wd) (D D' : Fz) (s s' : Shared) : Prop where
  gens : s'.gens = s.gens
  drawn : s'.drawn = s.drawn
  os : s'.os = s.os
  keep : ∀ b o, b ∉ W.T → s.heap.get? b = some o → s'.heap.get? b = some o
  le : ∀ b o, D b = some o → D' b = some o
  fz : ∀ b o, D' b = some o → s'.heap.get? b = some o
  new : ∀ b o, D' b = some o → D b = some o ∨ s.heap.get? b = none
  glob : W.G s'.heap
theorem Wd.notT {W : Wd} {h : Heap} {b : Addr} {o : Obj} (hG : W.G h) (e : h.get? b = some o) (hc : o.cls ≠ .none) : b ∉ W.T := fun hm => by
  obtain ⟨o', vs, h1, h2, h3⟩ := W.tab h b hG hm
  rw [e] at h1; cases h1; exact hc h2
theorem Wd.notT' {W : Wd} {h : Heap} {b : Addr} {o : Obj} (hG : W.G h) (e : h.get? b = some o) (hc : ∀ vs, o.data ≠ .fields vs) : b ∉ W.T := fun hm => by
  obtain ⟨o', vs, h1, h2, h3⟩ := W.tab h b hG hm
  rw [e] at h1; cases h1; exact hc _ h3
theorem Wd.notSys {W : Wd} {h : Heap} {b : Addr} (hG : W.G h) (e : h.get? b = none) : b ≠ sysModules := by
  rintro rfl
  obtain ⟨o, h1⟩ := W.sys h hG
  rw [e] at h1; cases h1
theorem Wd.notT0 {W : Wd} {h : Heap} {b : Addr} (hG : W.G h) (e : h.get? b = none) : b ∉ W.T := fun hm => by
  obtain ⟨o', vs, h1, _⟩ := W.tab h b hG hm
  rw [e] at h1; cases h1
theorem Ext.refl {W : Wd} {D : Fz} {s : Shared} (hG : W.G s.heap) (hD : ∀ b o, D b = some o → s.heap.get? b = some o) : Ext W D D s s :=
  ⟨rfl, rfl, rfl, fun _ _ _ e => e, fun _ _ e => e, hD, fun _ _ e => .inl e, hG⟩
theorem Ext.trans {W : Wd} {D D' D'' : Fz} {s s' s'' : Shared} (hG : W.G s.heap) (x : Ext W D D' s s') (y : Ext W D' D'' s' s'') : Ext W D D'' s s'' where
  gens := y.gens.trans x.gens
  drawn := y.drawn.trans x.drawn
  os := y.os.trans x.os
  keep := fun b o hb e => y.keep b o hb (x.keep b o hb e)
  le := fun b o e => y.le b o (x.le b o e)
  fz := y.fz
  new := fun b o e => by
    rcases y.new b o e with h | h
    · exact x.new b o h
    · right
      cases q : s.heap.get? b with
      | none => rfl
      | some o' =>
        by_cases hb : b ∈ W.T
        · obtain ⟨_, _, h1, _⟩ := W.tab _ b x.glob hb
          rw [h] at h1; cases h1
        · rw [x.keep b o' hb q] at h; cases h
  glob := y.glob
/-- a step that keeps every object -/
theorem Ext.of_keeps {W : Wd} {D : Fz} {s s' : Shared} (hG : W.G s.heap) (hD : ∀ b o, D b = some o → s.heap.get? b = some o)
    (hg : s'.gens = s.gens) (hd : s'.drawn = s.drawn) (ho : s'.os = s.os) (hk : ∀ b o, s.heap.get? b = some o → s'.heap.get? b = some o) : Ext W D D s s' :=
  ⟨hg, hd, ho, fun b o _ e => hk b o e, fun _ _ e => e, fun b o e => hk b o (hD b o e), fun _ _ e => .inl e, W.keepG _ _ hG hk⟩
noncomputable def addF (D : Fz) (a : Addr) (o : Obj) : Fz := fun b => if b = a then some o else D b
theorem addF_self (D : Fz) (a : Addr) (o : Obj) : addF D a o a = some o := if_pos rfl
theorem addF_ne {D : Fz} {a b : Addr} {o : Obj} (h : b ≠ a) : addF D a o b = D b := if_neg h
theorem addF_le {D : Fz} {a : Addr} {o : Obj} (hD : D a = none) : ∀ b x, D b = some x → addF D a o b = some x := fun b x e => by
  rw [addF_ne]; · exact e
  · rintro rfl; rw [hD] at e; cases e
/-- … and freezes one new object -/
theorem Ext.add {W : Wd} {D : Fz} {s s' : Shared} {a : Addr} {o : Obj} (hG : W.G s.heap) (hD : ∀ b o, D b = some o → s.heap.get? b = some o)
    (hg : s'.gens = s.gens) (hd : s'.drawn = s.drawn) (ho : s'.os = s.os) (hk : ∀ b o, s.heap.get? b = some o → s'.heap.get? b = some o)
    (ha : s.heap.get? a = none) (ha' : s'.heap.get? a = some o) : Ext W D (addF D a o) s s' := by
  have hDa : D a = none := by
    cases q : D a with
    | none => rfl
    | some x => rw [hD _ _ q] at ha; cases ha
  refine ⟨hg, hd, ho, fun b o _ e => hk b o e, addF_le hDa, fun b x e => ?_, fun b x e => ?_, W.keepG _ _ hG hk⟩
  · by_cases hb : b = a
    · subst hb; rw [addF_self] at e; cases e; exact ha'
    · rw [addF_ne hb] at e; exact hk _ _ (hD _ _ e)
  · by_cases hb : b = a
    · subst hb; exact .inr ha
    · rw [addF_ne hb] at e; exact .inl e
theorem get_size (h : Heap) : h.get? h.objs.size = none := by
  cases q : h.get? h.objs.size with
  | none => rfl
  | some o => exact absurd (Heap.lt_size q) (Nat.lt_irrefl _)
end Mine
set_option maxRecDepth 10000
set_option linter.unusedVariables false
namespace Mine
open PySem PyProof.Rows
noncomputable abbrev Sg := List (Str × (Bool × AV))
noncomputable def put : Sg → Str → Bool × AV → Sg
  | [], x, v => [(x, v)]
  | (y, u) :: r, x, v => if x == y then (y, v) :: r else (y, u) :: put r x v
noncomputable def frz (xs : List Str) (σ : Sg) : Sg := σ.map fun p => (p.1, (p.2.1 && !xs.contains p.1, p.2.2))
theorem put_lookup (σ : Sg) (x : Str) (v : Bool × AV) (y : Str) : (put σ x v).lookup y = if y = x then some v else σ.lookup y := by
  induction σ with
  | nil =>
    show List.lookup y [(x, v)] = _
    rw [List.lookup_cons]
    by_cases h : y = x
    · subst h; simp
    · have : (y == x) = false := by simpa using h
      simp [this, h]
  | cons p r ih =>
    obtain ⟨z, u⟩ := p
    unfold put
    by_cases hz : x = z
    · subst hz
      simp only [beq_self_eq_true, if_true, List.lookup_cons]
      by_cases h : y = x
      · subst h; simp
      · have : (y == x) = false := by simpa using h
        simp [this, h]
    · have : (x == z) = false := by simpa using hz
      simp only [this, Bool.false_eq_true, if_false, List.lookup_cons]
      rw [ih]
      by_cases h : y = x
      · subst h
        simp [this]
      · simp [h]
theorem frz_lookup (xs : List Str) (σ : Sg) (y : Str) : (frz xs σ).lookup y = (σ.lookup y).map fun u => (u.1 && !xs.contains y, u.2) := by
  induction σ with
  | nil => rfl
  | cons p r ih =>
    obtain ⟨z, u⟩ := p
    show List.lookup y ((z, (u.1 && !xs.contains z, u.2)) :: frz xs r) = _
    rw [List.lookup_cons, List.lookup_cons]
    cases h : y == z with
    | true => have : y = z := by simpa using h
              subst this; rfl
    | false => exact ih
/-- the name bears the value -/
noncomputable def VarAt (env : Env) (h : Heap) (x : Str) (v : Value) : Prop :=
  (env.kindOf x = some .local ∧ ∃ m, h.Ns env.locals m ∧ m x = some v) ∨
  ((env.kindOf x = some .cell ∨ env.kindOf x = some .free) ∧ ∃ c, env.cells.lookup x = some c ∧ h.IsCell c (some v))
noncomputable def OwnRep (P : Params) (D : Fz) : AV → Obj → Prop
  | .list ds, o => ∃ vs n, o = lObj vs n ∧ RepL P D ds vs
  | .dict kvs, o => ∃ es n, o = dObj es n ∧ RepE P D kvs es ∧ (kvs.map (·.1)).Nodup
  | _, _ => False
theorem OwnRep.mono {P : Params} {D D' : Fz} (hD : ∀ b o, D b = some o → D' b = some o) {d : AV} {o : Obj} (h : OwnRep P D d o) : OwnRep P D' d o := by
  cases d with
  | list ds => obtain ⟨vs, n, h1, h2⟩ := h; exact ⟨vs, n, h1, repL_mono hD h2⟩
  | dict ds => obtain ⟨vs, n, h1, h2, h3⟩ := h; exact ⟨vs, n, h1, repE_mono hD h2, h3⟩
  | _ => exact h
theorem OwnRep.rep {P : Params} {D : Fz} {d : AV} {o : Obj} {a : Addr} (h : OwnRep P D d o) (ha : D a = some o) (hs : a ≠ sysModules) : Rep P D d (.ref a) := by
  cases d with
  | list ds => obtain ⟨vs, n, rfl, h2⟩ := h; exact .list_ ha h2
  | dict ds => obtain ⟨vs, n, rfl, h2, h3⟩ := h; exact .dict_ ha hs h3 h2
  | _ => exact h.elim
theorem OwnRep.cls {P : Params} {D : Fz} {d : AV} {o : Obj} (h : OwnRep P D d o) : o.cls ≠ .none ∧ (∀ v, o.data ≠ .cell v) := by
  cases d with
  | list ds => obtain ⟨vs, n, rfl, h2⟩ := h; exact ⟨nofun, nofun⟩
  | dict ds => obtain ⟨vs, n, rfl, h2⟩ := h; exact ⟨nofun, nofun⟩
  | _ => exact h.elim
/-- no code table is frozen -/
noncomputable def NT (W : Wd) (D : Fz) : Prop := ∀ t ∈ W.T, D t = none
theorem NT.ext {W : Wd} {D D' : Fz} {s s' : Shared} (h : NT W D) (hG : W.G s.heap) (x : Ext W D D' s s') : NT W D' := fun t ht => by
  cases q : D' t with
  | none => rfl
  | some o =>
    rcases x.new t o q with h' | h'
    · rw [h t ht] at h'; cases h'
    · obtain ⟨_, _, h1, _⟩ := W.tab _ t hG ht
      rw [h'] at h1; cases h1
structure St (W : Wd) (env : Env) (wr : List Str) (D₀ : Fz) (s₀ : Shared) (σ : Sg) (D : Fz) (s : Shared) (oa : Str → Addr) : Prop where
  ext : Ext W D₀ D s₀ s
  glob0 : W.G s₀.heap
  nt0 : NT W D₀
  kind : env.scope.kind = .function
  glo : env.globals = mainGlobals
  bui : env.builtins = builtinsNs
  ns : ∃ m, s.heap.Ns env.locals m
  locD : D env.locals = none
  loc0 : s₀.heap.get? env.locals = none
  wrt : ∀ x ∈ wr, env.kindOf x = some .local ∨ (env.kindOf x = some .cell ∧ ∃ c v, env.cells.lookup x = some c ∧ s.heap.IsCell c v ∧ D c = none ∧
    s₀.heap.get? c = none ∧ ∀ y c', y ≠ x → env.cells.lookup y = some c' → c' ≠ c)
  fro : ∀ x d, σ.lookup x = some (false, d) → ∃ v, VarAt env s.heap x v ∧ Rep W.P D d v
  own : ∀ x d, σ.lookup x = some (true, d) → VarAt env s.heap x (.ref (oa x)) ∧ (∃ o, s.heap.get? (oa x) = some o ∧ OwnRep W.P D d o) ∧ D (oa x) = none ∧
    s₀.heap.get? (oa x) = none ∧ oa x ≠ env.locals
  inj : ∀ x y d d', σ.lookup x = some (true, d) → σ.lookup y = some (true, d') → x ≠ y → oa x ≠ oa y
section
variable {W : Wd} {env : Env} {wr : List Str} {D₀ D D' : Fz} {s₀ s s' : Shared} {σ : Sg} {oa : Str → Addr}
theorem VarAt.keep {h h' : Heap} (hG : W.G h) (hL : env.locals ∉ W.T) (hk : ∀ b o, b ∉ W.T → h.get? b = some o → h'.get? b = some o) {x : Str} {v : Value} (y : VarAt env h x v) : VarAt env h' x v := by
  rcases y with ⟨h1, m, hn, hm⟩ | ⟨h1, c, hc, o, ho, hd⟩
  · exact .inl ⟨h1, m, hn.at' fun o e => hk _ o hL e, hm⟩
  · exact .inr ⟨h1, c, hc, o, hk c o (W.notT' hG ho (by rw [hd]; nofun)) ho, hd⟩
theorem St.nt (S : St W env wr D₀ s₀ σ D s oa) : NT W D := S.nt0.ext S.glob0 S.ext
theorem St.locT (S : St W env wr D₀ s₀ σ D s oa) : env.locals ∉ W.T := W.notT0 S.glob0 S.loc0
theorem St.glob (S : St W env wr D₀ s₀ σ D s oa) : W.G s.heap := S.ext.glob
theorem St.fz (S : St W env wr D₀ s₀ σ D s oa) : ∀ b o, D b = some o → s.heap.get? b = some o := S.ext.fz
theorem St.locAt (S : St W env wr D₀ s₀ σ D s oa) : ∃ o, s.heap.get? env.locals = some o := let ⟨_, o, _, _, ho, _⟩ := S.ns; ⟨o, ho⟩
theorem Ext.none_of (x : Ext W D D' s s') {a : Addr} {o : Obj} (hD : D a = none) (ho : s.heap.get? a = some o) : D' a = none := by
  cases q : D' a with
  | none => rfl
  | some o' =>
    rcases x.new _ _ q with h | h
    · rw [hD] at h; cases h
    · rw [ho] at h; cases h
theorem St.step (S : St W env wr D₀ s₀ σ D s oa) (x : Ext W D D' s s') : St W env wr D₀ s₀ σ D' s' oa where
  ext := S.ext.trans S.glob0 x
  glob0 := S.glob0
  nt0 := S.nt0
  kind := S.kind
  glo := S.glo
  bui := S.bui
  ns := let ⟨m, hm⟩ := S.ns; ⟨m, hm.at' fun o e => x.keep _ o S.locT e⟩
  locD := let ⟨_, ho⟩ := S.locAt; x.none_of S.locD ho
  loc0 := S.loc0
  wrt := fun y hy => by
    rcases S.wrt y hy with h | ⟨h, c, v, h1, ⟨o, ho, hd⟩, h3, h4, h5⟩
    · exact .inl h
    · exact .inr ⟨h, c, v, h1, ⟨o, x.keep _ _ (W.notT0 S.glob0 h4) ho, hd⟩, x.none_of h3 ho, h4, h5⟩
  fro := fun y d hy => let ⟨v, h1, h2⟩ := S.fro y d hy; ⟨v, h1.keep S.glob S.locT x.keep, h2.mono x.le⟩
  own := fun y d hy => by
    obtain ⟨h1, ⟨o, ho, h2⟩, h3, h4, h5⟩ := S.own y d hy
    exact ⟨h1.keep S.glob S.locT x.keep, ⟨o, x.keep _ _ (W.notT0 S.glob0 h4) ho, h2.mono x.le⟩, x.none_of h3 ho, h4, h5⟩
  inj := S.inj
/-- no heap change, some owned names are frozen -/
theorem St.weaken {σ' : Sg} (S : St W env wr D₀ s₀ σ D s oa) (h : ∀ x u, σ'.lookup x = some u → σ.lookup x = some u) : St W env wr D₀ s₀ σ' D s oa :=
  { S with fro := fun x d e => S.fro x d (h _ _ e), own := fun x d e => S.own x d (h _ _ e), inj := fun x y d d' e e' => S.inj x y d d' (h _ _ e) (h _ _ e') }
theorem St.freeze1 (S : St W env wr D₀ s₀ σ D s oa) (x : Str) : ∃ D', (∀ b o, D b = some o → D' b = some o) ∧ St W env wr D₀ s₀ (frz [x] σ) D' s oa := by
  cases hx : σ.lookup x with
  | none =>
    refine ⟨D, fun _ _ e => e, S.weaken fun y u e => ?_⟩
    rw [frz_lookup] at e
    cases hy : σ.lookup y with
    | none => rw [hy] at e; cases e
    | some u' =>
      rw [hy] at e
      have : y ≠ x := by rintro rfl; rw [hx] at hy; cases hy
      have hc : ([x] : List Str).contains y = false := by simpa using this
      rw [Option.map_some, hc] at e
      simpa using e
  | some u =>
    obtain ⟨b, d⟩ := u
    cases b with
    | false =>
      refine ⟨D, fun _ _ e => e, S.weaken fun y u e => ?_⟩
      rw [frz_lookup] at e
      by_cases hyx : y = x
      · subst hyx
        rw [hx] at e
        rw [hx]; simpa using e
      · have hc : ([x] : List Str).contains y = false := by simpa using hyx
        cases hy : σ.lookup y with
        | none => rw [hy] at e; cases e
        | some u' => rw [hy, Option.map_some, hc] at e; simpa using e
    | true =>
      obtain ⟨h1, ⟨o, ho, h2⟩, h3, h4, h5⟩ := S.own x d hx
      have le : ∀ b o', D b = some o' → addF D (oa x) o b = some o' := addF_le h3
      have nn : ∀ b, b ≠ oa x → D b = none → addF D (oa x) o b = none := fun b hb e => by rw [addF_ne hb]; exact e
      have lk : ∀ y u, (frz [x] σ).lookup y = some u → (y = x ∧ u = (false, d)) ∨ (y ≠ x ∧ σ.lookup y = some u) := fun y u e => by
        rw [frz_lookup] at e
        by_cases hyx : y = x
        · subst hyx
          rw [hx] at e
          left
          refine ⟨rfl, ?_⟩
          simpa using e.symm
        · right
          refine ⟨hyx, ?_⟩
          have hc : ([x] : List Str).contains y = false := by simpa using hyx
          cases hy : σ.lookup y with
          | none => rw [hy] at e; cases e
          | some u' => rw [hy, Option.map_some, hc] at e; simpa using e
      refine ⟨addF D (oa x) o, le, { S with ext := ?_, locD := nn _ (Ne.symm h5) S.locD, wrt := ?_, fro := ?_, own := ?_, inj := ?_ }⟩
      · refine { S.ext with le := fun b o' e => le _ _ (S.ext.le b o' e), fz := fun b o' e => ?_, new := fun b o' e => ?_ }
        · by_cases hb : b = oa x
          · subst hb; rw [addF_self] at e; cases e; exact ho
          · rw [addF_ne hb] at e; exact S.ext.fz _ _ e
        · by_cases hb : b = oa x
          · subst hb; exact .inr h4
          · rw [addF_ne hb] at e; exact S.ext.new _ _ e
      · intro y hy
        rcases S.wrt y hy with q | ⟨q, c, v, q1, ⟨oc, hoc, hdc⟩, q3, q4, q5⟩
        · exact .inl q
        · refine .inr ⟨q, c, v, q1, ⟨oc, hoc, hdc⟩, nn _ ?_ q3, q4, q5⟩
          rintro rfl
          rw [ho] at hoc; cases hoc
          exact h2.cls.2 _ hdc
      · intro y d' e
        rcases lk y _ e with ⟨rfl, e'⟩ | ⟨_, e'⟩
        · cases e'
          exact ⟨_, h1, (h2.mono le).rep (addF_self ..) (W.notSys S.glob0 h4)⟩
        · obtain ⟨v, q1, q2⟩ := S.fro y d' e'
          exact ⟨v, q1, q2.mono le⟩
      · intro y d' e
        rcases lk y _ e with ⟨rfl, e'⟩ | ⟨hyx, e'⟩
        · cases e'
        · obtain ⟨q1, ⟨o', ho', q2⟩, q3, q4, q5⟩ := S.own y d' e'
          exact ⟨q1, ⟨o', ho', q2.mono le⟩, nn _ (S.inj y x d' d e' hx hyx) q3, q4, q5⟩
      · intro y z d1 d2 e1 e2 hne
        rcases lk y _ e1 with ⟨_, e'⟩ | ⟨_, e1'⟩
        · cases e'
        · rcases lk z _ e2 with ⟨_, e'⟩ | ⟨_, e2'⟩
          · cases e'
          · exact S.inj y z d1 d2 e1' e2' hne
theorem frz_nil (σ : Sg) : ∀ y, (frz [] σ).lookup y = σ.lookup y := fun y => by
  rw [frz_lookup]
  cases σ.lookup y with
  | none => rfl
  | some u => simp
theorem frz_cons (x : Str) (xs : List Str) (σ : Sg) : ∀ y, (frz (x :: xs) σ).lookup y = (frz xs (frz [x] σ)).lookup y := fun y => by
  rw [frz_lookup, frz_lookup, frz_lookup]
  cases σ.lookup y with
  | none => rfl
  | some u =>
    simp only [Option.map_some, List.contains_cons, List.contains_nil, Bool.or_false, Bool.not_or, Bool.and_assoc]
theorem St.freeze (xs : List Str) : ∀ {σ : Sg} {D : Fz}, St W env wr D₀ s₀ σ D s oa → ∃ D', (∀ b o, D b = some o → D' b = some o) ∧ St W env wr D₀ s₀ (frz xs σ) D' s oa := by
  induction xs with
  | nil => intro σ D S; exact ⟨D, fun _ _ e => e, S.weaken fun y u e => by rw [← e, frz_nil]⟩
  | cons x xs ih =>
    intro σ D S
    obtain ⟨D1, le1, S1⟩ := S.freeze1 x
    obtain ⟨D2, le2, S2⟩ := ih S1
    exact ⟨D2, fun b o e => le2 _ _ (le1 _ _ e), S2.weaken fun y u e => by rw [← e, frz_cons]⟩
end
end Mine
set_option maxRecDepth 10000
set_option linter.unusedVariables false
namespace Mine
open PySem PyProof.Rows
section
variable {W : Wd} {env : Env} {wr : List Str} {D₀ D D' : Fz} {s₀ s s' : Shared} {σ : Sg} {oa : Str → Addr} {A : Around} {E : Value → Shared → Prop}
theorem wp_load {x : Str} {v : Value} {Q : Value → Shared → Prop} (hk : env.scope.kind = .function) (hx : VarAt env s.heap x v) (hn : (x == ("__classdict__" : Str)) = false) (h : Q v s) :
    wpAny W.M A (loadName env x) Q E s := by
  rcases hx with ⟨h1, m, hm, hv⟩ | ⟨h1 | h1, c, hc, hv⟩
  · exact wpAny_loadName_local hk h1 hm hv h
  · exact wpAny_loadName_cell hk h1 hc hv h
  · exact wpAny_loadName_free hk h1 hc hv h hn
theorem wp_global {x : Str} {v : Value} {Q : Value → Shared → Prop} (hk : env.scope.kind = .function) (hg : env.globals = mainGlobals) (hb : env.builtins = builtinsNs) (hkx : env.kindOf x = some .globalImplicit)
    (hG : W.G s.heap) (hv : (W.mg x).or (W.mb x) = some v) (h : Q v s) :
    wpAny W.M A (loadName env x) Q E s := by
  unfold loadName
  simp only [Env.blockKind, hk, hkx, ScopeKind.isAnnotationScope, Bool.false_and, Bool.false_eq_true, if_false]
  unfold loadGlobal
  rw [hg, hb]
  refine wpAny_bind (wpAny_nsGet (W.gns _ hG) ?_)
  cases q : W.mg x with
  | some v' =>
    rw [q] at hv
    have : v' = v := by simpa using hv
    subst this
    exact wpAny_pure h
  | none =>
    rw [q] at hv
    have hv' : W.mb x = some v := by simpa using hv
    refine wpAny_bind (wpAny_nsGet (W.bns _ hG) ?_)
    rw [hv']
    exact wpAny_pure h
theorem ns_fun {h : Heap} {a : Addr} {m m' : Str → Option Value} (x : h.Ns a m) (y : h.Ns a m') : m = m' := x.eq_nsMap.trans y.eq_nsMap.symm
theorem cell_ne_ns {h : Heap} {a c : Addr} {m : Str → Option Value} {v : Option Value} (x : h.Ns a m) (y : h.IsCell c v) : c ≠ a := by
  rintro rfl
  obtain ⟨o, es, ep, ho, hd, _⟩ := x
  obtain ⟨o', ho', hd'⟩ := y
  rw [ho] at ho'; cases ho'
  rw [hd] at hd'; cases hd'
/-- what a store into the frame leaves -/
theorem ext_poke (x : Ext W D₀ D s₀ s) (hG0 : W.G s₀.heap) {a : Addr} {h' : Heap} {tk : Nat} (hs : Heap.SameBut a s.heap h') (hDa : D a = none) (h0 : s₀.heap.get? a = none) (hG : W.G h') : Ext W D₀ D s₀ { s with heap := h', toks := tk } where
  gens := x.gens
  drawn := x.drawn
  os := x.os
  keep := fun b o hb e => by
    have : b ≠ a := by rintro rfl; rw [h0] at e; cases e
    exact (hs.2 b this).trans (x.keep b o hb e)
  le := x.le
  fz := fun b o e => by
    have : b ≠ a := by rintro rfl; rw [hDa] at e; cases e
    exact (hs.2 b this).trans (x.fz b o e)
  new := x.new
  glob := hG
end
/-- no code object -/
noncomputable def NC (o : Obj) : Prop := ∀ vs, o.data = .fields vs → o.cls ≠ .type "code"
theorem NC.of_data {o : Obj} (h : ∀ vs, o.data ≠ .fields vs) : NC o := fun vs e => absurd e (h vs)
theorem NC.of_cls {o : Obj} {c : String} (h : o.cls = .type c) (hc : c ≠ "code") : NC o := fun _ _ e => by rw [h] at e; cases e; exact hc rfl
theorem NC.ns {h : Heap} {a : Addr} {m : Str → Option Value} (x : h.Ns a m) : ∀ o, h.get? a = some o → NC o := fun o e => by
  obtain ⟨o', es, ep, ho, hd, _⟩ := x
  rw [e] at ho; cases ho
  exact .of_data (by rw [hd]; nofun)
theorem NC.cell {h : Heap} {a : Addr} {v : Option Value} (x : h.IsCell a v) : ∀ o, h.get? a = some o → NC o := fun o e => by
  obtain ⟨o', ho, hd⟩ := x
  rw [e] at ho; cases ho
  exact .of_data (by rw [hd]; nofun)
theorem OwnRep.nc {P : Params} {D : Fz} {d : AV} {o : Obj} (h : OwnRep P D d o) : NC o := by
  cases d with
  | list ds => obtain ⟨vs, n, rfl, h2⟩ := h; exact .of_data nofun
  | dict ds => obtain ⟨vs, n, rfl, h2⟩ := h; exact .of_data nofun
  | _ => exact h.elim
/-- G speaks only of what stood at the start -/
structure Wd.Firm (W : Wd) : Prop where
  pokes : ∀ {h₀ h h' : Heap} {ms : List Addr}, W.G h₀ → W.G h → (∀ b o, b ∉ W.T → h₀.get? b = some o → h.get? b = some o) → (∀ a ∈ ms, h₀.get? a = none) → (∀ a ∈ ms, ∀ o, h.get? a = some o → NC o) → (∀ b o, b ∉ ms → h.get? b = some o → h'.get? b = some o) → W.G h'
theorem Wd.Firm.poke {W : Wd} (F : W.Firm) {h₀ h h' : Heap} {a : Addr} (g0 : W.G h₀) (g : W.G h) (k : ∀ b o, b ∉ W.T → h₀.get? b = some o → h.get? b = some o) (h0 : h₀.get? a = none) (hn : ∀ o, h.get? a = some o → NC o) (hs : Heap.SameBut a h h') : W.G h' :=
  F.pokes (ms := [a]) g0 g k (fun b hb => by rw [List.mem_singleton.mp hb]; exact h0) (fun b hb => by rw [List.mem_singleton.mp hb]; exact hn) fun b o hb e => (hs.2 b fun x => hb (List.mem_singleton.mpr x)).trans e
section
variable {W : Wd} {env : Env} {wr : List Str} {D₀ D D' : Fz} {s₀ s s' : Shared} {σ : Sg} {oa : Str → Addr} {A : Around} {E : Value → Shared → Prop}
theorem VarAt.poke_loc {h h' : Heap} {m m' : Str → Option Value} {x y : Str} {v : Value} (hn : h.Ns env.locals m) (hn' : h'.Ns env.locals m') (hm : ∀ y, y ≠ x → m' y = m y) (hs : Heap.SameBut env.locals h h')
    (hy : y ≠ x) (q : VarAt env h y v) : VarAt env h' y v := by
  rcases q with ⟨h1, m2, hm2, hv⟩ | ⟨h1, c, hc, hv⟩
  · refine .inl ⟨h1, m', hn', ?_⟩
    rw [hm y hy, ns_fun hn hm2]; exact hv
  · exact .inr ⟨h1, c, hc, hv.sameBut hs (cell_ne_ns hn hv)⟩
theorem VarAt.poke_cell {h h' : Heap} {m : Str → Option Value} {y : Str} {v : Value} {c : Addr} {u : Option Value} (hn : h.Ns env.locals m) (hc : h.IsCell c u) (hs : Heap.SameBut c h h')
    (hcs : ∀ c', env.cells.lookup y = some c' → c' ≠ c) (q : VarAt env h y v) : VarAt env h' y v := by
  rcases q with ⟨h1, m2, hm2, hv⟩ | ⟨h1, c', hc', hv⟩
  · exact .inl ⟨h1, m2, hm2.sameBut hs (Ne.symm (cell_ne_ns hm2 hc)), hv⟩
  · exact .inr ⟨h1, c', hc', hv.sameBut hs (hcs _ hc')⟩
noncomputable def refAddr : Value → Addr
  | .ref a => a
  | _ => 0
/-- a store of a frozen value or of a new own object -/
theorem St.store (F : W.Firm) (S : St W env wr D₀ s₀ σ D s oa) {x : Str} {v : Value} {u : Bool × AV} (hx : x ∈ wr)
    (hu : u.1 = false → Rep W.P D u.2 v)
    (hu' : u.1 = true → ∃ a o, v = .ref a ∧ s.heap.get? a = some o ∧ OwnRep W.P D u.2 o ∧ D a = none ∧ s₀.heap.get? a = none ∧ a ≠ env.locals ∧ ∀ y d, σ.lookup y = some (true, d) → y ≠ x → oa y ≠ a)
    {Q : Unit → Shared → Prop} (hQ : ∀ s' oa', St W env wr D₀ s₀ (put σ x u) D s' oa' → (∀ b o, D b = some o → s'.heap.get? b = some o) → Q () s') : wpAny W.M A (storeName env x v) Q E s := by
  have hp : (env.scope.kind == .class || (env.scope.kind == .module && env.locals != env.globals)) = false := by rw [S.kind]; rfl
  obtain ⟨m, hm⟩ := S.ns
  -- the new addresses
  let oa' : Str → Addr := fun y => if y = x then refAddr v else oa y
  have oax : ∀ a, v = .ref a → oa' x = a := fun a e => by show (if x = x then _ else _) = a; rw [if_pos rfl, e]; rfl
  have oay : ∀ y, y ≠ x → oa' y = oa y := fun y h => if_neg h
  have key : ∀ (s' : Shared) (c : Addr), s'.gens = s.gens → s'.drawn = s.drawn → s'.os = s.os → Heap.SameBut c s.heap s'.heap → D c = none → s₀.heap.get? c = none → (∀ o, s.heap.get? c = some o → NC o) → (∃ m, s'.heap.Ns env.locals m) →
      (∀ y ∈ wr, env.kindOf y = some .local ∨ (env.kindOf y = some .cell ∧ ∃ c v, env.cells.lookup y = some c ∧ s'.heap.IsCell c v ∧ D c = none ∧ s₀.heap.get? c = none ∧ ∀ z c', z ≠ y → env.cells.lookup z = some c' → c' ≠ c)) →
      VarAt env s'.heap x v → (∀ y u, y ≠ x → VarAt env s.heap y u → VarAt env s'.heap y u) → (∀ a o, s.heap.get? a = some o → (∃ d, OwnRep W.P D d o) → a ≠ env.locals → a ≠ c) → Q () s' := by
    intro s' c hg hd ho hs hDc h0c hnc hns hw hvx hvy hac
    have hG' : W.G s'.heap := F.poke S.glob0 S.glob S.ext.keep h0c hnc hs
    have e1 : Ext W D₀ D s₀ s' := by
      have z := ext_poke (tk := s'.toks) S.ext S.glob0 hs hDc h0c hG'
      exact ⟨hg.trans S.ext.gens, hd.trans S.ext.drawn, ho.trans S.ext.os, z.keep, z.le, z.fz, z.new, z.glob⟩
    refine hQ s' oa' ⟨e1, S.glob0, S.nt0, S.kind, S.glo, S.bui, hns, S.locD, S.loc0, hw, ?_, ?_, ?_⟩ e1.fz
    · intro y d e
      rw [put_lookup] at e
      by_cases hy : y = x
      · subst hy
        rw [if_pos rfl] at e
        cases e
        exact ⟨v, hvx, hu rfl⟩
      · rw [if_neg hy] at e
        obtain ⟨v', q1, q2⟩ := S.fro y d e
        exact ⟨v', hvy y v' hy q1, q2⟩
    · intro y d e
      rw [put_lookup] at e
      by_cases hy : y = x
      · subst hy
        rw [if_pos rfl] at e
        cases e
        obtain ⟨a, o, rfl, q1, q2, q3, q4, q5, _⟩ := hu' rfl
        rw [oax a rfl]
        exact ⟨hvx, ⟨o, (hs.2 _ (hac a o q1 ⟨_, q2⟩ q5)).trans q1, q2⟩, q3, q4, q5⟩
      · rw [if_neg hy] at e
        obtain ⟨q1, ⟨o, q2, q3⟩, q4, q5, q6⟩ := S.own y d e
        rw [oay y hy]
        exact ⟨hvy y _ hy q1, ⟨o, (hs.2 _ (hac _ o q2 ⟨_, q3⟩ q6)).trans q2, q3⟩, q4, q5, q6⟩
    · intro y z d d' e e' hne
      rw [put_lookup] at e e'
      by_cases hy : y = x
      · subst hy
        rw [if_pos rfl] at e
        rw [if_neg (Ne.symm hne)] at e'
        cases e
        obtain ⟨a, o, rfl, q1, q2, q3, q4, q5, q6⟩ := hu' rfl
        rw [oax a rfl, oay z (Ne.symm hne)]
        exact Ne.symm (q6 z d' e' (Ne.symm hne))
      · rw [if_neg hy] at e
        by_cases hz : z = x
        · subst hz
          rw [if_pos rfl] at e'
          cases e'
          obtain ⟨a, o, rfl, q1, q2, q3, q4, q5, q6⟩ := hu' rfl
          rw [oax a rfl, oay y hy]
          exact q6 y d e hy
        · rw [if_neg hz] at e'
          rw [oay y hy, oay z hz]
          exact S.inj y z d d' e e' hne
  rcases S.wrt x hx with hl | ⟨hl, c, v₀, hc, hcv, hDc, h0c, hcs⟩
  · refine wpAny_storeName_local hl hm (fun h' hn' hs' => ?_) hp
    refine key { s with heap := h', toks := s.toks + 1 } env.locals rfl rfl rfl hs' S.locD S.loc0 (NC.ns hm) ⟨_, hn'⟩ ?_ ?_ ?_ ?_
    · intro y hy
      rcases S.wrt y hy with q | ⟨q, c, v, q1, q2, q3, q4, q5⟩
      · exact .inl q
      · exact .inr ⟨q, c, v, q1, q2.sameBut hs' (cell_ne_ns hm q2), q3, q4, q5⟩
    · exact .inl ⟨hl, _, hn', if_pos rfl⟩
    · exact fun y u hy q => q.poke_loc hm hn' (fun z hz => if_neg hz) hs' hy
    · exact fun a o _ _ h => h
  · refine wpAny_storeName_cell S.kind hl hc hcv fun h' hc' hs' => ?_
    refine key { s with heap := h' } c rfl rfl rfl hs' hDc h0c (NC.cell hcv) ⟨m, hm.sameBut hs' (Ne.symm (cell_ne_ns hm hcv))⟩ ?_ ?_ ?_ ?_
    · intro y hy
      rcases S.wrt y hy with q | ⟨q, c2, v2, q1, q2, q3, q4, q5⟩
      · exact .inl q
      · by_cases hyx : y = x
        · subst hyx
          rw [hc] at q1; cases q1
          exact .inr ⟨q, c, _, hc, hc', q3, q4, q5⟩
        · exact .inr ⟨q, c2, v2, q1, q2.sameBut hs' (hcs y c2 hyx q1), q3, q4, q5⟩
    · exact .inr ⟨.inl hl, c, hc, hc'⟩
    · exact fun y u hy q => q.poke_cell hm hcv hs' (fun c' e => hcs y c' hy e)
    · rintro a o ho ⟨d, hd⟩ _ rfl
      obtain ⟨oc, hoc, hdc⟩ := hcv
      rw [ho] at hoc; cases hoc
      exact hd.cls.2 _ hdc
/-- an own object is changed in its place -/
theorem St.mutate (F : W.Firm) (S : St W env wr D₀ s₀ σ D s oa) {x : Str} {d d' : AV} (hx : σ.lookup x = some (true, d)) {h' : Heap} {tk : Nat} {o' : Obj}
    (hs : Heap.SameBut (oa x) s.heap h') (ho' : h'.get? (oa x) = some o') (hr : OwnRep W.P D d' o') : St W env wr D₀ s₀ (put σ x (true, d')) D { s with heap := h', toks := tk } oa := by
  obtain ⟨h1, ⟨o, ho, h2⟩, h3, h4, h5⟩ := S.own x d hx
  obtain ⟨m, hm⟩ := S.ns
  have hG' : W.G h' := F.poke S.glob0 S.glob S.ext.keep h4 (fun o' e => by rw [ho] at e; cases e; exact h2.nc) hs
  have cne : ∀ {c : Addr} {v : Option Value}, s.heap.IsCell c v → c ≠ oa x := by
    rintro c v ⟨oc, hoc, hdc⟩ rfl
    rw [ho] at hoc; cases hoc
    exact h2.cls.2 _ hdc
  have va : ∀ y v, VarAt env s.heap y v → VarAt env h' y v := by
    intro y v q
    rcases q with ⟨q1, m2, q2, q3⟩ | ⟨q1, c, q2, q3⟩
    · exact .inl ⟨q1, m2, q2.sameBut hs (Ne.symm h5), q3⟩
    · exact .inr ⟨q1, c, q2, q3.sameBut hs (cne q3)⟩
  refine ⟨ext_poke S.ext S.glob0 hs h3 h4 hG', S.glob0, S.nt0, S.kind, S.glo, S.bui, ⟨m, hm.sameBut hs (Ne.symm h5)⟩, S.locD, S.loc0, ?_, ?_, ?_, ?_⟩
  · intro y hy
    rcases S.wrt y hy with q | ⟨q, c, v, q1, q2, q3, q4, q5⟩
    · exact .inl q
    · exact .inr ⟨q, c, v, q1, q2.sameBut hs (cne q2), q3, q4, q5⟩
  · intro y e hy
    rw [put_lookup] at hy
    by_cases hyx : y = x
    · rw [if_pos hyx] at hy; cases hy
    · rw [if_neg hyx] at hy
      obtain ⟨v, q1, q2⟩ := S.fro y e hy
      exact ⟨v, va y v q1, q2⟩
  · intro y e hy
    rw [put_lookup] at hy
    by_cases hyx : y = x
    · subst hyx
      rw [if_pos rfl] at hy
      cases hy
      exact ⟨va _ _ h1, ⟨o', ho', hr⟩, h3, h4, h5⟩
    · rw [if_neg hyx] at hy
      obtain ⟨q1, ⟨o2, q2, q3⟩, q4, q5, q6⟩ := S.own y e hy
      exact ⟨va _ _ q1, ⟨o2, (hs.2 _ (S.inj y x e d hy hx hyx)).trans q2, q3⟩, q4, q5, q6⟩
  · intro y z e e' hy hz hne
    rw [put_lookup] at hy hz
    by_cases hyx : y = x
    · subst hyx
      rw [if_neg (Ne.symm hne)] at hz
      exact S.inj y z d e' hx hz hne
    · rw [if_neg hyx] at hy
      by_cases hzx : z = x
      · subst hzx
        exact S.inj y z e d hy hx hne
      · rw [if_neg hzx] at hz
        exact S.inj y z e e' hy hz hne
end
end Mine
set_option maxRecDepth 10000
set_option linter.unusedVariables false
namespace Mine
open PySem PyProof.Rows
noncomputable abbrev NS := List (Str × NameKind)
structure Cfg where
  Pc : AV → AV → Option AV
  Φ : Str → List AV → Option AV
  Γ : Str → Option AV
noncomputable def omap {α β : Type} (f : α → Option β) : List α → Option (List β)
  | [] => some []
  | a :: l => (f a).bind fun b => (omap f l).map fun bs => b :: bs
/-! ## primitive operations -/
noncomputable def big : Nat := 2 ^ 64
noncomputable def aint : AV → Option Int
  | .int i => some i
  | _ => none
noncomputable def astr : AV → Option Str
  | .str i => some i
  | _ => none
noncomputable def alst : AV → Option (List AV)
  | .list i => some i
  | _ => none
noncomputable def atup : AV → Option (List AV)
  | .tuple i => some i
  | _ => none
noncomputable def adic : AV → Option (List (Str × AV))
  | .dict i => some i
  | _ => none
noncomputable def a1 {α : Type} : List α → Option α
  | [] => none
  | a :: r => if r.isEmpty then some a else none
noncomputable def a2 {α : Type} : List α → Option (α × α)
  | [] => none
  | a :: r => (a1 r).map fun b => (a, b)
noncomputable def a3 {α : Type} : List α → Option (α × α × α)
  | [] => none
  | a :: r => (a2 r).map fun b => (a, b)
theorem bind_some {α β : Type} {x : Option α} {f : α → Option β} {b : β} (h : x.bind f = some b) : ∃ a, x = some a ∧ f a = some b := by
  cases x with
  | none => cases h
  | some a => exact ⟨a, rfl, h⟩
theorem map_some {α β : Type} {x : Option α} {f : α → β} {b : β} (h : x.map f = some b) : ∃ a, x = some a ∧ f a = b := by
  cases x with
  | none => cases h
  | some a => cases h; exact ⟨a, rfl, rfl⟩
theorem ite_some {α : Type} {c : Prop} [Decidable c] {x : Option α} {b : α} (h : (if c then x else none) = some b) : c ∧ x = some b := by
  by_cases hc : c
  · rw [if_pos hc] at h; exact ⟨hc, h⟩
  · rw [if_neg hc] at h; cases h
theorem omap_cons {α γ : Type} {f : α → Option γ} {a : α} {l : List α} {r : List γ} (h : omap f (a :: l) = some r) : ∃ b bs, f a = some b ∧ omap f l = some bs ∧ r = b :: bs := by
  obtain ⟨b, h1, h⟩ := bind_some h
  obtain ⟨bs, h2, rfl⟩ := map_some h
  exact ⟨b, bs, h1, h2, rfl⟩
theorem aint_ {d : AV} {i : Int} (h : aint d = some i) : d = .int i := by cases d <;> cases h; rfl
theorem astr_ {d : AV} {i : Str} (h : astr d = some i) : d = .str i := by cases d <;> cases h; rfl
theorem alst_ {d : AV} {i : List AV} (h : alst d = some i) : d = .list i := by cases d <;> cases h; rfl
theorem atup_ {d : AV} {i : List AV} (h : atup d = some i) : d = .tuple i := by cases d <;> cases h; rfl
theorem adic_ {d : AV} {i : List (Str × AV)} (h : adic d = some i) : d = .dict i := by cases d <;> cases h; rfl
theorem a1_ {α : Type} {l : List α} {a : α} (h : a1 l = some a) : l = [a] := by
  cases l with
  | nil => cases h
  | cons b r => cases r <;> cases h; rfl
theorem a2_ {α : Type} {l : List α} {a b : α} (h : a2 l = some (a, b)) : l = [a, b] := by
  cases l with
  | nil => cases h
  | cons c r => obtain ⟨d, h1, h2⟩ := map_some h; cases h2; rw [a1_ h1]
theorem a3_ {α : Type} {l : List α} {a b c : α} (h : a3 l = some (a, b, c)) : l = [a, b, c] := by
  cases l with
  | nil => cases h
  | cons e r => obtain ⟨⟨_, _⟩, h1, h2⟩ := map_some h; cases h2; rw [a2_ h1]
noncomputable def abinI (op : Operator) (a b : Int) : Option AV := match op with
  | .Add => some (.int (a + b))
  | .Sub => some (.int (a - b))
  | .Mult => if a.natAbs < big then some (.int (a * b)) else none
  | .FloorDiv => if b ≠ 0 ∧ b.natAbs < big then some (.int (a.fdiv b)) else none
  | .Mod => if b = 0 then none else some (.int (a.fmod b))
  | .LShift => if 0 ≤ b ∧ b ≤ 1000000 ∧ a.natAbs < big then some (.int (a * 2 ^ b.toNat)) else none
  | _ => none
/-- a list of one number, so many times -/
noncomputable def arep (a b : AV) : Option AV := (alst a).bind fun l => (a1 l).bind fun z => (aint z).bind fun z => (aint b).bind fun n => if -10000 ≤ n ∧ n ≤ 10000 then some (.list (List.replicate n.toNat (.int z))) else none
noncomputable def abin (op : Operator) (a b : AV) : Option AV := match a with
  | .int a => (aint b).bind (abinI op a)
  | .str a => if op == .Add then (astr b).bind fun b => if a.length + b.length ≤ 10000 then some (.str (a ++ b)) else none else none
  | .list l => if op == .Add then (alst b).bind fun b => if l.length + b.length ≤ 10000 then some (.list (l ++ b)) else none else if op == .Mult then arep (.list l) b else none
  | _ => none
noncomputable def aun (op : UnaryOp) (a : AV) : Option AV := match op with
  | .USub => (aint a).map fun a => .int (-a)
  | .Invert => (aint a).map fun a => .int (-a - 1)
  | _ => none
noncomputable def aeq1 (a b : AV) : Option Bool := match a with
  | .int a => (aint b).map fun b => a == b
  | .str a => (astr b).map fun b => a == b
  | _ => none
noncomputable def aeqs : List AV → List AV → Option Bool
  | [], m => some m.isEmpty
  | a :: l, m => match m with
    | [] => some false
    | b :: m => (aeq1 a b).bind fun c => (aeqs l m).map fun r => c && r
noncomputable def aeq (a b : AV) : Option Bool := match a with
  | .list a => (alst b).bind fun b => if a.length ≤ 1000 ∧ b.length ≤ 1000 then aeqs a b else none
  | .tuple a => (atup b).bind fun b => if a.length = b.length ∧ a.length ≤ 1000 then aeqs a b else none
  | a => aeq1 a b
noncomputable def dget : List (Str × AV) → Str → Option AV
  | [], _ => none
  | (k, d) :: r, x => if x = k then some d else dget r x
noncomputable def dput : List (Str × AV) → Str → AV → List (Str × AV)
  | [], x, v => [(x, v)]
  | (k, d) :: r, x, v => if x = k then (k, v) :: r else (k, d) :: dput r x v
noncomputable def acmpI (a b : AV) (f : Int → Int → Bool) : Option Bool := (aint a).bind fun a => (aint b).map fun b => f a b
noncomputable def acmpIn (a b : AV) : Option Bool := (aint a).bind fun i => (alst b).bind fun l => (omap aint l).map fun l => l.contains i
noncomputable def acmp (op : CmpOp) (a b : AV) : Option Bool := match op with
  | .Eq => aeq a b
  | .NotEq => (aeq a b).map (!·)
  | .Lt => acmpI a b fun a b => decide (a < b)
  | .LtE => acmpI a b fun a b => decide (a ≤ b)
  | .Gt => acmpI a b fun a b => decide (b < a)
  | .GtE => acmpI a b fun a b => decide (b ≤ a)
  | .In => match astr a with
    | some x => (adic b).map fun m => (dget m x).isSome
    | none => acmpIn a b
  | .NotIn => match astr a with
    | some x => (astr b).map fun y => !Txt.contains y x
    | none => (acmpIn a b).map (!·)
  | _ => none
noncomputable def atru : AV → Option Bool
  | .bool b => some b
  | .int i => some (i != 0)
  | .str x => if x.length ≤ 1000000 then some (x.length != 0) else none
  | _ => none
noncomputable def apick {α : Type} (l : List α) (lo hi st : Option Int) : List α :=
  (sliceRange (sliceBounds lo hi st l.length).1 (sliceBounds lo hi st l.length).2.1 (sliceBounds lo hi st l.length).2.2).filterMap (l[·]?)
noncomputable def acut (x : Str) (lo hi : Option Int) : Str := if ((Builtin.Str.strSliceIndices lo hi 1 x.length).length == x.length) = true then x else ⟨((Builtin.Str.strSliceIndices lo hi 1 x.length).filterMap (x.cps[·]?)).toArray⟩
noncomputable def aidx (l : List AV) (i : Int) : Option AV := (seqIndex? i l.length).bind fun j => l[j]?
noncomputable def asub (a i : AV) : Option AV := match a with
  | .list l => (aint i).bind fun i => if l.length ≤ 1000 then aidx l i else none
  | .tuple l => (aint i).bind fun i => if l.length ≤ 1000 then aidx l i else none
  | .dict m => (astr i).bind fun x => dget m x
  | _ => none
noncomputable def apart (ev : Expr → Option AV) : Option Expr → Option (Option Int)
  | none => some none
  | some e => ((ev e).bind aint).map some
noncomputable def aslice (a : AV) (lo hi st : Option Int) : Option AV := match a with
  | .list l => if st ≠ some 0 ∧ l.length ≤ 1000000 then some (.list (apick l lo hi st)) else none
  | .tuple l => (a3 l).bind fun p => if st = none ∧ lo = none ∧ hi = some 2 then some (.tuple [p.1, p.2.1]) else none
  | .str x => if st = none ∧ x.length ≤ 1000000 then some (.str (acut x lo hi)) else none
  | _ => none
/-! ## names -/
noncomputable def okName (x : Str) : Bool := !(x == ("__debug__" : Str)) && !(x == ("__classdict__" : Str))
noncomputable def aname (C : Cfg) (sc : NS) (σ : Sg) (x : Str) : Option AV := if okName x then (match sc.lookup x with
  | none => none
  | some k => if k == .globalImplicit then C.Γ x else if k == .globalExplicit then none else (σ.lookup x).bind fun p => if p.1 then none else some p.2) else none
/-- a name that is only looked into -/
noncomputable def isName : Expr → Option Str
  | .Name x _ => some x
  | _ => none
theorem isName_ {e : Expr} {x : Str} (h : isName e = some x) : ∃ p, e = .Name x p := by unfold isName at h; split at h <;> cases h; exact ⟨_, rfl⟩
noncomputable def tupOf : Expr → Option (List Expr)
  | .Tuple ts _ _ => some ts
  | _ => none
theorem tupOf_ {e : Expr} {ts : List Expr} (h : tupOf e = some ts) : ∃ k p, e = .Tuple ts k p := by unfold tupOf at h; split at h <;> cases h; exact ⟨_, _, rfl⟩
noncomputable def abor (C : Cfg) (ev : Expr → Option AV) (sc : NS) (σ : Sg) (e : Expr) : Option AV := match isName e with
  | some x => if okName x then (match sc.lookup x with
    | none => none
    | some k => if k == .globalImplicit then C.Γ x else if k == .globalExplicit then none else (σ.lookup x).map (·.2)) else none
  | none => ev e
noncomputable def plainArg : Expr → Bool
  | .Starred .. => false
  | _ => true
noncomputable def asum : List AV → Option Int
  | [] => some 0
  | d :: l => (aint d).bind fun i => (asum l).map (i + ·)
noncomputable def alen : AV → Option AV
  | .list l => if l.length ≤ 1000000 then some (.int l.length) else none
  | .tuple l => if l.length ≤ 1000000 then some (.int l.length) else none
  | .str x => if x.length ≤ 1000000 then some (.int x.length) else none
  | _ => none
noncomputable def asumv (a : AV) : Option AV := (alst a).bind fun l => if l.length ≤ 1000000 then (asum l).map .int else none
noncomputable def adivm (a b : AV) : Option AV := (aint a).bind fun a => (aint b).bind fun b => if b ≠ 0 ∧ b.natAbs < big then some (.tuple [.int (a.fdiv b), .int (a.fmod b)]) else none
noncomputable def acall (C : Cfg) (sc : NS) (f : Str) (as : List AV) : Option AV :=
  if sc.lookup f == some .globalImplicit && okName f then
    if f == ("len" : Str) then (a1 as).bind alen
    else if f == ("sum" : Str) then (a1 as).bind asumv
    else if f == ("divmod" : Str) then (a2 as).bind fun p => adivm p.1 p.2
    else C.Φ f as
  else none
noncomputable def afind (x y : Str) (i j : Nat) : Int := match Builtin.Str.occurrences x y i (min j x.length) 1 with
  | k :: _ => (k : Int)
  | [] => -1
noncomputable def abitl (o : AV) (as : List AV) : Option AV := (aint o).bind fun a => if as.isEmpty then some (.int (Builtin.Int.intBits a)) else none
noncomputable def astarts (o : AV) (as : List AV) : Option AV := (astr o).bind fun x => ((a1 as).bind astr).map fun y => .bool (Txt.startswith x y)
noncomputable def aends (o : AV) (as : List AV) : Option AV := (astr o).bind fun x => ((a1 as).bind astr).map fun y => .bool (Txt.endswith x y)
noncomputable def aget (o : AV) (as : List AV) : Option AV := (adic o).bind fun m => (a2 as).bind fun p => (astr p.1).map fun x => (dget m x).getD p.2
noncomputable def afind3 (x : Str) (a b c : AV) : Option AV := (astr a).bind fun y => (aint b).bind fun i => (aint c).bind fun j => if 0 ≤ i ∧ 0 ≤ j then some (.int (afind x y i.toNat j.toNat)) else none
noncomputable def afindm (o : AV) (as : List AV) : Option AV := (astr o).bind fun x => (a3 as).bind fun p => afind3 x p.1 p.2.1 p.2.2
noncomputable def ameth (m : Str) (o : AV) (as : List AV) : Option AV :=
  if m == ("bit_length" : Str) then abitl o as
  else if m == ("startswith" : Str) then astarts o as
  else if m == ("endswith" : Str) then aends o as
  else if m == ("get" : Str) then aget o as
  else if m == ("find" : Str) then afindm o as
  else none
noncomputable def isStrV : AV → Bool
  | .str _ => true
  | _ => false
noncomputable def isPct (op : Operator) (a : AV) : Bool := op == .Mod && isStrV a
noncomputable def isInst (sc : NS) (f : Str) (es : List Expr) : Bool := match a2 es with
  | some p => match isName p.2 with
    | some t => plainArg p.1 && (f == ("isinstance" : Str) && sc.lookup f == some .globalImplicit) && (t == ("tuple" : Str) && sc.lookup t == some .globalImplicit)
    | none => false
  | none => false
noncomputable def plainBase : Expr → Bool
  | .Call .. => false
  | _ => true
noncomputable def allPlain : List Expr → Bool
  | [] => true
  | e :: r => plainArg e && allPlain r
/-! ## targets -/
noncomputable def abind (wr : List Str) (σ : Sg) (t : Expr) (d : AV) : Option Sg := (isName t).bind fun x => if wr.contains x then some (put σ x (false, d)) else none
noncomputable def abinds (wr : List Str) : Sg → List Expr → List AV → Option Sg
  | σ, [], ds => if ds.isEmpty then some σ else none
  | σ, t :: ts, ds => match ds with
    | [] => none
    | d :: ds => (abind wr σ t d).bind fun σ' => abinds wr σ' ts ds
noncomputable def atgt (wr : List Str) (σ : Sg) (t : Expr) (d : AV) : Option Sg := match tupOf t with
  | some ts => (atup d).bind (abinds wr σ ts)
  | none => abind wr σ t d
/-! ## comprehensions -/
noncomputable def ownNames (sc : Scope) : List Str := (sc.names.filter fun p => (p.2 == .local || p.2 == .cell)).map (·.1)
noncomputable def relNames (sc : Scope) (outer : NS) : NS := sc.names.map fun p => if (p.2 == .free && outer.lookup p.1 == some .cell) then (p.1, .cell) else p
noncomputable def froz (σ : Sg) (x : Str) : Bool := match σ.lookup x with
  | some (false, _) => true
  | _ => false
noncomputable def compOk (sc : Scope) (outer : NS) (σ : Sg) : Bool := sc.kind == .function && sc.names.all (fun p => !(p.2 == .free) || ((outer.lookup p.1 == some .cell || outer.lookup p.1 == some .free) && froz σ p.1)) &&
  decide ((sc.names.map (·.1)).Nodup)
noncomputable def compSg (sc : Scope) (σ : Sg) : Sg := σ.filter fun p => sc.names.lookup p.1 == some .free && froz σ p.1
noncomputable def short {β : Type} (l : List β) : Option (List β) := if l.length ≤ 1000000 then some l else none
noncomputable def atests (te : Expr → Option Bool) : List Expr → Option Bool
  | [] => some true
  | c :: r => (te c).bind fun b => if b then atests te r else some false
noncomputable abbrev EvT := NS → Sg → Expr → Option AV
noncomputable abbrev TeT := NS → Sg → Expr → Option Bool
noncomputable abbrev ItT := NS → Sg → Expr → Expr → Option (List AV)
noncomputable def isTup (e : Expr) : Bool := (tupOf e).isSome
/-- the names that a target binds -/
noncomputable def tnames (t : Expr) : List Str := match tupOf t with
  | some ts => ts.filterMap isName
  | none => (isName t).toList
noncomputable def freshT (σ : Sg) (t : Expr) : Bool := (tnames t).all fun x => (σ.lookup x).isNone
/-- the parts of a comprehension from one clause on -/
noncomputable def agen {β : Type} (te : TeT) (it : ItT) (sc : NS) (wr : List Str) (emit : Sg → Option β) : List Comprehension → List AV → Sg → Option (List β)
  | [], _, _ => none
  | g :: gs, items, σ => if freshT σ g.target then (omap (fun d => (atgt wr σ g.target d).bind fun σ₁ => (atests (te sc σ₁) g.ifs).bind fun b => if b then (match gs with
          | [] => (emit σ₁).map fun b => [b]
          | g' :: _ => (it sc σ₁ g'.target g'.iter).bind fun items' => agen te it sc wr emit gs items' σ₁) else some []) items).map List.flatten else none
noncomputable def syncOk (gs : List Comprehension) : Bool := gs.all fun g => g.is_async == 0
noncomputable def acomp {β : Type} (ev : EvT) (te : TeT) (it : ItT) (outer : NS) (σ : Sg) (scope : Scope) (gens : List Comprehension) (emit : Sg → Option β) : Option (List β) :=
  match gens with
  | [] => none
  | g :: gs => if compOk scope outer σ && syncOk (g :: gs) then (it outer σ g.target g.iter).bind fun items => (agen te it (relNames scope outer) (ownNames scope) emit (g :: gs) items (compSg scope σ)).bind short else none
noncomputable def dputs : List (Str × AV) → List (Str × AV) → List (Str × AV)
  | m, [] => m
  | m, (k, d) :: r => dputs (dput m k d) r
noncomputable def apair (a b : Option AV) : Option (Str × AV) := (a.bind astr).bind fun k => b.map fun d => (k, d)
noncomputable def enumFrom : Nat → List AV → List AV
  | _, [] => []
  | k, d :: r => .tuple [.int k, d] :: enumFrom (k + 1) r
noncomputable def rangeList (a b : Int) : List AV := (List.range (b - a).toNat).map fun (k : Nat) => .int (a + k)
noncomputable def alist (o : Option AV) : Option (List AV) := (o.bind alst).bind fun l => if l.length ≤ 1000 then some l else none
/-! ## expressions -/
noncomputable def isSet : Expr → Bool
  | .Set .. => true
  | _ => false
noncomputable def sliceOf : Expr → Option (Option Expr × Option Expr × Option Expr)
  | .Slice lo hi st _ => some (lo, hi, st)
  | _ => none
theorem sliceOf_ {e : Expr} {q : Option Expr × Option Expr × Option Expr} (h : sliceOf e = some q) : ∃ p, e = .Slice q.1 q.2.1 q.2.2 p := by
  unfold sliceOf at h; split at h <;> cases h; exact ⟨_, rfl⟩
noncomputable def isSlice (e : Expr) : Bool := (sliceOf e).isSome
noncomputable def acon : Const → Option AV
  | .none => some .none
  | .bool b => some (.bool b)
  | .int i => some (.int i)
  | .str x => some (.str x)
  | _ => none
noncomputable def abinop (C : Cfg) (op : Operator) (x y : Option AV) : Option AV := x.bind fun a => y.bind fun b => if isPct op a then C.Pc a b else abin op a b
noncomputable def asubs (C : Cfg) (ev : Expr → Option AV) (sc : NS) (σ : Sg) (v i : Expr) : Option AV := (abor C ev sc σ v).bind fun a => match sliceOf i with
  | some p => (apart ev p.1).bind fun lo => (apart ev p.2.1).bind fun hi => (apart ev p.2.2).bind fun st => aslice a lo hi st
  | none => (ev i).bind fun i => asub a i
noncomputable def acallN (C : Cfg) (ev : Expr → Option AV) (sc : NS) (σ : Sg) (f : Str) (as : List Expr) : Option AV :=
  if isInst sc f as then as.head?.bind fun e => ((ev e).bind aint).map fun _ => .bool false
  else if f == ("len" : Str) || f == ("sum" : Str) then (a1 as).bind fun e => if plainArg e then (abor C ev sc σ e).bind fun a => acall C sc f [a] else none
  else if allPlain as then (omap ev as).bind (acall C sc f) else none
noncomputable def acallA (C : Cfg) (ev : Expr → Option AV) (sc : NS) (σ : Sg) (o : Expr) (m : Str) (apos : Pos) (as : List Expr) (pos : Pos) : Option AV :=
  if plainBase o && (allPlain as && decide (as.length ≤ 20) && apos.endLine == pos.line) then (abor C ev sc σ o).bind fun o => (omap ev as).bind fun as => ameth m o as else none
noncomputable def adict (ev : Expr → Option AV) (ks : List (Option Expr)) (vs : List Expr) : Option AV := match ks with
  | [] => if vs.isEmpty then some (.dict []) else none
  | k :: ks => if ks.isEmpty then k.bind fun k => (a1 vs).bind fun v => (apair (ev k) (ev v)).map fun p => .dict [p] else none
noncomputable def acmps (C : Cfg) (ev : Expr → Option AV) (sc : NS) (σ : Sg) (l : Expr) (ops : List CmpOp) (rs : List Expr) : Option Bool :=
  (a1 ops).bind fun op => (a1 rs).bind fun r => if isSet r then none else (ev l).bind fun a => (abor C ev sc σ r).bind fun b => acmp op a b
noncomputable def arange (ev : Expr → Option AV) (as : List Expr) : Option (List AV) := match a1 as with
  | some e => if plainArg e then (ev e).bind fun d => (aint d).bind fun b => if -1000000 ≤ b ∧ b ≤ 1000000 then some (rangeList 0 b) else none else none
  | none => (a2 as).bind fun p => if plainArg p.1 && plainArg p.2 then (ev p.1).bind fun a => (aint a).bind fun a => (ev p.2).bind fun b => (aint b).bind fun b =>
      if (-1000000 ≤ a ∧ a ≤ 1000000) ∧ -1000000 ≤ b ∧ b ≤ 1000000 then some (rangeList a b) else none else none
noncomputable def aiterN (ev : Expr → Option AV) (sc : NS) (tgt : Expr) (f : Str) (as : List Expr) : Option (List AV) :=
  if sc.lookup f == some .globalImplicit then
    if f == ("range" : Str) then arange ev as
    else (a1 as).bind fun e => if plainArg e then ((ev e).bind alst).bind fun l => if l.length ≤ 1000 then
      if f == ("enumerate" : Str) && isTup tgt then some (enumFrom 0 l) else if f == ("reversed" : Str) then some l.reverse else none else none else none
  else none
noncomputable def aiterA (ev : Expr → Option AV) (tgt o : Expr) (m : Str) (apos pos : Pos) : Option (List AV) :=
  if plainBase o && apos.endLine == pos.line then ((ev o).bind adic).bind fun l => if l.length ≤ 1000 then
    if m == ("items" : Str) && isTup tgt then some (l.map fun p => .tuple [.str p.1, p.2]) else if m == ("values" : Str) then some (l.map (·.2)) else none else none else none
noncomputable def callOf : Expr → Option (Expr × List Expr × List Keyword × Pos)
  | .Call f as kws pos => some (f, as, kws, pos)
  | _ => none
noncomputable def attrOf : Expr → Option (Expr × Str × Pos)
  | .Attribute o m p => some (o, m, p)
  | _ => none
theorem callOf_ {e : Expr} {c : Expr × List Expr × List Keyword × Pos} (h : callOf e = some c) : e = .Call c.1 c.2.1 c.2.2.1 c.2.2.2 := by
  unfold callOf at h; split at h <;> cases h; rfl
theorem attrOf_ {e : Expr} {c : Expr × Str × Pos} (h : attrOf e = some c) : e = .Attribute c.1 c.2.1 c.2.2 := by
  unfold attrOf at h; split at h <;> cases h; rfl
mutual
noncomputable def aeval (C : Cfg) : Nat → NS → Sg → Expr → Option AV
  | 0, _, _, _ => none
  | n + 1, sc, σ, e => match e with
    | .Constant c _ _ => acon c
    | .Name x _ => aname C sc σ x
    | .BinOp l op r _ => abinop C op (aeval C n sc σ l) (aeval C n sc σ r)
    | .UnaryOp op x _ => (aeval C n sc σ x).bind (aun op)
    | .IfExp t b o _ => (atest C n sc σ t).bind fun c => if c then aeval C n sc σ b else aeval C n sc σ o
    | .Compare l ops rs _ => (acmps C (aeval C n sc σ) sc σ l ops rs).map .bool
    | .Tuple es _ _ => if allPlain es && decide (es.length ≤ 1000) then (omap (aeval C n sc σ) es).map .tuple else none
    | .List es _ => if allPlain es && decide (es.length ≤ 1000) then (omap (aeval C n sc σ) es).map .list else none
    | .Dict ks vs _ => adict (aeval C n sc σ) ks vs
    | .Subscript v i _ => asubs C (aeval C n sc σ) sc σ v i
    | .Call f as kws pos => if kws.isEmpty then (match isName f with
      | some f => acallN C (aeval C n sc σ) sc σ f as
      | none => (attrOf f).bind fun a => acallA C (aeval C n sc σ) sc σ a.1 a.2.1 a.2.2 as pos) else none
    | .ListComp elt gens scope _ => (acomp (aeval C n) (atest C n) (aiter C n) sc σ scope gens fun σ₁ => aeval C n (relNames scope sc) σ₁ elt).map .list
    | .DictComp k v gens scope _ => (acomp (aeval C n) (atest C n) (aiter C n) sc σ scope gens fun σ₁ => apair (aeval C n (relNames scope sc) σ₁ k) (aeval C n (relNames scope sc) σ₁ v)).map fun l => .dict (dputs [] l)
    | _ => none
noncomputable def atest (C : Cfg) : Nat → NS → Sg → Expr → Option Bool
  | 0, _, _, _ => none
  | n + 1, sc, σ, e => match e with
    | .UnaryOp op x p => if op == .Not then (atest C n sc σ x).map (!·) else (aeval C n sc σ (.UnaryOp op x p)).bind atru
    | .BoolOp op vs _ => (a2 vs).bind fun p => (atest C n sc σ p.1).bind fun b => if b == (op == .And) then atest C n sc σ p.2 else some b
    | .IfExp .. => none
    | .Compare l ops rs _ => acmps C (aeval C n sc σ) sc σ l ops rs
    | e => (aeval C n sc σ e).bind atru
noncomputable def aiter (C : Cfg) : Nat → NS → Sg → Expr → Expr → Option (List AV)
  | 0, _, _, _, _ => none
  | n + 1, sc, σ, tgt, e => match callOf e with
    | some c => if c.2.2.1.isEmpty then (match isName c.1 with
      | some f => aiterN (aeval C n sc σ) sc tgt f c.2.1
      | none => (attrOf c.1).bind fun a => if c.2.1.isEmpty then aiterA (aeval C n sc σ) tgt a.1 a.2.1 a.2.2 c.2.2.2 else none) else none
    | none => if isSet e then none else alist (aeval C n sc σ e)
end
end Mine
set_option maxRecDepth 10000
set_option linter.unusedVariables false
namespace Mine
open PySem PyProof.Rows
structure Ok (W : Wd) (D : Fz) (s : Shared) : Prop where
  glob : W.G s.heap
  fz : ∀ b o, D b = some o → s.heap.get? b = some o
structure Room (A : Around) (n : Nat) : Prop where
  handled : A.handled = none
  depth : A.depth + n < recursionLimit
  units : A.units + 5 * n + 20 < cLine
theorem Room.le {A : Around} {n m : Nat} (r : Room A n) (h : m ≤ n) : Room A m := ⟨r.handled, by have := r.depth; omega, by have := r.units; omega⟩
theorem Room.deeper {A : Around} {n : Nat} (r : Room A (n + 1)) (env : Env) : Room (A.deeper env) n :=
  ⟨r.handled, by have := r.depth; show A.depth + 1 + n < _; omega, by have := r.units; show A.units + 3 + 5 * n + 20 < _; omega⟩
/-- what an expression's tree must give -/
noncomputable def Ev (W : Wd) (A : Around) (D : Fz) (m : Sem Value) (d : AV) (s : Shared) : Prop :=
  wpAny W.M A m (fun v s' => ∃ D', Ext W D D' s s' ∧ Rep W.P D' d v) (fun _ _ => False) s
/-- … a new object, not frozen yet -/
noncomputable def EvO (W : Wd) (A : Around) (D : Fz) (m : Sem Value) (d : AV) (s : Shared) : Prop :=
  wpAny W.M A m (fun v s' => ∃ D' a o, v = .ref a ∧ Ext W D D' s s' ∧ s'.heap.get? a = some o ∧ OwnRep W.P D' d o ∧ s.heap.get? a = none ∧ D' a = none) (fun _ _ => False) s
section
variable {W : Wd} {A : Around} {D D' : Fz} {s s' : Shared} {n : Nat}
theorem Ok.ext (x : Ext W D D' s s') : Ok W D' s' := ⟨x.glob, x.fz⟩
theorem Ok.refl (o : Ok W D s) : Ext W D D s s := .refl o.glob o.fz
theorem Ok.tok (o : Ok W D s) (k : Nat) : Ext W D D s { s with toks := k } := .of_keeps o.glob o.fz rfl rfl rfl fun _ _ e => e
theorem Ok.push (o : Ok W D s) (x : Obj) (k : Nat) : Ext W D D s { s with heap := s.heap.push x, toks := k } := .of_keeps o.glob o.fz rfl rfl rfl fun _ _ e => Heap.get?_push_of_some _ e
theorem Ok.pushF (o : Ok W D s) (x : Obj) (k : Nat) (hx : x.isFreed = false) : Ext W D (addF D s.heap.objs.size x) s { s with heap := s.heap.push x, toks := k } :=
  .add o.glob o.fz rfl rfl rfl (fun _ _ e => Heap.get?_push_of_some _ e) (get_size _) (Heap.get?_push_size _ hx)
theorem Ok.none_of (o : Ok W D s) {a : Addr} (h : s.heap.get? a = none) : D a = none := by
  cases q : D a with
  | none => rfl
  | some x => rw [o.fz _ _ q] at h; cases h
theorem Ok.none_size (o : Ok W D s) : D s.heap.objs.size = none := o.none_of (get_size _)
theorem Ev.pure {v : Value} {d : AV} (o : Ok W D s) (r : Rep W.P D d v) : Ev W A D (pure v) d s := wpAny_pure ⟨D, o.refl, r⟩
theorem EvO.ev {m : Sem Value} {d : AV} (ok : Ok W D s) (h : EvO W A D m d s) : Ev W A D m d s := by
  refine wpAny_mono h (fun v s' h' => ?_) fun _ _ e => e
  obtain ⟨D', a, o, rfl, x, ho, r, hn, hD⟩ := h'
  refine ⟨addF D' a o, { x with le := fun b o' e => addF_le hD _ _ (x.le _ _ e), fz := fun b o' e => ?_, new := fun b o' e => ?_ }, (r.mono (addF_le hD)).rep (addF_self ..) (W.notSys ok.glob hn)⟩
  · by_cases hb : b = a
    · subst hb; rw [addF_self] at e; cases e; exact ho
    · rw [addF_ne hb] at e; exact x.fz _ _ e
  · by_cases hb : b = a
    · subst hb; exact .inr hn
    · rw [addF_ne hb] at e; exact x.new _ _ e
theorem intBits_small {a : Int} (h : a.natAbs < big) : Builtin.Int.intBits a ≤ 64 := by
  unfold big at h
  exact intBits_le_64 (by omega) (by omega)
theorem noPy {x y : Int} (h : y.natAbs < big) : Builtin.divisionGoesByPylong x y = false := by
  apply PyProof.noPylong_of_log2
  by_cases hz : y.natAbs = 0
  · rw [hz]; decide
  · have : y.natAbs.log2 < 64 := (Nat.log2_lt hz).mpr h
    omega
theorem mul_list_w {l : Addr} {vs : List Value} {k : Nat} {x : Int} {u : Tok} {E : Value → Shared → Prop} {Q : Value → Shared → Prop}
    (hl : s.heap.get? l = some (lObj vs k)) (hlo : -(2 ^ 63 : Int) ≤ x) (hhi : x < 2 ^ 63) (hsz : vs.length * x.toNat ≤ 2 ^ 24)
    (h : Q (.ref s.heap.objs.size) { s with heap := s.heap.push { cls := .type "list", data := .seq (List.foldl (fun x1 x2 => x1 ++ x2) #[] (List.replicate (if vs.toArray.isEmpty = true then 0 else x.toNat) vs.toArray)) } }) :
    wpAny W.M A (binaryOp .Mult (.ref l) (.int x u)) Q E s :=
  wpAny_binaryOp_repeat_ref (T := "list") (U := "int") (by decide) ⟨_, hl, rfl⟩ (fun s' => typeIs_int s' x u) noFill_list_mul F.fills_int_mul F.slot_int_rmul repeat_list F.slot_int_index.lookup
    (call_meets F.slot_int_rmul (typeIs_int s x u) F.entry_int_rmul (F.args_int_rmul_2 _ _) (int___rmul___int_list x u l vs.toArray k)
      ⟨hl, rfl, ⟨_, hl, rfl⟩, call_meets F.slot_list_mul ⟨_, hl, rfl⟩ F.entry_list_mul (F.args_list_mul_2 _ _)
        (AutoListH.list___mul___list_int_3 l vs.toArray k x u (by simp [Builtin.List.listFitsIndex]; omega) (by simp; omega) (by simp [Builtin.List.listTooLong, sizeLine]; omega))
        ⟨hl, h⟩⟩)
theorem fold_one (v : Value) : ∀ k : Nat, List.foldl (fun (x1 x2 : Array Value) => x1 ++ x2) #[] (List.replicate k #[v]) = (List.replicate k v).toArray := by
  have gen : ∀ (k : Nat) (acc : List Value), List.foldl (fun (x1 x2 : Array Value) => x1 ++ x2) acc.toArray (List.replicate k #[v]) = (acc ++ List.replicate k v).toArray := by
    intro k
    induction k with
    | zero => intro acc; simp
    | succ k ih =>
      intro acc
      rw [List.replicate_succ, List.foldl_cons]
      have : acc.toArray ++ #[v] = (acc ++ [v]).toArray := by simp
      rw [this, ih, List.replicate_succ, List.append_assoc]
      rfl
  intro k
  have := gen k []
  simpa using this
theorem repL_replicate {P : Params} {d : AV} {v : Value} (r : Rep P D d v) : ∀ k : Nat, RepL P D (List.replicate k d) (List.replicate k v)
  | 0 => .nil
  | k + 1 => .cons r (repL_replicate r k)
theorem mulList_sound {a b d : AV} {va vb : Value} (h : arep a b = some d) (o : Ok W D s) (ra : Rep W.P D a va) (rb : Rep W.P D b vb) :
    EvO W A D (binaryOp .Mult va vb) d s := by
  obtain ⟨l, h1, k1⟩ := bind_some h
  obtain ⟨z, h2, k2⟩ := bind_some k1
  obtain ⟨z, h3, k3⟩ := bind_some k2
  obtain ⟨n, h4, k4⟩ := bind_some k3
  obtain ⟨hn, k5⟩ := ite_some k4
  clear h k1 k2 k3 k4
  cases k5
  cases aint_ h4
  cases aint_ h3
  cases a1_ h2
  cases alst_ h1
  obtain ⟨a1, vs, n1, rfl, h1, r1⟩ := ra.list'
  obtain ⟨u, rfl⟩ := rb.int'
  obtain ⟨v, rfl, rv⟩ : ∃ v, vs = [v] ∧ Rep W.P D (.int z) v := by
    cases r1 with
    | cons h t => cases t; exact ⟨_, rfl, h⟩
  refine mul_list_w (o.fz _ _ h1) (by omega) (by omega) (by simp; omega) ?_
  refine ⟨D, _, _, rfl, o.push _ _, Heap.get?_push_size _ rfl, ⟨List.replicate n.toNat v, 0, ?_, repL_replicate rv _⟩, get_size _, o.none_size⟩
  have := fold_one v n.toNat
  simp only [lObj, List.isEmpty_toArray, List.isEmpty_cons, Bool.false_eq_true, if_false]
  rw [← this]
theorem abinI_sound {op : Operator} {a b : Int} {t u : Tok} {d : AV} (h : abinI op a b = some d) (o : Ok W D s) : Ev W A D (binaryOp op (.int a t) (.int b u)) d s := by
  cases op <;> try cases h
  · exact PyProof.Rows.add_int ⟨D, o.tok _, .int _ _⟩
  · exact PyProof.Rows.sub_int ⟨D, o.tok _, .int _ _⟩
  · obtain ⟨hb, h⟩ := ite_some h
    cases h
    exact PyProof.Rows.mul_int ⟨D, o.tok _, .int _ _⟩ (.of_left (intBits_small hb))
  · by_cases hb : b = 0
    · cases (if_pos hb : (if b = 0 then none else some (AV.int (a.fmod b))) = none).symm.trans h
    · cases (if_neg hb : (if b = 0 then none else some (AV.int (a.fmod b))) = _).symm.trans h
      exact PyProof.Rows.mod_int' hb ⟨D, o.tok _, .int _ _⟩
  · obtain ⟨hb, h⟩ := ite_some h
    cases h
    exact PyProof.Rows.lshift_int_small hb.1 hb.2.1 hb.2.2 ⟨D, o.tok _, .int _ _⟩
  · obtain ⟨hb, h⟩ := ite_some h
    cases h
    exact PyProof.Rows.floordiv_int hb.1 ⟨D, o.tok _, .int _ _⟩ (.inl (noPy hb.2))
theorem abin_sound {op : Operator} {a b d : AV} {va vb : Value} (h : abin op a b = some d) (o : Ok W D s) (ra : Rep W.P D a va) (rb : Rep W.P D b vb) : Ev W A D (binaryOp op va vb) d s := by
  cases a with
  | int a =>
    obtain ⟨b, h1, k⟩ := bind_some h
    cases aint_ h1
    obtain ⟨t, rfl⟩ := ra.int'
    obtain ⟨u, rfl⟩ := rb.int'
    exact abinI_sound k o
  | str a =>
    obtain ⟨ho, k⟩ := ite_some h
    cases eq_of_beq ho
    obtain ⟨b, h1, k⟩ := bind_some k
    cases astr_ h1
    obtain ⟨hb, k⟩ := ite_some k
    cases k
    obtain ⟨t, rfl⟩ := ra.str'
    obtain ⟨u, rfl⟩ := rb.str'
    exact PyProof.Rows.add_str (fun t' tk => ⟨D, o.tok _, .str _ _⟩) (by rw [sizeLine_eq]; omega)
  | list l =>
    by_cases ho : (op == .Add) = true
    · cases eq_of_beq ho
      obtain ⟨m, h1, k⟩ := bind_some (h : ((alst b).bind fun b => if l.length + b.length ≤ 10000 then some (AV.list (l ++ b)) else none) = some d)
      cases alst_ h1
      obtain ⟨hb, k⟩ := ite_some k
      cases k
      obtain ⟨a1, vs, n1, rfl, h1, r1⟩ := ra.list'
      obtain ⟨a2, ws, n2, rfl, h2, r2⟩ := rb.list'
      have e1 := r1.length
      have e2 := r2.length
      refine EvO.ev o ?_
      refine P.add_list (o.fz _ _ h1) (o.fz _ _ h2) ?_ (by rw [sizeLine_eq]; simp; omega)
      exact ⟨D, _, _, rfl, o.push _ _, Heap.get?_push_size _ rfl, ⟨vs ++ ws, 0, by simp [lObj], paired_append r1 r2⟩, get_size _, o.none_size⟩
    · obtain ⟨hm, k⟩ := ite_some ((if_neg ho).symm.trans h)
      cases eq_of_beq hm
      exact (mulList_sound k o ra rb).ev o
  | _ => cases h
theorem aun_sound {op : UnaryOp} {a d : AV} {va : Value} (h : aun op a = some d) (o : Ok W D s) (ra : Rep W.P D a va) : Ev W A D (unaryOp op va) d s := by
  cases op <;> try cases h
  · obtain ⟨i, h1, rfl⟩ := map_some h
    cases aint_ h1
    obtain ⟨t, rfl⟩ := ra.int'
    exact PyProof.Rows.invert_int ⟨D, o.tok _, .int _ _⟩
  · obtain ⟨i, h1, rfl⟩ := map_some h
    cases aint_ h1
    obtain ⟨t, rfl⟩ := ra.int'
    exact PyProof.Rows.neg_int ⟨D, o.tok _, .int _ _⟩
end
end Mine
set_option maxRecDepth 10000
set_option linter.unusedVariables false
namespace Mine
open PySem PyProof.Rows
/-- a container that is looked into: frozen or not -/
noncomputable def Bor (P : Params) (D : Fz) (h : Heap) : AV → Value → Prop
  | .list ds, v => ∃ a vs n, v = .ref a ∧ h.get? a = some (lObj vs n) ∧ RepL P D ds vs
  | .dict kvs, v => ∃ a es n, v = .ref a ∧ h.get? a = some (dObj es n) ∧ RepE P D kvs es ∧ a ≠ sysModules ∧ (kvs.map (·.1)).Nodup
  | .tuple ds, v => ∃ a vs n, v = .ref a ∧ h.get? a = some (tObj vs n) ∧ RepL P D ds vs
  | d, v => Rep P D d v
section
variable {W : Wd} {A : Around} {D D' : Fz} {s s' : Shared} {n : Nat}
theorem Rep.bor {P : Params} {h : Heap} (hf : ∀ b o, D b = some o → h.get? b = some o) {d : AV} {v : Value} (r : Rep P D d v) : Bor P D h d v := by
  cases d with
  | list ds => obtain ⟨a, vs, n, rfl, h1, h2⟩ := r.list'; exact ⟨a, vs, n, rfl, hf _ _ h1, h2⟩
  | tuple ds => obtain ⟨a, vs, n, rfl, h1, h2⟩ := r.tuple'; exact ⟨a, vs, n, rfl, hf _ _ h1, h2⟩
  | dict ds => obtain ⟨a, vs, n, rfl, h1, h2, h3, h4⟩ := r.dict'; exact ⟨a, vs, n, rfl, hf _ _ h1, h2, h3, h4⟩
  | _ => exact r
theorem Bor.ext (x : Ext W D D' s s') (hG : W.G s.heap) {d : AV} {v : Value} (b : Bor W.P D s.heap d v) : Bor W.P D' s'.heap d v := by
  cases d with
  | list ds => obtain ⟨a, vs, n, rfl, h1, h2⟩ := b; exact ⟨a, vs, n, rfl, x.keep _ _ (W.notT hG h1 (by nofun)) h1, repL_mono x.le h2⟩
  | tuple ds => obtain ⟨a, vs, n, rfl, h1, h2⟩ := b; exact ⟨a, vs, n, rfl, x.keep _ _ (W.notT hG h1 (by nofun)) h1, repL_mono x.le h2⟩
  | dict ds => obtain ⟨a, vs, n, rfl, h1, h2, h3, h4⟩ := b; exact ⟨a, vs, n, rfl, x.keep _ _ (W.notT hG h1 (by nofun)) h1, repE_mono x.le h2, h3, h4⟩
  | _ => exact Rep.mono x.le b
/-! ## dicts -/
noncomputable abbrev kd (W : Wd) : KeyKind W.prog W.w Str := strKind W.prog W.w
noncomputable def zipV (kvs : List (Str × AV)) (es : List DictEntry) : List (Str × Value) := List.zipWith (fun p e => (p.1, e.val)) kvs es
theorem keys_zipV {P : Params} {kvs : List (Str × AV)} {es : List DictEntry} (h : RepE P D kvs es) : (zipV kvs es).map (·.1) = kvs.map (·.1) := by
  induction h with
  | nil => rfl
  | cons h1 _ ih => simp only [zipV, List.zipWith_cons_cons, List.map_cons]; exact congrArg _ ih
theorem pairs_zipV {kvs : List (Str × AV)} {es : List DictEntry} (h : RepE W.P D kvs es) : Pairs (kd W) es (zipV kvs es) := by
  induction h with
  | nil => exact .nil
  | cons h1 _ ih =>
    obtain ⟨⟨⟨t, hk⟩, _⟩, _⟩ := h1
    refine .cons ?_ rfl ih
    rw [hk]; exact strKind_is _ _ _ _
theorem keysOf_rep {kvs : List (Str × AV)} {es : List DictEntry} (h : RepE W.P D kvs es) : ∀ e ∈ es, ∃ k, (kd W).is k e.key = true ∧ e.hash = (kd W).hash k := by
  induction h with
  | nil => intro e he; cases he
  | cons h1 _ ih =>
    intro e he
    rcases List.mem_cons.mp he with rfl | he
    · obtain ⟨⟨⟨t, hk⟩, hh⟩, _⟩ := h1
      exact ⟨_, by rw [hk]; exact strKind_is _ _ _ t, hh⟩
    · exact ih e he
theorem dictOf_rep {h : Heap} {a : Addr} {kvs : List (Str × AV)} {es : List DictEntry} {n : Nat} (ha : h.get? a = some (dObj es n)) (hr : RepE W.P D kvs es) (hn : (kvs.map (·.1)).Nodup) : h.DictOf (kd W) a (zipV kvs es) :=
  ⟨_, es.toArray, n, ha, ⟨rfl, rfl, rfl⟩, rfl, fun e he => keysOf_rep hr e (by simpa using he), by simpa using pairs_zipV hr, by rw [keys_zipV hr]; exact hn⟩
theorem valueAt_rep {P : Params} {kvs : List (Str × AV)} {es : List DictEntry} (h : RepE P D kvs es) (x : Str) :
    (∀ d, dget kvs x = some d → ∃ v, valueAt (zipV kvs es) x = some v ∧ Rep P D d v) ∧ (dget kvs x = none → valueAt (zipV kvs es) x = none) := by
  induction h with
  | nil => exact ⟨fun d e => (by cases e), fun _ => rfl⟩
  | @cons p e kvs es h1 _ ih =>
    obtain ⟨k, d0⟩ := p
    have e1 : valueAt (zipV ((k, d0) :: kvs) (e :: es)) x = if k = x then some e.val else valueAt (zipV kvs es) x := by
      simp only [valueAt, zipV, List.zipWith_cons_cons, List.find?_cons]
      by_cases hk : k = x
      · simp [hk]
      · simp [hk]
    have e2 : dget ((k, d0) :: kvs) x = if x = k then some d0 else dget kvs x := rfl
    rw [e1, e2]
    by_cases hk : x = k
    · subst hk
      rw [if_pos rfl, if_pos rfl]
      exact ⟨fun d e => by cases e; exact ⟨_, rfl, h1.2⟩, fun e => by cases e⟩
    · rw [if_neg hk, if_neg (fun e => hk e.symm)]
      exact ih
theorem valueAt_isSome {P : Params} {kvs : List (Str × AV)} {es : List DictEntry} (h : RepE P D kvs es) (x : Str) : (valueAt (zipV kvs es) x).isSome = (dget kvs x).isSome := by
  obtain ⟨h1, h2⟩ := valueAt_rep h x
  cases q : dget kvs x with
  | none => rw [h2 q]; rfl
  | some d => obtain ⟨v, e, _⟩ := h1 d q; rw [e]; rfl
theorem dput_keys (kvs : List (Str × AV)) (x : Str) (d : AV) : (dput kvs x d).map (·.1) = if x ∈ kvs.map (·.1) then kvs.map (·.1) else kvs.map (·.1) ++ [x] := by
  induction kvs with
  | nil => simp [dput]
  | cons p r ih =>
    obtain ⟨k, d0⟩ := p
    unfold dput
    by_cases hk : x = k
    · subst hk; simp
    · rw [if_neg hk, List.map_cons, ih]
      by_cases hm : x ∈ r.map (·.1)
      · rw [if_pos hm, if_pos (by simp only [List.map_cons]; exact List.mem_cons_of_mem _ hm)]; rfl
      · rw [if_neg hm, if_neg (by simp only [List.map_cons, List.mem_cons, not_or]; exact ⟨hk, hm⟩)]; rfl
theorem dput_nodup {kvs : List (Str × AV)} (x : Str) (d : AV) (h : (kvs.map (·.1)).Nodup) : ((dput kvs x d).map (·.1)).Nodup := by
  rw [dput_keys]
  split
  · exact h
  · rename_i hm
    exact List.nodup_append.mpr ⟨h, by simp, fun a ha b hb => by simp at hb; subst hb; rintro rfl; exact hm ha⟩
/-- the concrete store against the abstract one -/
theorem stored_pairs {P : Params} {kvs : List (Str × AV)} {es : List DictEntry} (h : RepE P D kvs es) (hn : (kvs.map (·.1)).Nodup) {x : Str} {v : Value} {d : AV} (hv : Rep P D d v) :
    Paired (fun (p : Str × AV) (q : Str × Value) => p.1 = q.1 ∧ Rep P D p.2 q.2) (dput kvs x d) (stored (zipV kvs es) x v) := by
  have id : ∀ {kvs : List (Str × AV)} {es : List DictEntry}, RepE P D kvs es → Paired (fun (p : Str × AV) (q : Str × Value) => p.1 = q.1 ∧ Rep P D p.2 q.2) kvs (zipV kvs es) := by
    intro kvs es h
    induction h with
    | nil => exact .nil
    | cons h1 _ ih => exact .cons ⟨rfl, h1.2⟩ ih
  by_cases hm : x ∈ kvs.map (·.1)
  · have hany : (zipV kvs es).any (fun kv => decide (kv.1 = x)) = true := by
      rw [List.any_eq_true]
      rw [← keys_zipV h] at hm
      obtain ⟨q, hq, e⟩ := List.mem_map.mp hm
      exact ⟨q, hq, by simpa using e⟩
    unfold stored
    rw [if_pos hany]
    clear hany
    induction h with
    | nil => cases hm
    | @cons p e kvs es h1 h2 ih =>
      obtain ⟨k, d0⟩ := p
      rw [List.map_cons, List.nodup_cons] at hn
      unfold dput
      by_cases hk : x = k
      · subst hk
        rw [if_pos rfl]
        refine .cons ⟨?_, ?_⟩ ?_
        · simp
        · simpa using hv
        · have : (zipV kvs es).map (fun kv => if kv.1 = x then (kv.1, v) else kv) = zipV kvs es := map_store_of_not_mem _ _ _ (by rw [keys_zipV h2]; exact hn.1)
          show Paired _ kvs ((zipV kvs es).map (fun kv => if kv.1 = x then (kv.1, v) else kv))
          rw [this]
          exact id h2
      · rw [if_neg hk]
        refine .cons ?_ (ih hn.2 ((List.mem_cons.mp hm).resolve_left hk))
        have : ¬ k = x := fun e => hk e.symm
        simp [this, h1.2]
  · have hany : ¬ (zipV kvs es).any (fun kv => decide (kv.1 = x)) = true := by
      rw [List.any_eq_true]
      rintro ⟨q, hq, e⟩
      apply hm
      rw [← keys_zipV h]
      exact List.mem_map.mpr ⟨q, hq, by simpa using e⟩
    unfold stored
    rw [if_neg hany]
    have e : dput kvs x d = kvs ++ [(x, d)] := by
      clear h hn hany
      induction kvs with
      | nil => rfl
      | cons p r ih =>
        obtain ⟨k, d0⟩ := p
        simp only [List.map_cons, List.mem_cons, not_or] at hm
        unfold dput
        rw [if_neg hm.1, ih hm.2]; rfl
    rw [e]
    exact (id h).snoc ⟨rfl, hv⟩
theorem repE_of_dictOf {h : Heap} {a : Addr} {kvs : List (Str × AV)} {qs : List (Str × Value)} (hd : h.DictOf (kd W) a qs) (hp : Paired (fun (p : Str × AV) (q : Str × Value) => p.1 = q.1 ∧ Rep W.P D p.2 q.2) kvs qs) :
    ∃ es n, h.get? a = some (dObj es n) ∧ RepE W.P D kvs es := by
  obtain ⟨⟨cl, dd, dt, sl⟩, es, ep, ho, ⟨e1, e2, e3⟩, hdt, hk, hps, hn⟩ := hd
  simp only at e1 e2 e3 hdt
  subst e1 e2 e3 hdt
  refine ⟨es.toList, ep, by rw [ho]; simp [dObj], ?_⟩
  have hk' : ∀ e ∈ es.toList, ∃ k, (kd W).is k e.key = true ∧ e.hash = (kd W).hash k := fun e he => hk e (by simpa using he)
  generalize es.toList = l at hps hk'
  clear ho hk hn
  induction hps generalizing kvs with
  | nil => cases hp; exact .nil
  | @cons e kv l qs h1 h2 _ ih =>
    cases hp with
    | @cons p q kvs qs hpq hr =>
      refine .cons ⟨⟨?_, ?_⟩, by rw [h2]; exact hpq.2⟩ (ih hr fun e he => hk' e (List.mem_cons_of_mem _ he))
      · rw [hpq.1]; exact Value.isStrOf_shape h1
      · obtain ⟨k, q1, q2⟩ := hk' e List.mem_cons_self
        have : k = kv.1 := (kd W).inj _ _ _ q1 h1
        rw [q2, this, hpq.1]; rfl
end
end Mine
set_option maxRecDepth 10000
set_option linter.unusedVariables false
namespace Mine
open PySem PyProof.Rows
section
variable {W : Wd} {A : Around} {D D' : Fz} {s s' : Shared} {n : Nat}
theorem str_beq (x y : Str) : (x.cps.toList == y.cps.toList) = (x == y) := by
  by_cases h : x = y
  · subst h; simp
  · have h1 : (x == y) = false := by simpa using h
    rw [h1]
    have : x.cps.toList ≠ y.cps.toList := fun e => h (by
      obtain ⟨a⟩ := x
      obtain ⟨b⟩ := y
      exact congrArg Str.mk (Array.ext' e))
    simpa using this
theorem eqGives_str (x y : Str) (t u : Tok) : MeetsSeq.EqGives (.str x t) (.str y u) (x == y) := by
  rw [← str_beq]
  exact SeqRoads2.EqGives.str x y t u
theorem aeqs_len {l m : List AV} : ∀ {r : Bool}, aeqs l m = some r → l.length ≠ m.length → r = false := by
  induction l generalizing m with
  | nil => intro r h hl; cases m with
    | nil => exact absurd rfl hl
    | cons b m => exact (Option.some.inj h).symm
  | cons a l ih => intro r h hl; cases m with
    | nil => exact (Option.some.inj h).symm
    | cons b m =>
      obtain ⟨c, _, h⟩ := bind_some h
      obtain ⟨r', h1, rfl⟩ := map_some h
      rw [ih h1 fun e => hl (congrArg Nat.succ e), Bool.and_false]
theorem aeq1_gives {P : Params} {a b : AV} {v u : Value} {c : Bool} (h : aeq1 a b = some c) (ra : Rep P D a v) (rb : Rep P D b u) : MeetsSeq.EqGives v u c := by
  cases a with
  | int a =>
    obtain ⟨b, h1, rfl⟩ := map_some h
    cases aint_ h1
    obtain ⟨t, rfl⟩ := ra.int'
    obtain ⟨t', rfl⟩ := rb.int'
    exact MeetsSeq.EqGives.int _ _ _ _
  | str a =>
    obtain ⟨b, h1, rfl⟩ := map_some h
    cases astr_ h1
    obtain ⟨t, rfl⟩ := ra.str'
    obtain ⟨t', rfl⟩ := rb.str'
    exact eqGives_str _ _ t t'
  | _ => cases h
theorem aeqs_rep {P : Params} {l : List AV} {vs : List Value} (rl : RepL P D l vs) : ∀ {m : List AV} {ws : List Value} {r : Bool}, aeqs l m = some r → l.length = m.length → RepL P D m ws →
    ∃ e : Nat → Bool, (∀ j (h1 : j < vs.length) (h2 : j < ws.length), MeetsSeq.EqGives vs[j] ws[j] (e j)) ∧ r = (List.range vs.length).all e := by
  induction rl with
  | nil =>
    intro m ws r h hl rm
    refine ⟨fun _ => true, fun j h1 => absurd h1 (Nat.not_lt_zero _), ?_⟩
    cases rm with
    | nil => exact (Option.some.inj h).symm
    | cons => cases hl
  | @cons a v l vs ra rl ih =>
    intro m ws r h hl rm
    cases rm with
    | nil => cases hl
    | @cons b u m ws rb rm =>
      obtain ⟨c, hc, h⟩ := bind_some h
      obtain ⟨r', h1, rfl⟩ := map_some h
      obtain ⟨e, he, rfl⟩ := ih h1 (Nat.succ.inj hl) rm
      refine ⟨fun j => Nat.casesOn j c e, fun j h1 h2 => ?_, ?_⟩
      · cases j with
        | zero => exact aeq1_gives hc ra rb
        | succ j => exact he j (Nat.lt_of_succ_lt_succ h1) (Nat.lt_of_succ_lt_succ h2)
      · rw [List.length_cons, List.range_succ_eq_map, List.all_cons, List.all_map]
        rfl
/-- a comparison's answer, the state but for toks as it was -/
noncomputable def EvB (W : Wd) (A : Around) (D : Fz) (m : Sem Value) (b : Bool) (s : Shared) : Prop :=
  wpAny W.M A m (fun v s' => v = .bool b ∧ Ext W D D s s') (fun _ _ => False) s
noncomputable def isI (i : Int) : Value → Bool
  | .int k _ => k == i
  | _ => false
theorem ints_of {P : Params} {l : List AV} {vs : List Value} (h : RepL P D l vs) : ∀ {l' : List Int}, omap aint l = some l' → Paired (fun (i : Int) (v : Value) => ∃ t, v = .int i t) l' vs := by
  induction h with
  | nil => intro l' e; cases e; exact .nil
  | @cons d v l vs h1 h2 ih =>
    intro l' e
    obtain ⟨i, l2, h3, h4, rfl⟩ := omap_cons e
    cases aint_ h3
    exact .cons h1.int' (ih h4)
theorem ints_mem {l : List Int} {vs : List Value} (h : Paired (fun (i : Int) (v : Value) => ∃ t, v = .int i t) l vs) : ∀ v ∈ vs, ∃ k u, v = .int k u := by
  induction h with
  | nil => intro v hv; cases hv
  | cons h1 _ ih =>
    intro v hv
    rcases List.mem_cons.mp hv with rfl | hv
    · exact ⟨_, h1⟩
    · exact ih v hv
theorem ints_any {l : List Int} {vs : List Value} (h : Paired (fun (i : Int) (v : Value) => ∃ t, v = .int i t) l vs) (i : Int) : vs.any (isI i) = l.contains i := by
  induction h with
  | nil => rfl
  | @cons k v l vs h1 _ ih =>
    obtain ⟨t, rfl⟩ := h1
    rw [List.any_cons, List.contains_cons, ih]
    congr 1
    show (k == i) = (i == k)
    exact Bool.eq_iff_iff.mpr ⟨fun e => by simpa using (eq_of_beq e).symm, fun e => by simpa using (eq_of_beq e).symm⟩
theorem acmpI_sound {a b : AV} {f : Int → Int → Bool} {r : Bool} {va vb : Value} {op : CmpOp} (h : acmpI a b f = some r) (o : Ok W D s) (ra : Rep W.P D a va) (rb : Bor W.P D s.heap b vb)
    (H : ∀ {x y : Int} {t u : Tok} {Q E : Value → Shared → Prop}, Q (.bool (f x y)) s → wpAny W.M A (compareOp op (.int x t) (.int y u)) Q E s) : EvB W A D (compareOp op va vb) r s := by
  obtain ⟨x, h1, h⟩ := bind_some h
  obtain ⟨y, h2, rfl⟩ := map_some h
  cases aint_ h1
  cases aint_ h2
  obtain ⟨t, rfl⟩ := ra.int'
  obtain ⟨u, rfl⟩ := Rep.int' rb
  exact H ⟨rfl, o.refl⟩
/-- an int looked for in a list -/
theorem acmpIn_at {a b : AV} {r : Bool} {va vb : Value} (h : acmpIn a b = some r) (ra : Rep W.P D a va) (rb : Bor W.P D s.heap b vb) : ∃ (i : Int) (p : Addr) (vs : Array Value), vb = .ref p ∧ s.heap.IsList p vs ∧ vs.any (isI i) = r ∧ ∀ y ∈ vs, SeqAt.EqAt A.in1 s y va (isI i y) := by
  obtain ⟨i, h1, h⟩ := bind_some h
  obtain ⟨l, h2, h⟩ := bind_some h
  obtain ⟨l', q, rfl⟩ := map_some h
  cases aint_ h1
  cases alst_ h2
  obtain ⟨a2, vs, n2, rfl, h2, r2⟩ := rb
  obtain ⟨t, rfl⟩ := ra.int'
  have z := ints_of r2 q
  refine ⟨i, a2, _, rfl, ⟨_, h2, rfl, _, rfl⟩, by rw [List.any_toArray]; exact ints_any z i, fun y hy => ?_⟩
  obtain ⟨k, u, rfl⟩ := ints_mem z y (by simpa using hy)
  exact (MeetsSeq.EqGives.int k i u t).at A.in1 s
theorem aeq_sound {a b : AV} {r : Bool} {va vb : Value} (h : aeq a b = some r) (o : Ok W D s) (hu : A.units < cLine) (ra : Rep W.P D a va) (rb : Bor W.P D s.heap b vb) :
    EvB W A D (compareOp .Eq va vb) r s ∧ EvB W A D (compareOp .NotEq va vb) (!r) s := by
  cases a with
  | int x =>
    obtain ⟨y, h1, rfl⟩ := map_some h
    cases aint_ h1
    obtain ⟨t, rfl⟩ := ra.int'
    obtain ⟨u, rfl⟩ := Rep.int' rb
    exact ⟨PyProof.Rows.eq_int ⟨rfl, o.refl⟩, PyProof.Rows.ne_int ⟨rfl, o.refl⟩⟩
  | str x =>
    obtain ⟨y, h1, rfl⟩ := map_some h
    cases astr_ h1
    obtain ⟨t, rfl⟩ := ra.str'
    obtain ⟨u, rfl⟩ := Rep.str' rb
    exact ⟨PyProof.Rows.eq_str ⟨rfl, o.refl⟩, PyProof.Rows.ne_str ⟨rfl, o.refl⟩⟩
  | list l =>
    obtain ⟨m, h1, h⟩ := bind_some h
    cases alst_ h1
    obtain ⟨_, h⟩ := ite_some h
    obtain ⟨a1, vs, n1, rfl, h1, r1⟩ := ra.list'
    obtain ⟨a2, ws, n2, rfl, h2, r2⟩ := rb
    have l1 : s.heap.IsList a1 vs.toArray := ⟨_, o.fz _ _ h1, rfl, _, rfl⟩
    have l2 : s.heap.IsList a2 ws.toArray := ⟨_, h2, rfl, _, rfl⟩
    have e1 : vs.toArray.size = l.length := r1.length.symm
    have e2 : ws.toArray.size = m.length := r2.length.symm
    by_cases hl : l.length = m.length
    · obtain ⟨e, hE, rfl⟩ := aeqs_rep r1 h hl r2
      have he : vs.toArray.size = ws.toArray.size := e1.trans (hl.trans e2.symm)
      exact ⟨SeqAt.RcAt.lists l1 l2 he hu (fun j h1 h2 => (hE j h1 h2).at _ _) _ _ _ _ ⟨rfl, o.refl⟩, SeqAt.RcNeAt.lists l1 l2 he hu (fun j h1 h2 => (hE j h1 h2).at _ _) _ _ _ _ ⟨rfl, o.refl⟩⟩
    · cases aeqs_len h hl
      have hne : (vs.toArray.size != ws.toArray.size) = true := by rw [e1, e2]; simpa using hl
      exact ⟨SeqAt.RcAt.lists_lengths l1 l2 hne hu _ _ _ _ ⟨rfl, o.refl⟩, SeqAt.RcNeAt.lists_lengths l1 l2 hne hu _ _ _ _ ⟨rfl, o.refl⟩⟩
  | tuple l =>
    obtain ⟨m, h1, h⟩ := bind_some h
    cases atup_ h1
    obtain ⟨hl, h⟩ := ite_some h
    obtain ⟨a1, vs, n1, rfl, h1, r1⟩ := ra.tuple'
    obtain ⟨a2, ws, n2, rfl, h2, r2⟩ := rb
    have l1 : IsTup s.heap a1 vs.toArray := ⟨_, o.fz _ _ h1, rfl, _, rfl⟩
    have l2 : IsTup s.heap a2 ws.toArray := ⟨_, h2, rfl, _, rfl⟩
    obtain ⟨e, hE, rfl⟩ := aeqs_rep r1 h hl.1 r2
    have he : vs.length = ws.length := r1.length.symm.trans (hl.1.trans r2.length)
    have k1 := SeqAt.RcAt.tuples l1 l2 hu (fun j h1 h2 => (hE j h1 h2).at _ _)
    have k2 := SeqAt.RcNeAt.tuples l1 l2 hu (fun j h1 h2 => (hE j h1 h2).at _ _)
    rw [List.size_toArray, List.size_toArray, ← he, Nat.min_self, beq_self_eq_true, Bool.and_true] at k1 k2
    exact ⟨k1 _ _ _ _ ⟨rfl, o.refl⟩, k2 _ _ _ _ ⟨rfl, o.refl⟩⟩
  | _ => cases h
theorem acmp_sound {op : CmpOp} {a b : AV} {r : Bool} {va vb : Value} (h : acmp op a b = some r) (o : Ok W D s) (R : Room A n) (ra : Rep W.P D a va) (rb : Bor W.P D s.heap b vb) : EvB W A D (compareOp op va vb) r s := by
  have hu : A.units < cLine := by have := R.units; omega
  cases op with
  | Eq => exact (aeq_sound h o hu ra rb).1
  | NotEq => obtain ⟨r', q, rfl⟩ := map_some h; exact (aeq_sound q o hu ra rb).2
  | Lt => exact acmpI_sound h o ra rb PyProof.Rows.lt_int
  | LtE => exact acmpI_sound h o ra rb PyProof.Rows.le_int
  | Gt => exact acmpI_sound h o ra rb PyProof.Rows.gt_int
  | GtE => exact acmpI_sound h o ra rb PyProof.Rows.ge_int
  | In =>
    replace h : (match astr a with | some x => (adic b).map fun m => (dget m x).isSome | none => acmpIn a b) = some r := h
    cases q : astr a with
    | none =>
      rw [q] at h
      obtain ⟨i, p, vs, rfl, hp, rfl, hE⟩ := acmpIn_at (A := A) h ra rb
      exact SeqAt.in_listAt (isI i) hp hE ⟨rfl, o.refl⟩
    | some x =>
      rw [q] at h
      obtain ⟨m, h2, rfl⟩ := map_some h
      cases astr_ q
      cases adic_ h2
      obtain ⟨t, rfl⟩ := ra.str'
      obtain ⟨a2, es, n2, rfl, h2, r2, hs, hn⟩ := rb
      refine wpAny_in_of (knd := kd W) (strKind_is _ _ _ _) (by simpa using hs) (dictOf_rep h2 r2 hn).mapOf ?_
      exact ⟨by rw [valueAt_isSome r2], o.tok _⟩
  | NotIn =>
    replace h : (match astr a with | some x => (astr b).map fun y => !Txt.contains y x | none => (acmpIn a b).map (!·)) = some r := h
    cases q : astr a with
    | none =>
      rw [q] at h
      obtain ⟨r', h', rfl⟩ := map_some h
      obtain ⟨i, p, vs, rfl, hp, rfl, hE⟩ := acmpIn_at (A := A) h' ra rb
      exact SeqAt.notIn_listAt (isI i) hp hE ⟨rfl, o.refl⟩
    | some x =>
      rw [q] at h
      obtain ⟨y, h2, rfl⟩ := map_some h
      cases astr_ q
      cases astr_ h2
      obtain ⟨t, rfl⟩ := ra.str'
      obtain ⟨u, rfl⟩ := Rep.str' rb
      exact PyProof.Rows.notIn_str ⟨rfl, o.refl⟩
  | _ => cases h
theorem atru_sound {a : AV} {r : Bool} {va : Value} (h : atru a = some r) (o : Ok W D s) (ra : Rep W.P D a va) :
    wpAny W.M A (truthy va) (fun b s' => b = r ∧ Ext W D D s s') (fun _ _ => False) s := by
  unfold atru at h
  split at h
  · cases h; cases ra.bool'; exact wpAny_truthy_bool ⟨rfl, o.refl⟩
  · cases h; obtain ⟨t, rfl⟩ := ra.int'; exact PyProof.Rows.truthy_int ⟨rfl, o.refl⟩
  · split at h
    · cases h; obtain ⟨t, rfl⟩ := ra.str'
      rename_i hx
      refine PySem.P.truthy_str (by omega) ⟨?_, o.tok _⟩
      generalize Str.length _ = k
      cases k with
      | zero => rfl
      | succ k =>
        have : ((k + 1 : Nat) : Int) ≠ 0 := by omega
        simp; omega
    · cases h
  · cases h
end
end Mine
set_option maxRecDepth 10000
set_option linter.unusedVariables false
namespace Mine
open PySem PyProof.Rows
section
variable {W : Wd} {A : Around} {D D' : Fz} {s s' : Shared} {n : Nat}
theorem subscripted_plain {slice : Expr} {o i : Value} (h : isSlice slice = false) : subscripted slice false o i = operate [o, i] (getItem o i) := by
  cases slice <;> first | rfl | cases h
theorem seqIndex_lt {i : Int} {len j : Nat} (h : seqIndex? i len = some j) : j < len ∧ ((0 ≤ i ∧ j = i.toNat) ∨ (i < 0 ∧ -(len : Int) ≤ i ∧ j = (i + len).toNat)) := by
  unfold seqIndex? at h
  by_cases hi : i < 0
  · rw [if_pos hi] at h
    dsimp only at h
    by_cases hc : (decide (0 ≤ i + (len : Int)) && decide (i + (len : Int) < (len : Int))) = true
    · rw [if_pos hc] at h
      cases h
      simp only [Bool.and_eq_true, decide_eq_true_eq] at hc
      exact ⟨by omega, .inr ⟨hi, by omega, rfl⟩⟩
    · rw [if_neg hc] at h; cases h
  · rw [if_neg hi] at h
    dsimp only at h
    by_cases hc : (decide (0 ≤ i) && decide (i < (len : Int))) = true
    · rw [if_pos hc] at h
      cases h
      simp only [Bool.and_eq_true, decide_eq_true_eq] at hc
      exact ⟨by omega, .inl ⟨by omega, rfl⟩⟩
    · rw [if_neg hc] at h; cases h
theorem getItem_list_at {l : Addr} {vs : List Value} {k n : Nat} {i : Int} {t : Tok} {x : Value} {Q : Value → Shared → Prop} {E : Value → Shared → Prop} (hl : s.heap.get? l = some (lObj vs n)) (hs : vs.length ≤ 1000)
    (hk : seqIndex? i vs.length = some k) (hx : vs[k]? = some x) (h : Q x s) : wpAny W.M A (getItem (.ref l) (.int i t)) Q E s := by
  have hl' : s.heap.IsList l vs.toArray := ⟨_, hl, rfl, n, rfl⟩
  obtain ⟨hlt, ⟨h0, rfl⟩ | ⟨h0, h1, rfl⟩⟩ := seqIndex_lt hk
  · exact wpAny_getItem_list hl' h0 (by omega) (by simpa using hx) h
  · exact wpAny_getItem_list_neg hl' h0 (by simpa using h1) (by omega) (by simpa using hx) h
theorem asub_sound {value slice : Expr} {a i d : AV} {va vi : Value} (h : asub a i = some d) (o : Ok W D s) (ra : Bor W.P D s.heap a va) (ri : Rep W.P D i vi) (hs : isSlice slice = false) :
    Ev W A D (subscriptTail value slice va vi) d s := by
  cases a with
  | list l =>
    obtain ⟨k, h1, h⟩ := bind_some h
    cases aint_ h1
    obtain ⟨hl, h⟩ := ite_some h
    obtain ⟨a1, vs, n1, rfl, h1, r1⟩ := ra
    obtain ⟨t, rfl⟩ := ri.int'
    obtain ⟨j, hj, h⟩ := bind_some (x := seqIndex? k l.length) h
    have e := r1.length
    rw [e] at hj
    obtain ⟨x, hx, rx⟩ := paired_some r1 h
    refine tail_any (T := "list") ⟨_, h1, rfl⟩ slot_list_getitem.lookup (getItem_list_at h1 (e ▸ hl) hj hx ?_) (subscripted_plain hs)
    exact ⟨D, o.refl, rx⟩
  | tuple l =>
    obtain ⟨k, h1, h⟩ := bind_some h
    cases aint_ h1
    obtain ⟨hl, h⟩ := ite_some h
    obtain ⟨a1, vs, n1, rfl, h1, r1⟩ := ra
    obtain ⟨t, rfl⟩ := ri.int'
    obtain ⟨j, hj, h⟩ := bind_some (x := seqIndex? k l.length) h
    have e := r1.length
    rw [e] at hj
    obtain ⟨x, hx, rx⟩ := paired_some r1 h
    obtain ⟨hlt, hb⟩ := seqIndex_lt hj
    refine tail_any (T := "tuple") ⟨_, h1, rfl⟩ F.slot_tuple_getitem.lookup (P.getItem_tuple h1 (by omega) (by omega) (by simpa using hj) (by simpa using hx) ?_) (subscripted_plain hs)
    exact ⟨D, o.refl, rx⟩
  | dict m =>
    obtain ⟨y, h1, h⟩ := bind_some h
    cases astr_ h1
    obtain ⟨a1, es, n1, rfl, h1, r1, hsys, hn⟩ := ra
    obtain ⟨t, rfl⟩ := ri.str'
    obtain ⟨v, hv, rv⟩ := (valueAt_rep r1 _).1 d h
    have hd := dictOf_rep h1 r1 hn
    refine tail_any (T := "dict") ⟨_, h1, rfl⟩ slot_dict_getitem.lookup (wpAny_getItem_of (knd := kd W) (strKind_is _ _ _ _) hd.mapOf hv ?_) (subscripted_plain hs)
    exact ⟨D, o.tok _, rv⟩
  | _ => cases h
theorem apick_rep {P : Params} {l : List AV} {vs : List Value} (h : RepL P D l vs) (lo hi st : Option Int) : RepL P D (apick l lo hi st) (slicePick vs.toArray lo hi st).toList := by
  unfold apick slicePick
  have e := h.length
  rw [List.size_toArray, ← e]
  generalize sliceRange _ _ _ = is
  induction is with
  | nil => exact .nil
  | cons i is ih =>
    simp only [List.filterMap_cons, List.getElem?_toArray] at ih ⊢
    cases q : l[i]? with
    | none =>
      have : vs[i]? = none := by
        rw [List.getElem?_eq_none_iff] at q ⊢; omega
      rw [this]
      exact ih
    | some d =>
      obtain ⟨v, hv, rv⟩ := paired_some h q
      rw [hv]
      exact .cons rv ih
/-- a list's part: a new list -/
theorem sliceList_sound {l : List AV} {lo hi st : Option Int} {va vl vu vs : Value} {sl : Addr} (o : Ok W D s) (hst : st ≠ some 0) (hlen : l.length ≤ 1000000) (ra : Bor W.P D s.heap (.list l) va)
    (hs : s.heap.IsSliceOf sl vl vu vs) (pl : IsPart vl lo) (pu : IsPart vu hi) (ps : IsPart vs st) : EvO W A D (getItem va (.ref sl)) (.list (apick l lo hi st)) s := by
  obtain ⟨a1, ws, n1, rfl, h1, r1⟩ := ra
  have e := r1.length
  refine wpAny_getItem_list_slice ⟨_, h1, rfl, _, rfl⟩ hs pl pu ps hst ?_ (by rw [sizeLine_eq]; simp; omega)
  exact ⟨D, _, _, rfl, o.push _ _, Heap.get?_push_size _ rfl, ⟨(slicePick ws.toArray lo hi st).toList, 0, by simp [lObj], apick_rep r1 lo hi st⟩, get_size _, o.none_size⟩
end
end Mine
set_option maxRecDepth 10000
set_option linter.unusedVariables false
namespace Mine
open PySem PyProof.Rows
noncomputable abbrev NoE : Value → Shared → Prop := fun _ _ => False
theorem starEach_plain {e : Expr} {rest : List Expr} {env : Env} (h : plainArg e = true) : starEach (e :: rest) env = (false, eval e env) :: starEach rest env := by
  cases e <;> first | rfl | cases h
theorem backTo_cons (pos : Pos) (m : Sem Value) (r : List (Bool × Sem Value)) : backTo pos ((false, m) :: r) = (false, m) :: backTo pos r := by
  simp only [backTo, List.map_cons, Bool.false_eq_true, if_false]
section
variable {W : Wd} {A : Around} {D D' : Fz} {s s' : Shared} {n : Nat} {env : Env}
theorem evalArgs_w {f : Value} {es : List Expr} {pos : Pos} {Q : Args → Shared → Prop} {E : Value → Shared → Prop} (ha : allPlain es = true)
    (h : wpAny W.M A (spliced (backTo pos (starEach es env))) (fun vs s' => Q ⟨vs, []⟩ s') E s) : wpAny W.M A (evalArgs f true (backTo pos (starEach es env)) []) Q E s := by
  cases es with
  | nil =>
    have : backTo pos (starEach [] env) = [] := rfl
    rw [this] at h ⊢
    unfold evalArgs
    show wpAny W.M A (spliced [] >>= _) Q E s
    refine wpAny_bind (wpAny_mono h (fun vs s' h' => ?_) fun _ _ x => x)
    refine wpAny_holding ?_
    exact wpAny_bind (wpAny_pure (wpAny_bind (wpAny_pure (wpAny_pure h'))))
  | cons e es =>
    unfold allPlain at ha
    rw [Bool.and_eq_true] at ha
    rw [starEach_plain ha.1, backTo_cons] at h ⊢
    exact Calls.evalArgs_plain h
theorem plain_any {es : List Expr} {pos : Pos} (ha : allPlain es = true) : (backTo pos (starEach es env)).any (·.1) = false := by
  induction es with
  | nil => rfl
  | cons e es ih =>
    unfold allPlain at ha
    rw [Bool.and_eq_true] at ha
    rw [starEach_plain ha.1, backTo_cons, List.any_cons, ih ha.2]; rfl
/-! ## built-in calls -/
theorem len_sound {a : AV} {d : AV} {va : Value} (o : Ok W D s) (ra : Bor W.P D s.heap a va) (h : alen a = some d) :
    wpAny W.M A (call (.builtin "len") [va]) (fun v s' => ∃ D', Ext W D D' s s' ∧ Rep W.P D' d v) NoE s := by
  cases a with
  | list l =>
    obtain ⟨hl, h⟩ := ite_some h
    cases h
    obtain ⟨a1, vs, n1, rfl, h1, r1⟩ := ra
    have e : vs.toArray.size = l.length := r1.length.symm
    refine Calls.call_len_list ⟨_, h1, rfl, _, rfl⟩ (by omega) ?_
    exact ⟨D, o.tok _, e ▸ .int _ _⟩
  | tuple l =>
    obtain ⟨hl, h⟩ := ite_some h
    cases h
    obtain ⟨a1, vs, n1, rfl, h1, r1⟩ := ra
    have e : vs.toArray.size = l.length := r1.length.symm
    refine P.len_tuple h1 (by omega) ?_
    exact ⟨D, o.tok _, e ▸ .int _ _⟩
  | str x =>
    obtain ⟨hl, h⟩ := ite_some h
    cases h
    obtain ⟨t, rfl⟩ := Rep.str' ra
    exact P.len_str (by omega) ⟨D, o.tok _, .int _ _⟩
  | _ => cases h
noncomputable def valAt (l : List AV) (i : Nat) : Int := ((l[i]?).bind aint).getD 0
theorem preSum_cons (v : Nat → Int) : ∀ n, preSum v (n + 1) = v 0 + preSum (fun i => v (i + 1)) n
  | 0 => by simp [preSum]
  | n + 1 => by
    rw [preSum, preSum_cons v n, preSum]
    omega
theorem asum_spec {l : List AV} : ∀ {r : Int}, asum l = some r → preSum (valAt l) l.length = r ∧ ∀ (i : Nat) (d : AV), l[i]? = some d → d = AV.int (valAt l i) := by
  induction l with
  | nil => intro r h; cases h; exact ⟨rfl, fun i d e => by cases e⟩
  | cons d l ih =>
    intro r h
    obtain ⟨k, h1, h⟩ := bind_some h
    obtain ⟨r', q, rfl⟩ := map_some h
    cases aint_ h1
    obtain ⟨h1, h2⟩ := ih q
    refine ⟨?_, ?_⟩
    · rw [List.length_cons, preSum_cons]
      exact congrArg (k + ·) h1
    · intro i d e
      cases i with
      | zero => exact (Option.some.inj e).symm
      | succ i => exact h2 i d e
theorem sum_sound {a : AV} {d : AV} {va : Value} (o : Ok W D s) (R : Room A n) (ra : Bor W.P D s.heap a va) (h : asumv a = some d) :
    wpAny W.M A (call (.builtin "sum") [va]) (fun v s' => ∃ D', Ext W D D' s s' ∧ Rep W.P D' d v) NoE s := by
  obtain ⟨l, h1, h⟩ := bind_some h
  cases alst_ h1
  obtain ⟨hl, h⟩ := ite_some h
  obtain ⟨r, q, rfl⟩ := map_some h
  obtain ⟨h1, h2⟩ := asum_spec q
  obtain ⟨a1, vs, n1, rfl, g1, r1⟩ := ra
  have e := r1.length
  have hne : a1 ≠ s.heap.objs.size := Nat.ne_of_lt (Heap.lt_size g1)
  refine call_sum_walkG (wpAny_pyIter_list ⟨_, g1, rfl, _, rfl⟩ ?_)
  refine ⟨_, _, _, _, _, _, valAt l, rfl, Walks.list (by exact R.handled) s.heap.objs.size a1 hne vs.toArray, ⟨⟨_, Heap.get?_push_size _ rfl, rfl, rfl⟩, ⟨_, Heap.get?_push_of_some _ g1, rfl, _, rfl⟩⟩, ?_, ?_, ?_⟩
  · intro b hb
    rw [Heap.size_push]
    simp only [List.mem_cons, List.not_mem_nil, or_false] at hb
    rcases hb with rfl | rfl
    · exact Nat.lt_succ_self _
    · exact Nat.lt_succ_of_lt (Heap.lt_size g1)
  · intro i v hv
    have hv' : vs[i]? = some v := by simpa using hv
    have hi : i < l.length := by
      rw [e]
      exact (List.getElem?_eq_some_iff.mp hv').1
    have hd := h2 i l[i] (List.getElem?_eq_getElem hi)
    have := paired_get r1 (by rw [List.getElem?_eq_getElem hi]) hv'
    rw [hd] at this
    exact this.int'
  · intro h' tk t' hk
    refine ⟨D, .of_keeps o.glob o.fz rfl rfl rfl fun b x e => hk b x ?_ (Heap.get?_push_of_some _ e), ?_⟩
    · simp only [List.mem_cons, List.not_mem_nil, or_false]
      exact Nat.ne_of_lt (Heap.lt_size e)
    · rw [List.size_toArray, ← e, h1]
      exact .int _ _
theorem divmod_sound {a b : AV} {d : AV} {va vb : Value} (o : Ok W D s) (ra : Rep W.P D a va) (rb : Rep W.P D b vb) (h : adivm a b = some d) :
    wpAny W.M A (call (.builtin "divmod") [va, vb]) (fun v s' => ∃ D', Ext W D D' s s' ∧ Rep W.P D' d v) NoE s := by
  obtain ⟨x, h1, h⟩ := bind_some h
  obtain ⟨y, h2, h⟩ := bind_some h
  cases aint_ h1
  cases aint_ h2
  obtain ⟨hb, h⟩ := ite_some h
  cases h
  obtain ⟨t, rfl⟩ := ra.int'
  obtain ⟨u, rfl⟩ := rb.int'
  refine PyProof.Rows.divmod_int hb.1 ?_ (.inl (noPy hb.2))
  exact ⟨_, o.pushF (tObj [.int (x.fdiv y) s.toks, .int (x.fmod y) (s.toks + 1)] 0) _ rfl, .tuple_ (addF_self ..) (.cons (.int _ _) (.cons (.int _ _) .nil))⟩
end
end Mine
set_option maxRecDepth 10000
set_option linter.unusedVariables false
namespace Mine
open PySem PyProof.Rows
section
variable {W : Wd} {A : Around} {D D' : Fz} {s s' : Shared} {n : Nat} {env : Env}
theorem fromIndex_nn {n : Nat} {i : Int} (h : 0 ≤ i) : fromIndex n i = i.toNat := by
  unfold fromIndex; rw [if_neg (by omega)]; omega
theorem gives_find4 (x y : Str) (i j : Int) (t u v w : Tok) (hi : 0 ≤ i) (hj : 0 ≤ j) : Gives (Builtin.«str.find» ⟨[.str x t, .str y u, .int i v, .int j w], []⟩) (.int (afind x y i.toNat j.toNat)) := by
  show Gives (match Builtin.Str.occurrences x y (fromIndex x.length i) (min (fromIndex x.length j) x.length) 1 with | k :: _ => PySem.retInt k | [] => (do rule "str.find.not-found"; PySem.retInt (-1))) _
  rw [fromIndex_nn hi, fromIndex_nn hj]
  unfold afind
  cases Builtin.Str.occurrences x y i.toNat (min j.toNat x.length) 1 with
  | nil => exact .rule (.of_eq rfl)
  | cons k _ => exact .of_eq rfl
theorem one_str {P : Params} {y : Str} {vs : List Value} (r : RepL P D [.str y] vs) : ∃ u, vs = [.str y u] := by
  cases r with | cons h1 h2 =>
    cases h2
    obtain ⟨u, rfl⟩ := h1.str'
    exact ⟨u, rfl⟩
/-- what a method's call gives, its receiver at hand -/
noncomputable def MethOk (W : Wd) (D : Fz) (s : Shared) (m : Str) (ov : Value) (as : List AV) (d : AV) : Prop :=
  ∃ T id, PlainAttrs T ∧ Slot T m id ∧ typeOf (.builtin id) = pure (.type "method_descriptor") ∧ s.TypeIs ov T ∧ (∀ a, ov = .ref a → ∃ ob, s.heap.get? a = some ob ∧ ob.dict = none) ∧
      ∀ (A : Around) D' s' vs, Ext W D D' s s' → RepL W.P D' as vs → wpAny W.M A (call (.builtin id) (ov :: vs)) (fun v s'' => ∃ D'', Ext W D' D'' s' s'' ∧ Rep W.P D'' d v) NoE s'
section
variable {o d : AV} {as : List AV} {ov : Value} (ok : Ok W D s) (ro : Bor W.P D s.heap o ov)
include ok ro
theorem meth_bitl (h : abitl o as = some d) : MethOk W D s "bit_length" ov as d := by
  obtain ⟨a, h1, h⟩ := bind_some h
  obtain ⟨h2, h⟩ := ite_some h
  cases h
  cases aint_ h1
  cases List.isEmpty_iff.mp h2
  obtain ⟨t, rfl⟩ := Rep.int' ro
  refine ⟨"int", "int.bit_length", F.plainAttrs_int, F.slot_int_bit_length, F.type_int_bit_length, typeIs_int _ _ _, nofun, fun A D' s' vs x r => ?_⟩
  cases r
  exact PyProof.Rows.call_int_bit_length ⟨D', (Ok.ext x).tok _, .int _ _⟩
theorem meth_starts (h : astarts o as = some d) : MethOk W D s "startswith" ov as d := by
  obtain ⟨x, h1, h⟩ := bind_some h
  obtain ⟨y, h2, rfl⟩ := map_some h
  obtain ⟨p, h2, h3⟩ := bind_some h2
  cases astr_ h1
  cases astr_ h3
  cases a1_ h2
  obtain ⟨t, rfl⟩ := Rep.str' ro
  refine ⟨"str", "str.startswith", F.plainAttrs_str, F.slot_str_startswith, F.type_str_startswith, typeIs_str _ _ _, nofun, fun A D' s' vs x r => ?_⟩
  obtain ⟨u, rfl⟩ := one_str r
  exact SC.startswith ⟨D', (Ok.ext x).refl, .bool _⟩
theorem meth_ends (h : aends o as = some d) : MethOk W D s "endswith" ov as d := by
  obtain ⟨x, h1, h⟩ := bind_some h
  obtain ⟨y, h2, rfl⟩ := map_some h
  obtain ⟨p, h2, h3⟩ := bind_some h2
  cases astr_ h1
  cases astr_ h3
  cases a1_ h2
  obtain ⟨t, rfl⟩ := Rep.str' ro
  refine ⟨"str", "str.endswith", F.plainAttrs_str, F.slot_str_endswith, F.type_str_endswith, typeIs_str _ _ _, nofun, fun A D' s' vs x r => ?_⟩
  obtain ⟨u, rfl⟩ := one_str r
  exact SC.endswith ⟨D', (Ok.ext x).refl, .bool _⟩
theorem meth_get (h : aget o as = some d) : MethOk W D s "get" ov as d := by
  obtain ⟨m, h1, h⟩ := bind_some h
  obtain ⟨⟨p, d0⟩, h2, h⟩ := bind_some h
  obtain ⟨x0, h3, rfl⟩ := map_some h
  cases adic_ h1
  cases astr_ h3
  cases a2_ h2
  have ro' := ro
  obtain ⟨a, es, k, rfl, h1, h2, h3, h4⟩ := ro
  refine ⟨"dict", "dict.get", F.plainAttrs_dict, F.slot_dict_get, F.type_dict_get, ⟨_, h1, rfl⟩, fun b e => by cases e; exact ⟨_, h1, rfl⟩, fun A D' s' vs x r => ?_⟩
  obtain ⟨a', es, k, e, h1, h2, h3, h4⟩ := Bor.ext x ok.glob ro'
  cases e
  cases r with | cons r1 r => cases r with | @cons _ w _ _ r2 r =>
    cases r
    obtain ⟨u, rfl⟩ := r1.str'
    have hd := dictOf_rep h1 h2 h4
    refine call_meetsIn F.slot_dict_get ⟨_, h1, rfl⟩ F.entry_dict_get (F.args_dict_get_3 _ _ _) (meets_dict_get_default (kd W) a (strKind_is _ _ x0 u) (by simpa using h3) w) ⟨_, hd.mapOf, ?_⟩
    refine ⟨D', (Ok.ext x).tok _, ?_⟩
    obtain ⟨v1, v2⟩ := valueAt_rep h2 x0
    dsimp only
    cases q : dget m x0 with
    | none => rw [v2 q]; exact r2
    | some dd => obtain ⟨v, e, rv⟩ := v1 dd q; rw [e]; exact rv
theorem meth_find (h : afindm o as = some d) : MethOk W D s "find" ov as d := by
  obtain ⟨x, h1, h⟩ := bind_some h
  obtain ⟨⟨p1, p2, p3⟩, h2, h⟩ := bind_some h
  obtain ⟨y, h3, h⟩ := bind_some h
  obtain ⟨i, h4, h⟩ := bind_some h
  obtain ⟨j, h5, h⟩ := bind_some h
  obtain ⟨hij, h⟩ := ite_some h
  cases h
  cases astr_ h1
  cases astr_ h3
  cases aint_ h4
  cases aint_ h5
  cases a3_ h2
  obtain ⟨t, rfl⟩ := Rep.str' ro
  refine ⟨"str", "str.find", F.plainAttrs_str, F.slot_str_find, F.type_str_find, typeIs_str _ _ _, nofun, fun A D' s' vs x' r => ?_⟩
  cases r with | cons r1 r => cases r with | cons r2 r => cases r with | cons r3 r =>
    cases r
    obtain ⟨u, rfl⟩ := r1.str'
    obtain ⟨v, rfl⟩ := r2.int'
    obtain ⟨w, rfl⟩ := r3.int'
    exact call_gives F.slot_str_find (typeIs_str _ _ _) F.entry_str_find (F.args_str_find_4 _ _ _ _) (gives_find4 x y i j t u v w hij.1 hij.2) ⟨D', (Ok.ext x').tok _, .int _ _⟩
theorem meth_sound {m : Str} (h : ameth m o as = some d) : MethOk W D s m ov as d := by
  unfold ameth at h
  by_cases hm : (m == ("bit_length" : Str)) = true
  · rw [if_pos hm] at h; exact eq_of_beq hm ▸ meth_bitl ok ro h
  rw [if_neg hm] at h
  by_cases hm : (m == ("startswith" : Str)) = true
  · rw [if_pos hm] at h; exact eq_of_beq hm ▸ meth_starts ok ro h
  rw [if_neg hm] at h
  by_cases hm : (m == ("endswith" : Str)) = true
  · rw [if_pos hm] at h; exact eq_of_beq hm ▸ meth_ends ok ro h
  rw [if_neg hm] at h
  by_cases hm : (m == ("get" : Str)) = true
  · rw [if_pos hm] at h; exact eq_of_beq hm ▸ meth_get ok ro h
  rw [if_neg hm] at h
  obtain ⟨hm, h⟩ := ite_some h
  exact eq_of_beq hm ▸ meth_find ok ro h
end
theorem base_plain {o : Expr} {m : Str} (h : plainBase o = true) : attributeBase o m env (eval o env) = eval o env := by
  cases o <;> first | rfl | cases h
/-- a method's call, its receiver looked into -/
theorem method_w {o : Expr} {m : Str} {apos pos : Pos} {es : List Expr} {Q : Value → Shared → Prop} (hb : plainBase o = true) (ha : allPlain es = true) (hl : es.length ≤ 20) (hline : (apos.endLine == pos.line) = true)
    (h : wpAny W.M A (eval o env) (fun ov s₁ => ∃ T id, PlainAttrs T ∧ Slot T m id ∧ typeOf (.builtin id) = pure (.type "method_descriptor") ∧ s₁.TypeIs ov T ∧ (∀ a, ov = .ref a → ∃ ob, s₁.heap.get? a = some ob ∧ ob.dict = none) ∧
      wpAny W.M A (spliced (backTo pos (starEach es env))) (fun vs s₂ => wpAny W.M A (call (.builtin id) (ov :: vs)) Q NoE s₂) NoE s₁) NoE s) :
    wpAny W.M A (eval (.Call (.Attribute o m apos) es [] pos) env) Q NoE s := by
  refine wpAny_Call_method_lateS (base_plain hb) ?_ hline (wpAny_mono h (fun ov s₁ h₁ => ?_) fun _ _ x => x)
  · have : (backTo pos (starEach es env)).all (fun x => !x.1) = true := by
      have := plain_any (env := env) (pos := pos) ha
      rw [List.all_eq_true]
      intro x hx
      rw [List.any_eq_false] at this
      have := this x hx
      simpa using this
    rw [this]
    have e2 : (backToKw pos (keywordEach [] env)).all (fun x => x.1.isSome) = true := rfl
    rw [e2]
    simp
    omega
  · obtain ⟨T, id, h1, h2, h3, h4, h5, h6⟩ := h₁
    refine ⟨T, id, h1, h2, h3, h4, h5, ?_⟩
    exact Calls.callWith_builtin (plain_any ha) (evalArgs_w ha h6)
end
end Mine
set_option maxRecDepth 10000
set_option linter.unusedVariables false
namespace Mine
open PySem PyProof.Rows
structure Poke (W : Wd) (ms : List Addr) (D D' : Fz) (s s' : Shared) : Prop where
  gens : s'.gens = s.gens
  drawn : s'.drawn = s.drawn
  os : s'.os = s.os
  keep : ∀ b o, b ∉ ms → s.heap.get? b = some o → s'.heap.get? b = some o
  le : ∀ b o, D b = some o → D' b = some o
  fz : ∀ b o, D' b = some o → s'.heap.get? b = some o
  new : ∀ b o, D' b = some o → D b = some o ∨ s.heap.get? b = none
/-- an iterator that hands out the items one by one -/
structure It (W : Wd) (A : Around) (D₀ : Fz) (I : Addr) (ms fp : List Addr) (items : List AV) (TT : Bool) (X : Nat → Heap → Prop) : Prop where
  inm : I ∈ ms
  sub : ∀ b ∈ fp, b ∈ ms ∨ ∃ o, D₀ b = some o
  frame : ∀ i h h', X i h → (∀ b ∈ fp, ∀ o, h.get? b = some o → h'.get? b = some o) → X i h'
  next : ∀ (i : Nat) d D s target (Q : Value → Shared → Prop), items[i]? = some d → (TT = true → isTup target = true) → X i s.heap → Ok W D s → (∀ b o, D₀ b = some o → D b = some o) → (∀ b ∈ ms, D b = none) →
    (∀ v s' D', Rep W.P D' d v → X (i + 1) s'.heap → Poke W ms D D' s s' → Q v s') →
    wpAny W.M A (pyNext (.ref I)) (fun r s₁ => match r with
      | none => False
      | some v => wpAny W.M A (letOwnedTupleGo target (.ref I) v) (fun _ s₂ => Q v s₂) NoE s₁) NoE s
  done : ∀ D s (Q : Option Value → Shared → Prop), X items.length s.heap → Ok W D s → (∀ b ∈ ms, D b = none) → (∀ s', Poke W ms D D s s' → Q none s') → wpAny W.M A (pyNext (.ref I)) Q NoE s
  self : ∀ i s (Q : Value → Shared → Prop), X i s.heap → Q (.ref I) s → wpAny W.M A (pyIter (.ref I)) Q NoE s
  alive : ∀ i h, X i h → ∀ b ∈ ms, ∃ o, h.get? b = some o ∧ o.cls ≠ .none ∧ (∀ v, o.data ≠ .cell v) ∧ NC o
section
variable {W : Wd} {A : Around} {D D' : Fz} {s s' : Shared} {n : Nat} {env : Env}
noncomputable def ownIters : List String := ["enumerate", "zip", "dict_itemiterator", "dict_reverseitemiterator", "odict_iterator", "itertools.zip_longest", "itertools.pairwise"]
theorem letGo_other {target : Expr} {I : Addr} {v : Value} {o : Obj} {c : String} {Q : Unit → Shared → Prop} {E : Value → Shared → Prop} (ho : s.heap.get? I = some o) (hc : o.cls = .type c) (hn : ownIters.contains c = false) (h : Q () s) :
    wpAny W.M A (letOwnedTupleGo target (.ref I) v) Q E s := by
  have key : wpAny W.M A (do
      let (.ref r, .ref a) := ((.ref I : Value), v) | return
      let o ← load r
      match o.cls, o.data with
      | .type n, .fields vs =>
        if ownIters.contains n && vs[0]? == some (rawInt a) then
          rule "for.unpacks-the-owned-tuple"
          updateField r 0 .none
      | _, _ => pure () : Sem Unit) Q E s := by
    cases v with
    | ref a =>
      refine wpAny_bind (wpAny_load ho ?_)
      rw [hc]
      cases o.data <;> first | exact wpAny_pure h | (dsimp only; rw [hn, Bool.false_and, if_neg Bool.false_ne_true]; exact wpAny_pure h)
    | _ => exact wpAny_pure h
  unfold letOwnedTupleGo
  cases target <;> first | exact key | exact wpAny_pure h
theorem It.of_walks {I : Addr} {fp : List Addr} {k : Nat} {P : Nat → Value → Prop} {X : Nat → Heap → Prop} {items : List AV} (K : Walks W.prog W.w A I fp [I] k P X) (hk : items.length = k)
    (hP : ∀ (i : Nat) d v, items[i]? = some d → P i v → Rep W.P D d v) (hfp : ∀ b ∈ fp, b = I ∨ ∃ o, D b = some o)
    (hc : ∀ i h, X i h → ∃ o c, h.get? I = some o ∧ o.cls = .type c ∧ ownIters.contains c = false ∧ c ≠ "code" ∧ ∀ v, o.data ≠ .cell v) : It W A D I [I] fp items false X where
  inm := List.mem_singleton.mpr rfl
  sub := fun b hb => (hfp b hb).imp (fun e => List.mem_singleton.mpr e) fun x => x
  frame := K.frame
  next := fun i d D' s target Q hi _ hx ok le hD hQ => by
    have hlt : i < k := by
      rw [← hk]
      exact (List.getElem?_eq_some_iff.mp hi).1
    refine K.item i s _ _ hlt hx fun v h' tk hPv hx' hkeep => ?_
    obtain ⟨o, c, ho, hcl, hn, _⟩ := hc _ _ hx'
    refine letGo_other (s := { s with heap := h', toks := tk }) ho hcl hn (hQ v _ D' ((hP i d v hi hPv).mono le) hx' ⟨rfl, rfl, rfl, hkeep, fun _ _ e => e, fun b o e => ?_, fun _ _ e => .inl e⟩)
    refine hkeep b o (fun hm => ?_) (ok.fz b o e)
    rw [hD b hm] at e; cases e
  done := fun D' s Q hx ok hD hQ => by
    rw [hk] at hx
    refine K.done s _ _ hx fun h' tk hkeep => hQ _ ⟨rfl, rfl, rfl, hkeep, fun _ _ e => e, fun b o e => ?_, fun _ _ e => .inl e⟩
    refine hkeep b o (fun hm => ?_) (ok.fz b o e)
    rw [hD b hm] at e; cases e
  self := fun i s Q hx hQ => K.self i s _ _ hx hQ
  alive := fun i h hx b hb => by
    obtain ⟨o, c, ho, hcl, hn, hcd, hv⟩ := hc _ _ hx
    rw [List.mem_singleton.mp hb]
    exact ⟨o, ho, by rw [hcl]; nofun, hv, .of_cls hcl hcd⟩
theorem It.list {l : List AV} {a I : Addr} {vs : List Value} {k : Nat} (hh : A.handled = none) (ha : D a = some (lObj vs k)) (r : RepL W.P D l vs) (hne : a ≠ I) :
    It W A D I [I] [I, a] l false (fun i h => h.IsListIter I a i ∧ h.IsList a vs.toArray) := by
  refine It.of_walks (Walks.list hh I a hne vs.toArray) (by rw [List.size_toArray]; exact r.length) (fun i d v hd hv => paired_get r hd (by simpa using hv)) (fun b hb => ?_) fun i h hx => ?_
  · simp only [List.mem_cons, List.not_mem_nil, or_false] at hb
    rcases hb with rfl | rfl
    · exact .inl rfl
    · exact .inr ⟨_, ha⟩
  · obtain ⟨⟨o, ho, hc, hd⟩, _⟩ := hx
    exact ⟨o, _, ho, hc, by decide, by decide, by rw [hd]; nofun⟩
theorem It.rev {l : List AV} {a I : Addr} {vs : List Value} {k : Nat} (hh : A.handled = none) (ha : D a = some (lObj vs k)) (r : RepL W.P D l vs) (hne : a ≠ I) :
    It W A D I [I] [I, a] l.reverse false (fun i h => i ≤ vs.toArray.size ∧ h.IsRevIter I a ((vs.toArray.size : Int) - 1 - (i : Int)) ∧ h.IsList a vs.toArray) := by
  refine It.of_walks (Walks.listRev hh I a hne vs.toArray) (by rw [List.size_toArray, List.length_reverse]; exact r.length) (fun i d v hd hv => ?_) (fun b hb => ?_) fun i h hx => ?_
  · have r' := paired_reverse r
    have hlt : i < l.reverse.length := (List.getElem?_eq_some_iff.mp hd).1
    rw [List.length_reverse, r.length] at hlt
    refine paired_get r' hd ?_
    rw [List.getElem?_reverse hlt]
    simpa using hv
  · simp only [List.mem_cons, List.not_mem_nil, or_false] at hb
    rcases hb with rfl | rfl
    · exact .inl rfl
    · exact .inr ⟨_, ha⟩
  · obtain ⟨_, ⟨o, ho, hc, hd⟩, _⟩ := hx
    exact ⟨o, _, ho, hc, by decide, by decide, by rw [hd]; nofun⟩
theorem It.range {a b : Int} {I : Addr} (hh : A.handled = none) :
    It W A D I [I] [I] (rangeList a b) false (fun i h => IsRangeIter h I (a + (i : Nat) * 1) (((b - a).toNat : Int) - (i : Nat)) 1) := by
  refine It.of_walks (Walks.range hh I a 1 (b - a).toNat) (by simp [rangeList]) (fun i d v hd hv => ?_) (fun b hb => ?_) fun i h hx => ?_
  · obtain ⟨t, rfl⟩ := hv
    simp only [rangeList, List.getElem?_map] at hd
    cases q : (List.range (b - a).toNat)[i]? with
    | none => rw [q] at hd; cases hd
    | some j =>
      rw [q] at hd
      cases hd
      have : j = i := by
        rw [List.getElem?_eq_some_iff] at q
        obtain ⟨_, q⟩ := q
        simpa using q.symm
      subst this
      rw [Int.mul_one]
      exact .int _ _
  · simp only [List.mem_cons, List.not_mem_nil, or_false] at hb
    exact .inl hb
  · exact ⟨_, "range_iterator", hx, rfl, by decide, by decide, nofun⟩
theorem It.values {l : List (Str × AV)} {a I : Addr} {es : List DictEntry} {k : Nat} (hh : A.handled = none) (ha : D a = some (dObj es k)) (r : RepE W.P D l es) (hne : a ≠ I) :
    It W A D I [I] [I, a] (l.map (·.2)) false (fun i h => h.IsValIter I a i (zipV l es).length k ∧ h.DictAt (kd W) a (zipV l es) k) := by
  have hz : ∀ {l : List (Str × AV)} {es : List DictEntry}, RepE W.P D l es → Paired (fun (d : AV) (q : Str × Value) => Rep W.P D d q.2) (l.map (·.2)) (zipV l es) := by
    intro l es r
    induction r with
    | nil => exact .nil
    | cons h1 _ ih => exact .cons h1.2 ih
  refine It.of_walks (Walks.dictValues hh I a hne (zipV l es) k) (hz r).length (fun i d v hd hv => ?_) (fun b hb => ?_) fun i h hx => ?_
  · obtain ⟨k', hk'⟩ := hv
    exact paired_get (hz r) hd hk'
  · simp only [List.mem_cons, List.not_mem_nil, or_false] at hb
    rcases hb with rfl | rfl
    · exact .inl rfl
    · exact .inr ⟨_, ha⟩
  · obtain ⟨⟨o, ho, hc, hd⟩, _⟩ := hx
    exact ⟨o, _, ho, hc, by decide, by decide, by rw [hd]; nofun⟩
theorem dictAt_rep {h : Heap} {a : Addr} {kvs : List (Str × AV)} {es : List DictEntry} {n : Nat} (ha : h.get? a = some (dObj es n)) (hr : RepE W.P D kvs es) (hn : (kvs.map (·.1)).Nodup) : h.DictAt (kd W) a (zipV kvs es) n :=
  ⟨_, es.toArray, ha, ⟨rfl, rfl, rfl⟩, rfl, fun e he => keysOf_rep hr e (by simpa using he), by simpa using pairs_zipV hr, by rw [keys_zipV hr]; exact hn⟩
theorem entry_itemiter : entryFor table "dict_itemiterator.__iter__" = some Builtin.«dict_keyiterator.__iter__» :=
  entryFor_alias (id' := "dict_keyiterator.__iter__") (by kernel_rfl) rfl (by decide +kernel) (by kernel_rfl)
theorem zipV_pairs {P : Params} {l : List (Str × AV)} {es : List DictEntry} (r : RepE P D l es) : Paired (fun (p : Str × AV) (q : Str × Value) => p.1 = q.1 ∧ Rep P D p.2 q.2) l (zipV l es) := by
  induction r with
  | nil => exact .nil
  | cons h1 _ ih => exact .cons ⟨rfl, h1.2⟩ ih
theorem It.items {l : List (Str × AV)} {a I : Addr} {es : List DictEntry} {k : Nat} (hh : A.handled = none) (ha : D a = some (dObj es k)) (r : RepE W.P D l es) (hne : a ≠ I) :
    It W A D I [I] [I, a] (l.map fun p => .tuple [.str p.1, p.2]) true (fun i h => (∃ ok ov, IsItemIter h I a i (zipV l es).length k ok ov) ∧ h.DictAt (kd W) a (zipV l es) k) where
  inm := List.mem_singleton.mpr rfl
  sub := fun b hb => by
    simp only [List.mem_cons, List.not_mem_nil, or_false] at hb
    rcases hb with rfl | rfl
    · exact .inl (List.mem_singleton.mpr rfl)
    · exact .inr ⟨_, ha⟩
  frame := fun i h h' hx hk => by
    obtain ⟨⟨ok, ov, h1⟩, h2⟩ := hx
    exact ⟨⟨ok, ov, hk I (by simp) _ h1⟩, h2.at' fun o e => hk a (by simp) o e⟩
  next := fun i d D' s target Q hi ht hx ok le hD hQ => by
    obtain ⟨⟨ok', ov', h1⟩, h2⟩ := hx
    rw [List.getElem?_map] at hi
    cases q : l[i]? with
    | none => rw [q] at hi; cases hi
    | some p =>
      rw [q] at hi
      cases hi
      have hp := zipV_pairs r
      obtain ⟨⟨k', v⟩, hkv, hk1, rv⟩ := paired_some hp q
      refine wpAny_pyNext_items_item h1 h2 hkv fun key h' hkey hout htup hsz hkeep => ?_
      obtain ⟨ts, tk, tp, rfl⟩ : ∃ ts k p, target = .Tuple ts k p := by
        have := ht rfl
        cases target <;> first | exact ⟨_, _, _, rfl⟩ | cases this
      refine wpAny_letOwnedTupleGo_items hout fun h'' hin hs'' => ?_
      have hIs : I ≠ s.heap.objs.size := Nat.ne_of_lt (Heap.lt_size h1)
      have hko : ∀ b o, b ∉ [I] → s.heap.get? b = some o → h''.get? b = some o := fun b o hb e => by
        have hb' : b ≠ I := fun e => hb (List.mem_singleton.mpr e)
        exact (hs''.2 b hb').trans (hkeep b o hb' e)
      have htup' : h''.get? s.heap.objs.size = some (tObj [key, v] 0) := (hs''.2 _ (Ne.symm hIs)).trans htup
      refine hQ _ _ (addF D' s.heap.objs.size (tObj [key, v] 0)) ?_ ⟨⟨_, _, hin⟩, h2.at' fun o e => hko a o (fun h => hne (List.mem_singleton.mp h)) e⟩ ⟨rfl, rfl, rfl, hko, addF_le ok.none_size, ?_, ?_⟩
      · refine .tuple_ (addF_self ..) (.cons ?_ (.cons ((rv.mono le).mono (addF_le ok.none_size)) .nil))
        obtain ⟨t, rfl⟩ := Value.isStrOf_shape hkey
        rw [hk1]; exact .str _ _
      · intro b o e
        by_cases hb : b = s.heap.objs.size
        · subst hb; rw [addF_self] at e; cases e; exact htup'
        · rw [addF_ne hb] at e
          refine hko b o (fun hm => ?_) (ok.fz b o e)
          rw [hD b hm] at e; cases e
      · intro b o e
        by_cases hb : b = s.heap.objs.size
        · subst hb; exact .inr (get_size _)
        · rw [addF_ne hb] at e; exact .inl e
  done := fun D' s Q hx ok hD hQ => by
    obtain ⟨⟨ok', ov', h1⟩, h2⟩ := hx
    have e : (l.map fun p => AV.tuple [.str p.1, p.2]).length = (zipV l es).length := by
      have e1 := r.length
      simp [zipV]; omega
    rw [e] at h1
    refine wpAny_pyNext_items_end hh h1 h2 (by simp) fun h' hext => hQ _ ⟨rfl, rfl, rfl, fun b o hb e => hext b o (fun h => hb (List.mem_singleton.mpr h)) e, fun _ _ e => e, fun b o e => ?_, fun _ _ e => .inl e⟩
    refine hext b o (fun hm => ?_) (ok.fz b o e)
    rw [hD b (List.mem_singleton.mpr hm)] at e; cases e
  self := fun i s Q hx hQ => by
    obtain ⟨⟨ok', ov', h1⟩, h2⟩ := hx
    have hT : s.TypeIs (.ref I) "dict_itemiterator" := ⟨_, h1, rfl⟩
    refine wpAny_pyIter_slot hT F.slot_dict_itemiterator_iter (wpAny_call_entry F.slot_dict_itemiterator_iter hT entry_itemiter ?_ (F.args_dict_itemiterator_iter_1 _))
    show wpAny _ _ (ret (.ref I)) _ _ s
    exact wpAny_pure ⟨_, rfl, "dict_itemiterator", _, hT, F.slot_dict_itemiterator_next.lookup, hQ⟩
  alive := fun i h hx b hb => by
    obtain ⟨⟨ok', ov', h1⟩, h2⟩ := hx
    rw [List.mem_singleton.mp hb]
    exact ⟨_, h1, nofun, nofun, .of_cls rfl (by decide)⟩
theorem enumFrom_get : ∀ (l : List AV) (k i : Nat), (enumFrom k l)[i]? = (l[i]?).map fun d => AV.tuple [.int ((k + i : Nat) : Int), d]
  | [], k, i => by simp [enumFrom]
  | d :: l, k, i => by
    cases i with
    | zero => simp [enumFrom]
    | succ i =>
      simp only [enumFrom, List.getElem?_cons_succ]
      rw [enumFrom_get l (k + 1) i]
      have : k + 1 + i = k + (i + 1) := by omega
      rw [this]
theorem enumFrom_len : ∀ (l : List AV) (k : Nat), (enumFrom k l).length = l.length
  | [], _ => rfl
  | _ :: l, k => by simp [enumFrom, enumFrom_len l]
theorem It.enum {l : List AV} {a e it : Addr} {vs : List Value} {k : Nat} (hh : A.handled = none) (ha : D a = some (lObj vs k)) (r : RepL W.P D l vs) (h1e : a ≠ e) (h1i : a ≠ it) (hei : e ≠ it) :
    It W A D e [e, it] [e, it, a] (enumFrom 0 l) true (fun i h => ∃ old, IsEnum h e it (i : Nat) old ∧ h.IsListIter it a i ∧ h.IsList a vs.toArray) where
  inm := List.mem_cons_self
  sub := fun b hb => by
    simp only [List.mem_cons, List.not_mem_nil, or_false] at hb
    rcases hb with rfl | rfl | rfl
    · exact .inl (by simp)
    · exact .inl (by simp)
    · exact .inr ⟨_, ha⟩
  frame := fun i h h' hx hk => by
    obtain ⟨old, h1, h2, h3⟩ := hx
    exact ⟨old, hk e (by simp) _ h1, h2.at fun o x => hk it (by simp) o x, h3.at fun o x => hk a (by simp) o x⟩
  next := fun i d D' s target Q hi ht hx ok le hD hQ => by
    obtain ⟨old, h1, h2, h3⟩ := hx
    rw [enumFrom_get] at hi
    cases q : l[i]? with
    | none => rw [q] at hi; cases hi
    | some d0 =>
      rw [q] at hi
      cases hi
      obtain ⟨v, hv, rv⟩ := paired_some r q
      refine wpAny_pyNext_enum_item h1 h2 h3 (x := v) (by simpa using hv) hei fun h' hout hit' htup hsz hkeep => ?_
      obtain ⟨ts, tk, tp, rfl⟩ : ∃ ts k p, target = .Tuple ts k p := by
        have := ht rfl
        cases target <;> first | exact ⟨_, _, _, rfl⟩ | cases this
      refine wpAny_letOwnedTupleGo_enum hout fun h'' hin hs'' => ?_
      have hIs : e ≠ s.heap.objs.size := Nat.ne_of_lt (Heap.lt_size h1)
      have hko : ∀ b o, b ∉ [e, it] → s.heap.get? b = some o → h''.get? b = some o := fun b o hb x => by
        simp only [List.mem_cons, List.not_mem_nil, or_false, not_or] at hb
        exact (hs''.2 b hb.1).trans (hkeep b o hb.1 hb.2 x)
      have htup' : h''.get? s.heap.objs.size = some (tObj [.int i s.toks, v] 0) := (hs''.2 _ (Ne.symm hIs)).trans htup
      refine hQ _ _ (addF D' s.heap.objs.size (tObj [.int i s.toks, v] 0)) ?_ ⟨v, ?_, hit'.at fun o x => (hs''.2 it (Ne.symm hei)).trans x, h3.at fun o x => hko a o (by simp [h1e, h1i]) x⟩ ⟨rfl, rfl, rfl, hko, addF_le ok.none_size, ?_, ?_⟩
      · refine .tuple_ (addF_self ..) (.cons ?_ (.cons ((rv.mono le).mono (addF_le ok.none_size)) .nil))
        rw [Nat.zero_add]; exact .int _ _
      · exact hin
      · intro b o x
        by_cases hb : b = s.heap.objs.size
        · subst hb; rw [addF_self] at x; cases x; exact htup'
        · rw [addF_ne hb] at x
          refine hko b o (fun hm => ?_) (ok.fz b o x)
          rw [hD b hm] at x; cases x
      · intro b o x
        by_cases hb : b = s.heap.objs.size
        · subst hb; exact .inr (get_size _)
        · rw [addF_ne hb] at x; exact .inl x
  done := fun D' s Q hx ok hD hQ => by
    obtain ⟨old, h1, h2, h3⟩ := hx
    rw [enumFrom_len] at h1 h2
    refine wpAny_pyNext_enum_end hh h1 h2 h3 (by rw [r.length]; simp) fun h' hext => hQ _ ⟨rfl, rfl, rfl, fun b o hb x => hext b o (fun h => hb (by simp [h])) x, fun _ _ x => x, fun b o x => ?_, fun _ _ x => .inl x⟩
    refine hext b o (fun hm => ?_) (ok.fz b o x)
    rw [hD b (by simp [hm])] at x; cases x
  self := fun i s Q hx hQ => by
    obtain ⟨old, h1, h2, h3⟩ := hx
    have hT : s.TypeIs (.ref e) "enumerate" := ⟨_, h1, rfl⟩
    refine wpAny_pyIter_slot hT F.slot_enumerate_iter (wpAny_call_entry F.slot_enumerate_iter hT F.entry_enumerate_iter ?_ (F.args_enumerate_iter_1 _))
    show wpAny _ _ (ret (.ref e)) _ _ s
    exact wpAny_pure ⟨_, rfl, "enumerate", _, hT, F.slot_enumerate_next.lookup, hQ⟩
  alive := fun i h hx b hb => by
    obtain ⟨old, h1, ⟨o, ho, hc, hd⟩, h3⟩ := hx
    simp only [List.mem_cons, List.not_mem_nil, or_false] at hb
    rcases hb with rfl | rfl
    · exact ⟨_, h1, nofun, nofun, .of_cls rfl (by decide)⟩
    · exact ⟨o, ho, by rw [hc]; nofun, by rw [hd]; nofun, .of_cls hc (by decide)⟩
end
end Mine
set_option maxRecDepth 10000
set_option linter.unusedVariables false
namespace Mine
open PySem PyProof.Rows
/-- some objects struck out -/
noncomputable def wipe (h : Heap) : List Addr → Heap
  | [] => h
  | a :: r => wipe (h.update a fun o => { o with data := .freed }) r
theorem get_freed (h : Heap) (a : Addr) : (h.update a fun o => { o with data := .freed }).get? a = none := by
  cases q : (h.update a fun o => { o with data := .freed }).get? a with
  | none => rfl
  | some o =>
    rw [Heap.get?_some_iff] at q
    obtain ⟨q1, q2⟩ := q
    have q1' : (h.objs.modify a fun o => { o with data := .freed })[a]? = some o := q1
    rw [Array.getElem?_modify] at q1'
    simp only [if_pos] at q1'
    cases z : h.objs[a]? with
    | none => rw [z] at q1'; cases q1'
    | some o' => rw [z] at q1'; cases q1'; cases q2
theorem wipe_get (as : List Addr) : ∀ (h : Heap) (b : Addr), (wipe h as).get? b = if b ∈ as then none else h.get? b := by
  induction as with
  | nil => intro h b; simp [wipe]
  | cons a r ih =>
    intro h b
    unfold wipe
    rw [ih]
    by_cases hb : b ∈ r
    · rw [if_pos hb, if_pos (List.mem_cons_of_mem _ hb)]
    · rw [if_neg hb]
      by_cases hba : b = a
      · subst hba
        rw [if_pos List.mem_cons_self]
        exact get_freed h b
      · rw [if_neg (by simp [hba, hb])]
        exact Heap.get?_update_other h _ (Ne.symm hba)
section
variable {W : Wd} {env : Env} {wr : List Str} {D₀ D D' : Fz} {s₀ s s' : Shared} {σ : Sg} {oa : Str → Addr}
noncomputable def cellList (env : Env) (wr : List Str) : List Addr := wr.filterMap fun x => if env.kindOf x = some .cell then env.cells.lookup x else none
noncomputable def ownList (σ : Sg) (oa : Str → Addr) : List Addr := σ.filterMap fun p => if (σ.lookup p.1).any (·.1) then some (oa p.1) else none
theorem mem_ownList {x : Str} {d : AV} (h : σ.lookup x = some (true, d)) : oa x ∈ ownList σ oa := by
  refine List.mem_filterMap.mpr ⟨(x, (true, d)), mem_of_lookup h, ?_⟩
  rw [h]; rfl
theorem of_mem_ownList {b : Addr} (h : b ∈ ownList σ oa) : ∃ x d, σ.lookup x = some (true, d) ∧ oa x = b := by
  obtain ⟨⟨x, u⟩, hm, e⟩ := List.mem_filterMap.mp h
  dsimp only at e
  cases q : σ.lookup x with
  | none => rw [q] at e; simp at e
  | some w =>
    obtain ⟨c, d⟩ := w
    rw [q] at e
    cases c with
    | false => simp at e
    | true => simp at e; exact ⟨x, d, q, e⟩
theorem of_mem_cellList {b : Addr} (h : b ∈ cellList env wr) : ∃ x ∈ wr, env.kindOf x = some .cell ∧ env.cells.lookup x = some b := by
  obtain ⟨x, hx, e⟩ := List.mem_filterMap.mp h
  split at e
  · rename_i hk; exact ⟨x, hx, hk, e⟩
  · cases e
/-- an address that a store of this frame may touch -/
noncomputable def Mut (env : Env) (wr : List Str) (σ : Sg) (oa : Str → Addr) (b : Addr) : Prop :=
  b = env.locals ∨ (∃ x ∈ wr, env.kindOf x = some .cell ∧ env.cells.lookup x = some b) ∨ ∃ x d, σ.lookup x = some (true, d) ∧ oa x = b
theorem St.rebase (F : W.Firm) (S : St W env wr D₀ s₀ σ D s oa) (ex : List Addr) (hex : ∀ b ∈ ex, s₀.heap.get? b = none) (hnx : ∀ b ∈ ex, ∀ o, s.heap.get? b = some o → NC o) : ∃ sb : Shared, St W env wr D sb σ D s oa ∧
    (∀ b o, s.heap.get? b = some o → ¬ Mut env wr σ oa b → b ∉ ex → sb.heap.get? b = some o) ∧
    (∀ b o, sb.heap.get? b = some o → s.heap.get? b = some o) ∧ (∀ b ∈ ex, sb.heap.get? b = none) ∧
    (∀ {D' : Fz} {s' : Shared}, Ext W D D' sb s' → Ext W D₀ D' s₀ s') ∧
    ∀ {σ' : Sg} {D' : Fz} {s' : Shared} {oa' : Str → Addr}, St W env wr D sb σ' D' s' oa' → St W env wr D₀ s₀ σ' D' s' oa' := by
  let as : List Addr := env.locals :: (cellList env wr ++ ownList σ oa) ++ ex
  let sb : Shared := { s with heap := wipe s.heap as }
  have has0 : ∀ b ∈ as, s₀.heap.get? b = none := by
    intro b hb
    rcases List.mem_append.mp hb with hb | hb
    case inr => exact hex b hb
    rcases List.mem_cons.mp hb with rfl | hb
    · exact S.loc0
    · rcases List.mem_append.mp hb with hb | hb
      · obtain ⟨x, hx, hk, hc⟩ := of_mem_cellList hb
        rcases S.wrt x hx with h | ⟨h, c, v, h1, h2, h3, h4, h5⟩
        · rw [hk] at h; cases h
        · rw [hc] at h1; cases h1; exact h4
      · obtain ⟨x, d, hx, rfl⟩ := of_mem_ownList hb
        exact (S.own x d hx).2.2.2.1
  have hasN : ∀ b ∈ as, ∀ o, s.heap.get? b = some o → NC o := by
    intro b hb o ho
    rcases List.mem_append.mp hb with hb | hb
    case inr => exact hnx b hb o ho
    rcases List.mem_cons.mp hb with rfl | hb
    · obtain ⟨m, hm⟩ := S.ns
      exact NC.ns hm o ho
    · rcases List.mem_append.mp hb with hb | hb
      · obtain ⟨x, hx, hk, hc⟩ := of_mem_cellList hb
        rcases S.wrt x hx with h | ⟨h, c, v, h1, h2, h3, h4, h5⟩
        · rw [hk] at h; cases h
        · rw [hc] at h1; cases h1; exact NC.cell h2 o ho
      · obtain ⟨x, d, hx, rfl⟩ := of_mem_ownList hb
        obtain ⟨_, ⟨o', ho', hr⟩, _⟩ := S.own x d hx
        rw [ho] at ho'; cases ho'
        exact hr.nc
  have gb : ∀ b, sb.heap.get? b = if b ∈ as then none else s.heap.get? b := fun b => wipe_get as s.heap b
  have hGb : W.G sb.heap := F.pokes (ms := as) S.glob0 S.glob S.ext.keep has0 hasN fun b o hb e => by rw [gb, if_neg hb]; exact e
  have up : ∀ b o, sb.heap.get? b = some o → s.heap.get? b = some o := fun b o e => by
    rw [gb] at e
    split at e
    · cases e
    · exact e
  have down : ∀ b, sb.heap.get? b = none → s₀.heap.get? b = none := fun b e => by
    cases q : s₀.heap.get? b with
    | none => rfl
    | some o =>
      by_cases hT : b ∈ W.T
      · obtain ⟨_, _, h1, _⟩ := W.tab _ b hGb hT
        rw [e] at h1; cases h1
      · rw [gb] at e
        split at e
        · rename_i hb
          rw [has0 b hb] at q; cases q
        · rw [S.ext.keep b o hT q] at e; cases e
  have nb : ∀ b ∈ as, sb.heap.get? b = none := fun b hb => by rw [gb, if_pos hb]
  have backE : ∀ {D' : Fz} {s' : Shared}, Ext W D D' sb s' → Ext W D₀ D' s₀ s' := fun {D' s'} x => by
    refine ⟨x.gens.trans S.ext.gens, x.drawn.trans S.ext.drawn, x.os.trans S.ext.os, fun b o hb e => ?_, fun b o e => x.le _ _ (S.ext.le b o e), x.fz, fun b o e => ?_, x.glob⟩
    · refine x.keep b o hb ?_
      rw [gb, if_neg]
      · exact S.ext.keep b o hb e
      · intro hm; rw [has0 b hm] at e; cases e
    · rcases x.new b o e with h | h
      · exact S.ext.new b o h
      · exact .inr (down b h)
  refine ⟨sb, ⟨⟨rfl, rfl, rfl, fun b o _ e => up b o e, fun _ _ e => e, S.fz, fun _ _ e => .inl e, S.glob⟩, hGb, S.nt, S.kind, S.glo, S.bui, S.ns, S.locD, nb _ (List.mem_append_left _ List.mem_cons_self), ?_, S.fro, ?_, S.inj⟩, ?_, up, fun b hb => nb b (List.mem_append_right _ hb), backE, ?_⟩
  · intro x hx
    rcases S.wrt x hx with h | ⟨h, c, v, h1, h2, h3, h4, h5⟩
    · exact .inl h
    · refine .inr ⟨h, c, v, h1, h2, h3, nb c (List.mem_append_left _ (List.mem_cons_of_mem _ (List.mem_append_left _ (List.mem_filterMap.mpr ⟨x, hx, by rw [if_pos h, h1]⟩)))), h5⟩
  · intro x d hx
    obtain ⟨h1, h2, h3, h4, h5⟩ := S.own x d hx
    exact ⟨h1, h2, h3, nb _ (List.mem_append_left _ (List.mem_cons_of_mem _ (List.mem_append_right _ (mem_ownList hx)))), h5⟩
  · intro b o e h1 h2
    rw [gb, if_neg]
    · exact e
    · intro hm
      rcases List.mem_append.mp hm with hm | hm
      case inr => exact h2 hm
      rcases List.mem_cons.mp hm with h | hm
      · exact h1 (.inl h)
      · rcases List.mem_append.mp hm with hm | hm
        · obtain ⟨x, hx, hk, hc⟩ := of_mem_cellList hm
          exact h1 (.inr (.inl ⟨x, hx, hk, hc⟩))
        · obtain ⟨x, d, hx, hb⟩ := of_mem_ownList hm
          exact h1 (.inr (.inr ⟨x, d, hx, hb⟩))
  · intro σ' D' s' oa' S'
    refine ⟨backE S'.ext, S.glob0, S.nt0, S'.kind, S'.glo, S'.bui, S'.ns, S'.locD, S.loc0, ?_, S'.fro, ?_, S'.inj⟩
    · intro x hx
      rcases S'.wrt x hx with h | ⟨h, c, v, h1, h2, h3, h4, h5⟩
      · exact .inl h
      · exact .inr ⟨h, c, v, h1, h2, h3, down c h4, h5⟩
    · intro x d hx
      obtain ⟨h1, h2, h3, h4, h5⟩ := S'.own x d hx
      exact ⟨h1, h2, h3, down _ h4, h5⟩
/-- as Ext, but some objects that no name owns may have moved -/
structure EP (W : Wd) (ms : List Addr) (D D' : Fz) (s s' : Shared) : Prop where
  gens : s'.gens = s.gens
  drawn : s'.drawn = s.drawn
  os : s'.os = s.os
  keep : ∀ b o, b ∉ W.T → b ∉ ms → s.heap.get? b = some o → s'.heap.get? b = some o
  le : ∀ b o, D b = some o → D' b = some o
  fz : ∀ b o, D' b = some o → s'.heap.get? b = some o
  new : ∀ b o, D' b = some o → D b = some o ∨ s.heap.get? b = none
  glob : W.G s'.heap
theorem Poke.ep (F : W.Firm) {ms : List Addr} (x : Poke W ms D D' s s') (hg0 : W.G s₀.heap) (hg : W.G s.heap) (hk : ∀ b o, b ∉ W.T → s₀.heap.get? b = some o → s.heap.get? b = some o) (h0 : ∀ b ∈ ms, s₀.heap.get? b = none) (hn : ∀ b ∈ ms, ∀ o, s.heap.get? b = some o → NC o) : EP W ms D D' s s' :=
  ⟨x.gens, x.drawn, x.os, fun b o _ hb e => x.keep b o hb e, x.le, x.fz, x.new, F.pokes hg0 hg hk h0 hn x.keep⟩
theorem alive_nc {ms : List Addr} {h : Heap} (x : ∀ b ∈ ms, ∃ o, h.get? b = some o ∧ o.cls ≠ .none ∧ (∀ v, o.data ≠ .cell v) ∧ NC o) : ∀ b ∈ ms, ∀ o, h.get? b = some o → NC o := fun b hb o ho => by
  obtain ⟨o', h1, _, _, h4⟩ := x b hb
  rw [ho] at h1; cases h1; exact h4
theorem Ext.ep {ms : List Addr} (x : Ext W D D' s s') : EP W ms D D' s s' := ⟨x.gens, x.drawn, x.os, fun b o hb _ e => x.keep b o hb e, x.le, x.fz, x.new, x.glob⟩
theorem EP.trans {ms : List Addr} {D'' : Fz} {s'' : Shared} (hG : W.G s.heap) (hms : ∀ b ∈ ms, ∃ o, s'.heap.get? b = some o) (x : EP W ms D D' s s') (y : EP W ms D' D'' s' s'') : EP W ms D D'' s s'' where
  gens := y.gens.trans x.gens
  drawn := y.drawn.trans x.drawn
  os := y.os.trans x.os
  keep := fun b o hb hm e => y.keep b o hb hm (x.keep b o hb hm e)
  le := fun b o e => y.le b o (x.le b o e)
  fz := y.fz
  new := fun b o e => by
    rcases y.new b o e with h | h
    · exact x.new b o h
    · right
      cases q : s.heap.get? b with
      | none => rfl
      | some o' =>
        by_cases hb : b ∈ W.T
        · obtain ⟨_, _, h1, _⟩ := W.tab _ b x.glob hb
          rw [h] at h1; cases h1
        · by_cases hm : b ∈ ms
          · obtain ⟨o2, h2⟩ := hms b hm
            rw [h] at h2; cases h2
          · rw [x.keep b o' hb hm q] at h; cases h
  glob := y.glob
theorem St.ep (S : St W env wr D₀ s₀ σ D s oa) {ms : List Addr} (x : EP W ms D D' s s') (h0 : ∀ b ∈ ms, s₀.heap.get? b = none) (hl : ∀ b ∈ ms, b ≠ env.locals) (hc : ∀ b ∈ ms, ∀ v, ¬ s.heap.IsCell b v)
    (ho : ∀ b ∈ ms, ∀ y d, σ.lookup y = some (true, d) → oa y ≠ b) : St W env wr D₀ s₀ σ D' s' oa := by
  have none_of : ∀ {a : Addr} {o : Obj}, D a = none → s.heap.get? a = some o → D' a = none := fun {a o} hD ho => by
    cases q : D' a with
    | none => rfl
    | some o' =>
      rcases x.new _ _ q with h | h
      · rw [hD] at h; cases h
      · rw [ho] at h; cases h
  have hns : env.locals ∉ ms := fun h => hl _ h rfl
  have va : ∀ y v, VarAt env s.heap y v → VarAt env s'.heap y v := by
    intro y v q
    rcases q with ⟨q1, m, q2, q3⟩ | ⟨q1, c, q2, q3⟩
    · exact .inl ⟨q1, m, q2.at' fun o e => x.keep _ o S.locT hns e, q3⟩
    · obtain ⟨o, e1, e2⟩ := q3
      exact .inr ⟨q1, c, q2, o, x.keep c o (W.notT' S.glob e1 (by rw [e2]; nofun)) (fun h => hc c h _ ⟨o, e1, e2⟩) e1, e2⟩
  obtain ⟨m, hm⟩ := S.ns
  obtain ⟨ol, hol⟩ := S.locAt
  refine ⟨⟨x.gens.trans S.ext.gens, x.drawn.trans S.ext.drawn, x.os.trans S.ext.os, fun b o hb e => ?_, fun b o e => x.le _ _ (S.ext.le b o e), x.fz, fun b o e => ?_, x.glob⟩, S.glob0, S.nt0, S.kind, S.glo, S.bui, ⟨m, hm.at' fun o e => x.keep _ o S.locT hns e⟩, none_of S.locD hol, S.loc0, ?_, ?_, ?_, S.inj⟩
  · refine x.keep b o hb (fun hm => ?_) (S.ext.keep b o hb e)
    rw [h0 b hm] at e; cases e
  · rcases x.new b o e with h | h
    · exact S.ext.new b o h
    · right
      cases q : s₀.heap.get? b with
      | none => rfl
      | some o' =>
        by_cases hT : b ∈ W.T
        · obtain ⟨_, _, h1, _⟩ := W.tab _ b S.glob hT
          rw [h] at h1; cases h1
        · rw [S.ext.keep b o' hT q] at h; cases h
  · intro y hy
    rcases S.wrt y hy with q | ⟨q, c, v, q1, ⟨o, e1, e2⟩, q3, q4, q5⟩
    · exact .inl q
    · exact .inr ⟨q, c, v, q1, ⟨o, x.keep c o (W.notT0 S.glob0 q4) (fun h => hc c h _ ⟨o, e1, e2⟩) e1, e2⟩, none_of q3 e1, q4, q5⟩
  · intro y d hy
    obtain ⟨v, q1, q2⟩ := S.fro y d hy
    exact ⟨v, va y v q1, q2.mono x.le⟩
  · intro y d hy
    obtain ⟨q1, ⟨o, q2, q3⟩, q4, q5, q6⟩ := S.own y d hy
    exact ⟨va _ _ q1, ⟨o, x.keep _ o (W.notT0 S.glob0 q5) (fun h => ho _ h y d hy rfl) q2, q3.mono x.le⟩, none_of q4 q2, q5, q6⟩
end
end Mine
set_option maxRecDepth 10000
set_option linter.unusedVariables false
namespace Mine
open PySem PyProof.Rows
section
variable {W : Wd} {A : Around} {env : Env} {wr : List Str} {D₀ D D' : Fz} {s₀ s s' : Shared} {σ σ' : Sg} {oa : Str → Addr} {n : Nat}
theorem St.ok (S : St W env wr D₀ s₀ σ D s oa) : Ok W D s := ⟨S.glob, S.fz⟩
theorem abind_name {t : Expr} {d : AV} (h : abind wr σ t d = some σ') : ∃ x p, t = .Name x p ∧ x ∈ wr ∧ σ' = put σ x (false, d) := by
  obtain ⟨x, h1, h⟩ := bind_some h
  obtain ⟨hc, h2⟩ := ite_some h
  obtain ⟨p, rfl⟩ := isName_ h1
  exact ⟨x, p, rfl, by simpa using hc, (Option.some.inj h2).symm⟩
theorem bind_sound (F : W.Firm) (S : St W env wr D₀ s₀ σ D s oa) {t : Expr} {d : AV} {v : Value} (h : abind wr σ t d = some σ') (rv : Rep W.P D d v) {Q : Unit → Shared → Prop}
    (hQ : ∀ s' oa', St W env wr D₀ s₀ σ' D s' oa' → Q () s') : wpAny W.M A (assign t env v) Q NoE s := by
  obtain ⟨x, p, rfl, hx, rfl⟩ := abind_name h
  refine wpAny_assign_Name (S.store F hx (fun _ => rv) (fun h => by cases h) fun s' oa' S' _ => hQ s' oa' S')
theorem binds_sound (F : W.Firm) {ds : List AV} {vs : List Value} (r : RepL W.P D ds vs) : ∀ {ts : List Expr} {σ σ' : Sg} {s : Shared} {oa : Str → Addr}, St W env wr D₀ s₀ σ D s oa → abinds wr σ ts ds = some σ' →
    ∀ {Q : Unit → Shared → Prop}, (∀ s' oa', St W env wr D₀ s₀ σ' D s' oa' → Q () s') → wpAny W.M A (assignInOrder ((assignEach ts env).map (·.2)) vs) Q NoE s := by
  induction r with
  | nil =>
    intro ts σ σ' s oa S h Q hQ
    cases ts with
    | nil => cases h; exact wpAny_pure (hQ _ _ S)
    | cons t ts => cases h
  | @cons d v ds vs r1 r2 ih =>
    intro ts σ σ' s oa S h Q hQ
    cases ts with
    | nil => cases h
    | cons t ts =>
      obtain ⟨σ1, h1, h⟩ := bind_some h
      obtain ⟨x, p, rfl, hx, rfl⟩ := abind_name h1
      have e : assignInOrder ((assignEach (.Name x p :: ts) env).map (·.2)) (v :: vs) = (holding vs (assign (.Name x p) env v) >>= fun _ => assignInOrder ((assignEach ts env).map (·.2)) vs) := rfl
      rw [e]
      exact wpAny_bind (wpAny_holding (bind_sound F S h1 r1 fun s' oa' S' => ih S' h hQ))
theorem abinds_len {ts : List Expr} : ∀ {ds : List AV} {σ σ' : Sg}, abinds wr σ ts ds = some σ' → (assignEach ts env).length = ds.length ∧ (assignEach ts env).findIdx? (·.1) = none := by
  induction ts with
  | nil => intro ds σ σ' h; cases ds with
    | nil => exact ⟨rfl, rfl⟩
    | cons => cases h
  | cons t ts ih => intro ds σ σ' h; cases ds with
    | nil => cases h
    | cons d ds =>
      obtain ⟨σ1, h1, h⟩ := bind_some h
      obtain ⟨x, p, rfl, hx, rfl⟩ := abind_name h1
      obtain ⟨e1, e2⟩ := ih h
      refine ⟨congrArg Nat.succ e1, ?_⟩
      show List.findIdx? (·.1) ((false, assign (.Name x p) env) :: assignEach ts env) = none
      rw [List.findIdx?_cons, e2]; rfl
theorem keep_ext (o : Ok W D s) {h' : Heap} {tk : Nat} (hk : ∀ b x, s.heap.get? b = some x → h'.get? b = some x) : Ext W D D s { s with heap := h', toks := tk } := .of_keeps o.glob o.fz rfl rfl rfl hk
theorem extBut_keep {h h' : Heap} (x : Heap.ExtBut h.objs.size h h') : ∀ b o, h.get? b = some o → h'.get? b = some o := fun b o e => x b o (Nat.ne_of_lt (Heap.lt_size e)) e
theorem tgt_sound (F : W.Firm) (R : Room A n) (S : St W env wr D₀ s₀ σ D s oa) {t : Expr} {d : AV} {v : Value} (h : atgt wr σ t d = some σ') (rv : Rep W.P D d v) {Q : Unit → Shared → Prop}
    (hQ : ∀ s' oa', St W env wr D₀ s₀ σ' D s' oa' → Q () s') : wpAny W.M A (assign t env v) Q NoE s := by
  cases q : tupOf t with
  | some ts =>
    unfold atgt at h
    rw [q] at h
    obtain ⟨ds, h2, h⟩ := bind_some h
    cases atup_ h2
    obtain ⟨k, p, rfl⟩ := tupOf_ q
    obtain ⟨a, vs, n1, rfl, h1, r1⟩ := rv.tuple'
    obtain ⟨e1, e2⟩ := abinds_len (env := env) h
    have e3 := r1.length
    refine wpAny_assign_Tuple (items := vs.toArray) R.handled ⟨_, S.fz _ _ h1, rfl, _, rfl⟩ (by rw [e1, e3]; simp) e2 fun h' hx => ?_
    have S' := S.step (keep_ext S.ok (tk := s.toks) (extBut_keep hx))
    exact binds_sound F r1 S' h hQ
  | none =>
    unfold atgt at h
    rw [q] at h
    exact bind_sound F S h rv hQ
theorem tgt_keep (F : W.Firm) (R : Room A n) (S : St W env wr D₀ s₀ σ D s oa) {t : Expr} {d : AV} {v : Value} (h : atgt wr σ t d = some σ') (rv : Rep W.P D d v) {Q : Unit → Shared → Prop}
    (hQ : ∀ s' oa', St W env wr D₀ s₀ σ' D s' oa' → (∀ b o, b ∉ W.T → s.heap.get? b = some o → ¬ Mut env wr σ oa b → s'.heap.get? b = some o) → Q () s') : wpAny W.M A (assign t env v) Q NoE s := by
  obtain ⟨sb, Sb, k1, k2, _, _, back⟩ := S.rebase F [] nofun nofun
  refine tgt_sound F R Sb h rv fun s' oa' S' => hQ s' oa' (back S') fun b o hT e hm => S'.ext.keep b o hT (k1 b o e hm (by simp))
theorem abinds_other {ts : List Expr} : ∀ {ds : List AV} {σ σ' : Sg}, abinds wr σ ts ds = some σ' → ∀ y, y ∉ ts.filterMap isName → σ'.lookup y = σ.lookup y := by
  induction ts with
  | nil => intro ds σ σ' h y hy; cases ds with
    | nil => cases h; rfl
    | cons => cases h
  | cons t ts ih => intro ds σ σ' h y hy; cases ds with
    | nil => cases h
    | cons d ds =>
      obtain ⟨σ1, h1, h⟩ := bind_some h
      obtain ⟨x, p, rfl, hx, rfl⟩ := abind_name h1
      have hy' : y ∉ x :: ts.filterMap isName := hy
      rw [List.mem_cons, not_or] at hy'
      rw [ih h y hy'.2, put_lookup, if_neg hy'.1]
theorem atgt_other {t : Expr} {d : AV} (h : atgt wr σ t d = some σ') {y : Str} (hy : y ∉ tnames t) : σ'.lookup y = σ.lookup y := by
  unfold atgt at h
  unfold tnames at hy
  cases q : tupOf t with
  | some ts =>
    rw [q] at h hy
    obtain ⟨ds, _, h⟩ := bind_some h
    exact abinds_other h y hy
  | none =>
    rw [q] at h hy
    obtain ⟨x, p, rfl, hx, rfl⟩ := abind_name h
    rw [put_lookup, if_neg]
    exact fun e => hy (e ▸ List.mem_singleton.mpr rfl)
end
end Mine
set_option maxRecDepth 10000
set_option linter.unusedVariables false
namespace Mine
open PySem PyProof.Rows
noncomputable def testsOf (ifs : List Expr) (env : Env) : Sem Bool := forIn ifs true fun c r => if r = true then do
    let ok ← isTrue c env (eval c env)
    pure (ForInStep.yield ok)
  else pure (ForInStep.yield r)
noncomputable def turnOf (gens : List Comprehension) (e : Expr) (emit : Sem Unit) (depth : Nat) (g : Comprehension) (it acc : Value) (env : Env) : Sem Fin := do
  standAt g.iter.pos
  let r ← pyNext it
  match r with
  | none => pure (.done .next)
  | some v => do
    letOwnedTupleGo g.target it v
    assign g.target env v
    let ok ← testsOf g.ifs env
    if ok = true then (match gens[depth + 1]? with
      | some g' => do
        let x ← eval g'.iter env
        standAt g'.iter.pos
        let x ← foldedSetIterable g'.iter env x
        let it' ← holding [x] (pyIter x)
        let _ ← runOwn (.compStart e (depth + 1) it' acc env) env
        again (.compLoop e depth it acc env)
      | none => do
        emit
        again (.compLoop e depth it acc env))
    else again (.compLoop e depth it acc env)
noncomputable def emitL (elt : Expr) (acc : Value) (env : Env) : Sem Unit := do
  let x ← eval elt env
  let _ ← call (.builtin "list.append") [acc, x]
  pure ()
noncomputable def emitD (k v : Expr) (d : Addr) (env : Env) : Sem Unit := do
  let kv ← eval k env
  let vv ← holding [kv] (eval v env)
  standAt { k.pos with endLine := v.pos.endLine, endCol := v.pos.endCol }
  holding [kv, vv] (dictSet d kv vv)
theorem turn_list {elt : Expr} {gens : List Comprehension} {scope : Scope} {pos : Pos} {depth : Nat} {it acc : Value} {env : Env} {g : Comprehension} (hg : gens[depth]? = some g) (hs : syncOk gens = true) :
    compTurn (.ListComp elt gens scope pos) depth it acc env = turnOf gens (.ListComp elt gens scope pos) (emitL elt acc env) depth g it acc env := by
  have ha : ∀ g ∈ gens, (g.is_async != 0) = false := fun g hg => by
    have := List.all_eq_true.mp hs g hg
    simpa [bne] using this
  have h1 := ha g (List.mem_of_getElem? hg)
  unfold compTurn turnOf
  simp only [hg, h1, Bool.false_eq_true, if_false]
  cases q : gens[depth + 1]? with
  | none => rfl
  | some g' =>
    have h2 := ha g' (List.mem_of_getElem? q)
    simp only [h2, Bool.false_eq_true, if_false]
    rfl
theorem turn_dict {k v : Expr} {gens : List Comprehension} {scope : Scope} {pos : Pos} {depth : Nat} {it : Value} {d : Addr} {env : Env} {g : Comprehension} (hg : gens[depth]? = some g) (hs : syncOk gens = true) :
    compTurn (.DictComp k v gens scope pos) depth it (.ref d) env = turnOf gens (.DictComp k v gens scope pos) (emitD k v d env) depth g it (.ref d) env := by
  have ha : ∀ g ∈ gens, (g.is_async != 0) = false := fun g hg => by
    have := List.all_eq_true.mp hs g hg
    simpa [bne] using this
  have h1 := ha g (List.mem_of_getElem? hg)
  unfold compTurn turnOf
  simp only [hg, h1, Bool.false_eq_true, if_false]
  cases q : gens[depth + 1]? with
  | none => rfl
  | some g' =>
    have h2 := ha g' (List.mem_of_getElem? q)
    simp only [h2, Bool.false_eq_true, if_false]
    rfl
/-- what is asked of the comprehension's own code -/
structure Cmp (gens : List Comprehension) (e : Expr) (acc : Value) (env : Env) (emit : Sem Unit) : Prop where
  turn : ∀ depth g it, gens[depth]? = some g → (Code.compLoop e depth it acc env).isFrame = false ∧ compTurn e depth it acc env = turnOf gens e emit depth g it acc env
  under : ∀ (A : Around) depth it, A.under (.compLoop e depth it acc env) = A ∧ A.under (.compStart e depth it acc env) = A
  quiet : ∀ depth it, (Code.compLoop e depth it acc env).quiet = true ∧ (Code.compStart e depth it acc env).isFrame = false
  clauses : clausesOf e = gens
  sync : syncOk gens = true
theorem cmp_list {elt : Expr} {gens : List Comprehension} {scope : Scope} {pos : Pos} {acc : Value} {env : Env} (hs : syncOk gens = true) : Cmp gens (.ListComp elt gens scope pos) acc env (emitL elt acc env) :=
  ⟨fun depth g it hg => ⟨rfl, turn_list hg hs⟩, fun A depth it => ⟨Around.under_of_weight rfl, Around.under_of_weight rfl⟩, fun _ _ => ⟨rfl, rfl⟩, rfl, hs⟩
theorem cmp_dict {k v : Expr} {gens : List Comprehension} {scope : Scope} {pos : Pos} {d : Addr} {env : Env} (hs : syncOk gens = true) : Cmp gens (.DictComp k v gens scope pos) (.ref d) env (emitD k v d env) :=
  ⟨fun depth g it hg => ⟨rfl, turn_dict hg hs⟩, fun A depth it => ⟨Around.under_of_weight rfl, Around.under_of_weight rfl⟩, fun _ _ => ⟨rfl, rfl⟩, rfl, hs⟩
section
variable {W : Wd} {A : Around} {env : Env} {s : Shared} {R : Result → Shared → Prop} {gens : List Comprehension} {e : Expr} {acc : Value} {emit : Sem Unit}
theorem notFrame_den {c : Code} {e : Expr} {depth : Nat} {it acc : Value} {env : Env} (hf : (Code.compLoop e depth it acc env).isFrame = false) :
    denote table (.compLoop e depth it acc env) = (compTurn e depth it acc env).onRaise (fun x => do noteFrame x env; theTreesLotGoes x) := by
  show (if (Code.compLoop e depth it acc env).isFrame = true then _ else _) = _
  rw [if_neg (by rw [hf]; exact Bool.false_ne_true)]
theorem compLoop_w (K : Cmp gens e acc env emit) {depth : Nat} {g : Comprehension} {it : Value} (hg : gens[depth]? = some g)
    (h : wpAny W.M A (pyNext it) (fun r s₁ => match r with
      | none => R (.ok .next) s₁
      | some v => wpAny W.M A (letOwnedTupleGo g.target it v) (fun _ s₂ => wpAny W.M A (assign g.target env v) (fun _ s₃ => wpAny W.M A (testsOf g.ifs env) (fun ok s₄ =>
          match ok with
          | false => codeAny W.M A (.compLoop e depth it acc env) R s₄
          | true => match gens[depth + 1]? with
            | none => wpAny W.M A emit (fun _ s₅ => codeAny W.M A (.compLoop e depth it acc env) R s₅) NoE s₄
            | some g' => wpAny W.M A (eval g'.iter env) (fun x s₅ => foldedSetIterable g'.iter env x = pure x ∧ wpAny W.M A (pyIter x) (fun it' s₆ =>
                codeAny W.M A (.compStart e (depth + 1) it' acc env) (fun r s₇ => r = .ok .next ∧ codeAny W.M A (.compLoop e depth it acc env) R s₇) s₆) NoE s₅) NoE s₄)
          NoE s₃) NoE s₂) NoE s₁) NoE s) : codeAny W.M A (.compLoop e depth it acc env) R s := by
  refine codeAny_of_tree ?_
  rw [(K.under A depth it).1]
  show wpAny W.M A (denote table (.compLoop e depth it acc env)) _ _ s
  rw [notFrame_den (c := .compLoop e depth it acc env) (K.turn depth g it hg).1, (K.turn depth g it hg).2]
  refine wpAny_onRaise (wpAny_mono (Q := fun fin s' => match fin with | .done f => R (.ok f) s' | .again c' => c'.quiet = true ∧ codeAny W.M A c' R s') (E := NoE) ?_ (fun _ _ x => x) (fun _ _ x => x.elim))
  unfold turnOf
  refine wpAny_bind (wpAny_standAt (wpAny_bind (wpAny_mono h (fun r s₁ h₁ => ?_) fun _ _ x => x)))
  cases r with
  | none => exact wpAny_pure h₁
  | some v =>
    refine wpAny_bind (wpAny_mono h₁ (fun _ s₂ h₂ => wpAny_bind (wpAny_mono h₂ (fun _ s₃ h₃ => wpAny_bind (wpAny_mono h₃ (fun ok s₄ h₄ => ?_) fun _ _ x => x)) fun _ _ x => x)) fun _ _ x => x)
    cases ok with
    | false => exact wpAny_pure ⟨(K.quiet depth it).1, h₄⟩
    | true =>
      rw [if_pos rfl]
      dsimp only at h₄
      cases q : gens[depth + 1]? with
      | none =>
        rw [q] at h₄
        exact wpAny_bind (wpAny_mono h₄ (fun _ s₅ h₅ => wpAny_pure ⟨(K.quiet depth it).1, h₅⟩) fun _ _ x => x)
      | some g' =>
        rw [q] at h₄
        refine wpAny_bind (wpAny_mono h₄ (fun x s₅ h₅ => wpAny_bind (wpAny_standAt (wpAny_bind (wpAny_of_eq h₅.1 (wpAny_bind (wpAny_holding (wpAny_mono h₅.2 (fun it' s₆ h₆ => ?_) fun _ _ x => x))))))) fun _ _ x => x)
        refine wpAny_bind (wpAny_runOwn (codeAny_mono h₆ fun r s₇ h₇ => ?_))
        obtain ⟨rfl, h₇⟩ := h₇
        exact wpAny_pure ⟨(K.quiet depth it).1, h₇⟩
theorem compStart_w (K : Cmp gens e acc env emit) {depth : Nat} {g : Comprehension} {it : Value} (hg : gens[depth]? = some g)
    (h0 : codeAny W.M A (.compLoop e depth it acc env) R s) (h : wpAny W.M A (pyIter it) (fun it' s' => codeAny W.M A (.compLoop e depth it' acc env) R s') NoE s) :
    codeAny W.M A (.compStart e depth it acc env) R s := by
  refine codeAny_of_tree ?_
  rw [(K.under A depth it).2]
  have hd : denote table (.compStart e depth it acc env) = (compStart e depth it acc env).onRaise (fun x => do noteFrame x env; standAt theWindowsPlace) := by
    show (if (Code.compStart e depth it acc env).isFrame = true then _ else _) = _
    rw [if_neg (by rw [(K.quiet depth it).2]; exact Bool.false_ne_true)]
  show wpAny W.M A (denote table (.compStart e depth it acc env)) _ _ s
  rw [hd]
  refine wpAny_onRaise (wpAny_mono (Q := fun fin s' => match fin with | .done f => R (.ok f) s' | .again c' => c'.quiet = true ∧ codeAny W.M A c' R s') (E := NoE) ?_ (fun _ _ x => x) (fun _ _ x => x.elim))
  have ha : (g.is_async != 0) = false := by
    have := List.all_eq_true.mp K.sync g (List.mem_of_getElem? hg)
    simpa [bne] using this
  unfold compStart
  rw [K.clauses, hg]
  simp only [Option.elim_some, ha, Bool.false_eq_true, if_false]
  refine wpAny_bind (wpAny_askSetting (wpAny_ite ?_))
  split
  · first
      | exact wpAny_bind (wpAny_pure (wpAny_pure (And.intro (K.quiet depth it).1 h0)))
      | exact wpAny_pure (And.intro (K.quiet depth it).1 h0)
  · exact wpAny_bind (wpAny_rule (wpAny_bind (wpAny_standAt (wpAny_bind (wpAny_mono h (fun it' s' h' => wpAny_pure (And.intro (K.quiet depth it').1 h')) fun _ _ x => x)))))
end
end Mine
set_option maxRecDepth 10000
set_option linter.unusedVariables false
namespace Mine
open PySem PyProof.Rows
/-- a def of the text answers so -/
noncomputable def Contract (W : Wd) (lv : Nat) (f : Str) (args : List AV) (r : AV) : Prop :=
  ∃ a o fd, W.mg f = some (.ref a) ∧ o.data = .func fd ∧ (∀ h, W.G h → h.get? a = some o) ∧
    ∀ A D s vs, Room A lv → Ok W D s → NT W D → RepL W.P D args vs → wpAny W.M A (call (.ref a) vs) (fun v s' => ∃ D', Ext W D D' s s' ∧ Rep W.P D' r v) NoE s
theorem Contract.le {W : Wd} {lv lv' : Nat} {f : Str} {args : List AV} {r : AV} (h : Contract W lv f args r) (hl : lv ≤ lv') : Contract W lv' f args r :=
  let ⟨a, o, fd, h1, h2, h3, h4⟩ := h; ⟨a, o, fd, h1, h2, h3, fun A D s vs R => h4 A D s vs (R.le hl)⟩
structure Good (W : Wd) (C : Cfg) (lv : Nat) : Prop where
  firm : W.Firm
  fns : ∀ f args r, C.Φ f args = some r → Contract W lv f args r
  glo : ∀ x d, C.Γ x = some d → ∃ v, W.mg x = some v ∧ ∀ D, Rep W.P D d v
  pct : ∀ a b d, C.Pc a b = some d → ∀ A D s va vb, Ok W D s → Rep W.P D a va → Rep W.P D b vb → Ev W A D (binaryOp .Mod va vb) d s
  bisi : (W.mg "isinstance").or (W.mb "isinstance") = some (.builtin "isinstance")
  btup : (W.mg "tuple").or (W.mb "tuple") = some (.type "tuple")
  blen : (W.mg "len").or (W.mb "len") = some (.builtin "len")
  bsum : (W.mg "sum").or (W.mb "sum") = some (.builtin "sum")
  bdivmod : (W.mg "divmod").or (W.mb "divmod") = some (.builtin "divmod")
  brange : (W.mg "range").or (W.mb "range") = some (.type "range")
  benum : (W.mg "enumerate").or (W.mb "enumerate") = some (.type "enumerate")
  brev : (W.mg "reversed").or (W.mb "reversed") = some (.type "reversed")
noncomputable def EvalOk (W : Wd) (C : Cfg) (lv n : Nat) : Prop := ∀ sc σ e d, aeval C n sc σ e = some d → ∀ {A : Around} {env : Env} {wr : List Str} {D₀ : Fz} {s₀ : Shared} {D : Fz} {s : Shared} {oa : Str → Addr},
  Room A lv → env.scope.names = sc → St W env wr D₀ s₀ σ D s oa → Ev W A D (eval e env) d s
noncomputable def TestOk (W : Wd) (C : Cfg) (lv n : Nat) : Prop := ∀ sc σ e r, atest C n sc σ e = some r → ∀ {A : Around} {env : Env} {wr : List Str} {D₀ : Fz} {s₀ : Shared} {D : Fz} {s : Shared} {oa : Str → Addr},
  Room A lv → env.scope.names = sc → St W env wr D₀ s₀ σ D s oa → wpAny W.M A (isTrue e env (eval e env)) (fun b s' => b = r ∧ ∃ D', Ext W D D' s s') NoE s
/-- an iterator that has just been made -/
noncomputable def NewIt (W : Wd) (A : Around) (D : Fz) (s : Shared) (tgt : Expr) (items : List AV) (it : Value) (s₂ : Shared) : Prop :=
  ∃ D' I ms fp TT X, it = .ref I ∧ Ext W D D' s s₂ ∧ It W A D' I ms fp items TT X ∧ X 0 s₂.heap ∧ (TT = true → isTup tgt = true) ∧
    ∀ b ∈ ms, s.heap.get? b = none ∧ D' b = none
noncomputable def IterOk (W : Wd) (C : Cfg) (lv n : Nat) : Prop := ∀ sc σ tgt e items, aiter C n sc σ tgt e = some items → ∀ {A : Around} {env : Env} {wr : List Str} {D₀ : Fz} {s₀ : Shared} {D : Fz} {s : Shared} {oa : Str → Addr},
  Room A lv → env.scope.names = sc → St W env wr D₀ s₀ σ D s oa →
  (∀ x, foldedSetIterable e env x = pure x) ∧ wpAny W.M A (eval e env) (fun x s₁ => wpAny W.M A (pyIter x) (fun it s₂ => NewIt W A D s tgt items it s₂) NoE s₁) NoE s
section
variable {W : Wd} {C : Cfg} {lv n : Nat} {A : Around} {env : Env} {wr : List Str} {D₀ D D' : Fz} {s₀ s s' : Shared} {σ σ' : Sg} {oa : Str → Addr}
theorem tests_false (ifs : List Expr) {Q : Bool → Shared → Prop} (h : Q false s) : wpAny W.M A (forIn ifs false fun c r => if r = true then do
    let ok ← isTrue c env (eval c env)
    pure (ForInStep.yield ok)
  else pure (ForInStep.yield r)) Q NoE s := by
  induction ifs with
  | nil => rw [List.forIn_nil]; exact wpAny_pure h
  | cons c r ih =>
    rw [List.forIn_cons, if_neg Bool.false_ne_true]
    exact wpAny_bind (wpAny_pure ih)
theorem tests_sound (HT : TestOk W C lv n) (R : Room A lv) {ifs : List Expr} : ∀ {r : Bool} {D : Fz} {s : Shared}, atests (atest C n env.scope.names σ) ifs = some r → St W env wr D₀ s₀ σ D s oa →
    wpAny W.M A (testsOf ifs env) (fun b s' => b = r ∧ ∃ D', Ext W D D' s s') NoE s := by
  unfold testsOf
  induction ifs with
  | nil =>
    intro r D s h S
    rw [List.forIn_nil]
    exact wpAny_pure ⟨Option.some.inj h, D, S.ok.refl⟩
  | cons c ifs ih =>
    intro r D s h S
    rw [List.forIn_cons, if_pos rfl]
    obtain ⟨t, h1, h⟩ := bind_some h
    refine wpAny_bind (wpAny_bind (wpAny_mono (HT _ _ _ _ h1 R rfl S) (fun b s₁ hb => wpAny_pure ?_) fun _ _ x => x))
    obtain ⟨rfl, D₁, x₁⟩ := hb
    cases b with
    | true =>
      refine wpAny_mono (ih h (S.step x₁)) (fun b s₂ h₂ => ?_) fun _ _ x => x
      exact ⟨h₂.1, h₂.2.elim fun D₂ x₂ => ⟨D₂, x₁.trans S.glob x₂⟩⟩
    | false => exact tests_false _ ⟨Option.some.inj h, D₁, x₁⟩
noncomputable def NoOwn (σ : Sg) : Prop := ∀ x d, σ.lookup x ≠ some (true, d)
theorem NoOwn.put {x : Str} {d : AV} (h : NoOwn σ) : NoOwn (put σ x (false, d)) := fun y d' e => by
  rw [put_lookup] at e
  split at e
  · cases e
  · exact h y d' e
theorem NoOwn.abinds {ts : List Expr} : ∀ {ds : List AV} {σ σ' : Sg}, NoOwn σ → abinds wr σ ts ds = some σ' → NoOwn σ' := by
  induction ts with
  | nil => intro ds σ σ' hn h; cases ds with
    | nil => cases h; exact hn
    | cons => cases h
  | cons t ts ih => intro ds σ σ' hn h; cases ds with
    | nil => cases h
    | cons d ds =>
      obtain ⟨σ1, h1, h⟩ := bind_some h
      obtain ⟨x, p, rfl, hx, rfl⟩ := abind_name h1
      exact ih hn.put h
theorem NoOwn.atgt {t : Expr} {d : AV} (hn : NoOwn σ) (h : atgt wr σ t d = some σ') : NoOwn σ' := by
  unfold Mine.atgt at h
  cases q : tupOf t with
  | some ts =>
    rw [q] at h
    obtain ⟨ds, _, h⟩ := bind_some h
    exact hn.abinds h
  | none =>
    rw [q] at h
    obtain ⟨x, p, rfl, hx, rfl⟩ := abind_name h
    exact hn.put
/-- the accumulator: an object, what it holds, how one more thing comes in -/
structure Acc {β : Type} (W : Wd) (A : Around) (env : Env) (wr : List Str) (ac : Addr) (emit : Sem Unit) (emitA : Sg → Option β) (H : Fz → Obj → List β → Prop) : Prop where
  cls : ∀ D o out, H D o out → o.cls ≠ .none ∧ (∀ v, o.data ≠ .cell v) ∧ NC o
  mono : ∀ D D' o out, (∀ b x, D b = some x → D' b = some x) → H D o out → H D' o out
  step : ∀ {Db sb σ D s oa out b o}, emitA σ = some b → St W env wr Db sb σ D s oa → s.heap.get? ac = some o → H D o out → D ac = none → out.length < 1000000 → sb.heap.get? ac = none →
    wpAny W.M A emit (fun _ s' => ∃ D' o', EP W [ac] D D' s s' ∧ s'.heap.get? ac = some o' ∧ H D' o' (out ++ [b])) NoE s
theorem drop_get {α : Type} {l : List α} {k : Nat} {a : α} {r : List α} (h : l.drop k = a :: r) : l[k]? = some a ∧ l.drop (k + 1) = r ∧ l[k + 1]? = r.head? := by
  have h1 : l[k]? = some a := by
    have := congrArg List.head? h
    rw [List.head?_drop] at this
    simpa using this
  have h2 : l.drop (k + 1) = r := by
    have := congrArg List.tail h
    rw [List.tail_drop] at this
    simpa using this
  exact ⟨h1, h2, by rw [← h2, List.head?_drop]⟩
theorem St.none0 (S : St W env wr D₀ s₀ σ D s oa) {b : Addr} (h : s.heap.get? b = none) : s₀.heap.get? b = none := by
  cases q : s₀.heap.get? b with
  | none => rfl
  | some o =>
    by_cases hT : b ∈ W.T
    · obtain ⟨_, _, h1, _⟩ := W.tab _ b S.glob hT
      rw [h] at h1; cases h1
    · rw [S.ext.keep b o hT q] at h; cases h
theorem St.notMut (S : St W env wr D₀ s₀ σ D s oa) (hn : NoOwn σ) {b : Addr} {o : Obj} (hl : b ≠ env.locals) (ho : s.heap.get? b = some o) (hc : ∀ v, o.data ≠ .cell v) : ¬ Mut env wr σ oa b := by
  rintro (h | ⟨x, hx, hk, hcl⟩ | ⟨x, d, hx, rfl⟩)
  · exact hl h
  · rcases S.wrt x hx with h | ⟨_, c, v, h1, ⟨o', h2, h3⟩, _⟩
    · rw [hk] at h; cases h
    · rw [hcl] at h1; cases h1
      rw [ho] at h2; cases h2
      exact hc _ h3
  · exact hn x d hx
theorem It.over {I : Addr} {ms fp : List Addr} {items : List AV} {TT : Bool} {X : Nat → Heap → Prop} {D₁ : Fz} {i : Nat} (iT : It W A D₁ I ms fp items TT X) (le : ∀ b x, D₁ b = some x → D b = some x) (fz : ∀ b x, D b = some x → s.heap.get? b = some x)
    (le' : ∀ b x, D b = some x → D' b = some x) (fz' : ∀ b x, D' b = some x → s'.heap.get? b = some x) (hms : ∀ b ∈ ms, ∀ o, s.heap.get? b = some o → s'.heap.get? b = some o) (hx : X i s.heap) : X i s'.heap := by
  refine iT.frame i s.heap s'.heap hx fun b hb o ho => ?_
  rcases iT.sub b hb with h | ⟨o', h⟩
  · exact hms b h o ho
  · have e1 := fz _ _ (le _ _ h)
    rw [ho] at e1; cases e1
    exact fz' _ _ (le' _ _ (le _ _ h))
theorem It.nextQ {I : Addr} {ms fp : List Addr} {items : List AV} {TT : Bool} {X : Nat → Heap → Prop} {D₁ : Fz} (iT : It W A D₁ I ms fp items TT X) {i : Nat} {d : AV} {target : Expr} {Q : Value → Shared → Prop} {Q0 : Shared → Prop} (h1 : items[i]? = some d) (h2 : TT = true → isTup target = true) (h3 : X i s.heap)
    (h4 : Ok W D s) (h5 : ∀ b o, D₁ b = some o → D b = some o) (h6 : ∀ b ∈ ms, D b = none) (h7 : ∀ v s' D', Rep W.P D' d v → X (i + 1) s'.heap → Poke W ms D D' s s' → Q v s') :
    wpAny W.M A (pyNext (.ref I)) (fun r s₁ => match r with
      | none => Q0 s₁
      | some v => wpAny W.M A (letOwnedTupleGo target (.ref I) v) (fun _ s₂ => Q v s₂) NoE s₁) NoE s := by
  refine wpAny_mono (iT.next i d D s target Q h1 h2 h3 h4 h5 h6 h7) (fun r s₁ hr => ?_) fun _ _ x => x
  cases r with
  | none => exact hr.elim
  | some v => exact hr
theorem turns {β : Type} (F : W.Firm) (HT : TestOk W C lv n) (R : Room A lv) {gens : List Comprehension} {e : Expr} {ac : Addr} {emit : Sem Unit} {emitA : Sg → Option β} {H : Fz → Obj → List β → Prop}
    (K : Cmp gens e (.ref ac) env emit) (Ac : Acc W A env wr ac emit emitA H) {g : Comprehension} {depth : Nat} (hg : gens[depth]? = some g) (hal : ac ≠ env.locals) {body : Sg → Option (List β)}
    (hb : ∀ σ₁ bs, body σ₁ = some bs → NoOwn σ₁ → ∀ (Db : Fz) (sb : Shared) (D : Fz) (s : Shared) (oa : Str → Addr) (out : List β) (o : Obj) (it : Value) (Rk : Result → Shared → Prop), St W env wr Db sb σ₁ D s oa → s.heap.get? ac = some o → H D o out → D ac = none → sb.heap.get? ac = none → (out ++ bs).length ≤ 1000000 →
      (∀ s' D' oa' o', St W env wr Db sb σ₁ D' s' oa' → s'.heap.get? ac = some o' → H D' o' (out ++ bs) → D' ac = none → codeAny W.M A (.compLoop e depth it (.ref ac) env) Rk s') →
      (match gens[depth + 1]? with
            | none => wpAny W.M A emit (fun _ s₅ => codeAny W.M A (.compLoop e depth it (.ref ac) env) Rk s₅) NoE s
            | some g' => wpAny W.M A (eval g'.iter env) (fun x s₅ => foldedSetIterable g'.iter env x = pure x ∧ wpAny W.M A (pyIter x) (fun it' s₆ =>
                codeAny W.M A (.compStart e (depth + 1) it' (.ref ac) env) (fun r s₇ => r = .ok .next ∧ codeAny W.M A (.compLoop e depth it (.ref ac) env) Rk s₇) s₆) NoE s₅) NoE s))
    {σ : Sg} (hn : NoOwn σ) (hf : freshT σ g.target = true) : ∀ (rem items : List AV) (i : Nat), items.drop i = rem → i ≤ items.length → ∀ (rss : List (List β)),
      omap (fun d => (atgt wr σ g.target d).bind fun σ₁ => (atests (atest C n env.scope.names σ₁) g.ifs).bind fun b => if b then body σ₁ else some []) rem = some rss →
    ∀ (Db : Fz) (sb : Shared) (D : Fz) (s : Shared) (oa : Str → Addr) (out : List β) (o : Obj) (D₁ : Fz) (I : Addr) (ms fp : List Addr) (TT : Bool) (X : Nat → Heap → Prop),
      It W A D₁ I ms fp items TT X → (TT = true → isTup g.target = true) → (∀ b x, D₁ b = some x → D b = some x) → X i s.heap → St W env wr Db sb σ D s oa →
      s.heap.get? ac = some o → H D o out → D ac = none → sb.heap.get? ac = none → (out ++ rss.flatten).length ≤ 1000000 →
      (∀ b ∈ ms, sb.heap.get? b = none ∧ D b = none ∧ b ≠ ac ∧ b ≠ env.locals) →
      codeAny W.M A (.compLoop e depth (.ref I) (.ref ac) env) (fun r s' => r = .ok .next ∧ ∃ D' oa' o', St W env wr Db sb σ D' s' oa' ∧ s'.heap.get? ac = some o' ∧ H D' o' (out ++ rss.flatten) ∧ D' ac = none) s := by
  intro rem
  induction rem with
  | nil =>
    intro items i hi hle rss h Db sb D s oa out o D₁ I ms fp TT X iT hTT le hx S hac hH hDac hbac hlen hms
    cases h
    have hi' : i = items.length := by
      have := congrArg List.length hi
      simp at this; omega
    subst hi'
    have alive := iT.alive _ _ hx
    have acms : ac ∉ ms := fun hm => (hms ac hm).2.2.1 rfl
    refine compLoop_w K hg (iT.done D s _ hx S.ok (fun b hb => (hms b hb).2.1) fun s' pk => ?_)
    refine ⟨rfl, D, oa, o, S.ep (pk.ep F S.glob0 S.glob S.ext.keep (fun b hb => (hms b hb).1) (alive_nc alive)) (fun b hb => (hms b hb).1) (fun b hb => (hms b hb).2.2.2) (fun b hb v hv => ?_) (fun b hb y d hy => (hn y d hy).elim), pk.keep ac o acms hac, by simpa using hH, hDac⟩
    obtain ⟨x, h1, h2, h3⟩ := alive b hb
    obtain ⟨x', h4, h5⟩ := hv
    rw [h1] at h4; cases h4
    exact h3.1 _ h5
  | cons d rem ih =>
    intro items i hi hle rss h Db sb D s oa out o D₁ I ms fp TT X iT hTT le hx S hac hH hDac hbac hlen hms
    obtain ⟨hid, hi1, _⟩ := drop_get hi
    have hlt : i < items.length := (List.getElem?_eq_some_iff.mp hid).1
    obtain ⟨bs, rss', hbs, hrss, rfl⟩ := omap_cons h
    have alive := iT.alive _ _ hx
    have acms : ac ∉ ms := fun hm => (hms ac hm).2.2.1 rfl
    refine compLoop_w K hg (iT.nextQ hid hTT hx S.ok le (fun b hb => (hms b hb).2.1) fun v s₂ D₂ rv hx₂ pk => ?_)
    have S₂ : St W env wr Db sb σ D₂ s₂ oa := S.ep (pk.ep F S.glob0 S.glob S.ext.keep (fun b hb => (hms b hb).1) (alive_nc alive)) (fun b hb => (hms b hb).1) (fun b hb => (hms b hb).2.2.2) (fun b hb v hv => by
      obtain ⟨x, h1, h2, h3⟩ := alive b hb
      obtain ⟨x', h4, h5⟩ := hv
      rw [h1] at h4; cases h4
      exact h3.1 _ h5) (fun b hb y d hy => (hn y d hy).elim)
    have hac₂ : s₂.heap.get? ac = some o := pk.keep ac o acms hac
    have hH₂ := Ac.mono _ _ _ _ pk.le hH
    have pnew : ∀ {b : Addr} {x : Obj}, D b = none → s.heap.get? b = some x → D₂ b = none := fun {b x} h1 h2 => by
      cases q : D₂ b with
      | none => rfl
      | some y =>
        rcases pk.new _ _ q with h | h
        · rw [h1] at h; cases h
        · rw [h2] at h; cases h
    have hDac₂ : D₂ ac = none := pnew hDac hac
    have hDms₂ : ∀ b ∈ ms, D₂ b = none := fun b hb => let ⟨x, h1, _⟩ := alive b hb; pnew (hms b hb).2.1 h1
    have alive₂ := iT.alive _ _ hx₂
    obtain ⟨σ₁, hσ₁, hbs⟩ := bind_some hbs
    obtain ⟨tb, ht, hbs⟩ := bind_some hbs
    have acc := Ac.cls _ _ _ hH
    have acT : ac ∉ W.T := W.notT S.glob hac acc.1
    have hle₂ : ∀ b x, D₁ b = some x → D₂ b = some x := fun b x e => pk.le _ _ (le _ _ e)
    refine tgt_keep F R S₂ hσ₁ rv fun s₃ oa₃ S₃ keep₃ => ?_
    have msT : ∀ b ∈ ms, b ∉ W.T := fun b hb => let ⟨x, h1, h2, _⟩ := alive b hb; W.notT S.glob h1 h2
    have kms₃ : ∀ b ∈ ms, ∀ x, s₂.heap.get? b = some x → s₃.heap.get? b = some x := fun b hb x e => by
      obtain ⟨y, h1, h2, h3⟩ := alive₂ b hb
      rw [e] at h1; cases h1
      exact keep₃ b x (msT b hb) e (S₂.notMut hn (hms b hb).2.2.2 e h3.1)
    have hac₃ : s₃.heap.get? ac = some o := keep₃ ac o acT hac₂ (S₂.notMut hn hal hac₂ acc.2.1)
    have hx₃ : X (i + 1) s₃.heap := iT.over hle₂ S₂.fz (fun _ _ e => e) S₃.fz kms₃ hx₂
    cases tb with
    | false =>
      cases hbs
      refine wpAny_mono (tests_sound HT R ht S₃) (fun b s₄ hb₄ => ?_) fun _ _ x => x
      obtain ⟨rfl, D₄, x₄⟩ := hb₄
      have S₄ := S₃.step x₄
      have alive₃ := iT.alive _ _ hx₃
      refine codeAny_mono (ih items (i + 1) hi1 hlt rss' hrss Db sb D₄ s₄ oa₃ out o D₁ I ms fp TT X iT hTT (fun b x e => x₄.le _ _ (hle₂ _ _ e)) (iT.over hle₂ S₃.fz x₄.le x₄.fz (fun b hb x e => x₄.keep b x (msT b hb) e) hx₃)
        (S₄.weaken fun y u e => ?_) (x₄.keep _ _ acT hac₃) (Ac.mono _ _ _ _ x₄.le hH₂) (x₄.none_of hDac₂ hac₃) hbac (by simpa using hlen) fun b hb => ⟨(hms b hb).1, ?_, (hms b hb).2.2⟩) fun r s' h' => ?_
      · rw [atgt_other hσ₁]; exact e
        intro hm
        have := List.all_eq_true.mp hf y hm
        rw [e] at this; cases this
      · obtain ⟨x, h1, _⟩ := alive₃ b hb
        exact x₄.none_of (hDms₂ b hb) h1
      · simpa using h'
    | true =>
      refine wpAny_mono (tests_sound HT R ht S₃) (fun b s₄ hb₄ => ?_) fun _ _ x => x
      obtain ⟨rfl, D₄, x₄⟩ := hb₄
      have S₄ := S₃.step x₄
      have alive₃ := iT.alive _ _ hx₃
      have hx₄ : X (i + 1) s₄.heap := iT.over hle₂ S₃.fz x₄.le x₄.fz (fun b hb x e => x₄.keep b x (msT b hb) e) hx₃
      have alive₄ := iT.alive _ _ hx₄
      have hac₄ := x₄.keep _ _ acT hac₃
      have hDac₄ := x₄.none_of hDac₂ hac₃
      have hn₁ := hn.atgt hσ₁
      obtain ⟨sc, Sc, k1, k2, k3, _, back⟩ := S₄.rebase F [ac] (fun b hb => by rw [List.mem_singleton.mp hb]; exact hbac) (fun b hb o' e => by rw [List.mem_singleton.mp hb, hac₄] at e; cases e; exact acc.2.2)
      have kept : ∀ b ∈ ms, ∀ x, s₄.heap.get? b = some x → sc.heap.get? b = some x := fun b hb x e => by
        obtain ⟨y, h1, h2, h3⟩ := alive₄ b hb
        rw [e] at h1; cases h1
        exact k1 b x e (S₄.notMut hn₁ (hms b hb).2.2.2 e h3.1) (fun h => (hms b hb).2.2.1 (List.mem_singleton.mp h))
      refine hb σ₁ bs hbs hn₁ D₄ sc D₄ s₄ oa₃ out o (.ref I) _ Sc hac₄ (Ac.mono _ _ _ _ x₄.le hH₂) hDac₄ (k3 ac (List.mem_singleton.mpr rfl)) (by simp at hlen ⊢; omega) fun s₅ D₅ oa₅ o₅ S₅ hac₅ hH₅ hDac₅ => ?_
      have le₄ : ∀ b x, D₁ b = some x → D₄ b = some x := fun b x e => x₄.le _ _ (hle₂ _ _ e)
      refine codeAny_mono (ih items (i + 1) hi1 hlt rss' hrss Db sb D₅ s₅ oa₅ (out ++ bs) o₅ D₁ I ms fp TT X iT hTT (fun b x e => S₅.ext.le _ _ (le₄ _ _ e)) (iT.over le₄ S₄.fz S₅.ext.le S₅.fz (fun b hb x e => S₅.ext.keep b x (msT b hb) (kept b hb x e)) hx₄)
        ((back S₅).weaken fun y u e => ?_) hac₅ hH₅ hDac₅ hbac (by simpa [List.append_assoc, Nat.add_assoc] using hlen) fun b hb => ⟨(hms b hb).1, ?_, (hms b hb).2.2⟩) fun r s' h' => ?_
      · rw [atgt_other hσ₁]; exact e
        intro hm
        have := List.all_eq_true.mp hf y hm
        rw [e] at this; cases this
      · obtain ⟨x, h1, _⟩ := alive₄ b hb
        obtain ⟨y, h2, _⟩ := alive₃ b hb
        exact S₅.ext.none_of (x₄.none_of (hDms₂ b hb) h2) (kept b hb x h1)
      · simpa [List.append_assoc] using h'
theorem comp_loop {β : Type} (F : W.Firm) (HT : TestOk W C lv n) (HI : IterOk W C lv n) (R : Room A lv) {gens : List Comprehension} {e : Expr} {ac : Addr} {emit : Sem Unit} {emitA : Sg → Option β} {H : Fz → Obj → List β → Prop}
    (K : Cmp gens e (.ref ac) env emit) (Ac : Acc W A env wr ac emit emitA H) (hal : ac ≠ env.locals) :
    ∀ (gs : List Comprehension) (g : Comprehension) (depth : Nat), gens.drop depth = g :: gs → ∀ (σ : Sg), NoOwn σ →
    ∀ (items : List AV) (rs : List β), agen (atest C n) (aiter C n) env.scope.names wr emitA (g :: gs) items σ = some rs →
    ∀ (Db : Fz) (sb : Shared) (D : Fz) (s : Shared) (oa : Str → Addr) (out : List β) (o : Obj) (D₁ : Fz) (I : Addr) (ms fp : List Addr) (TT : Bool) (X : Nat → Heap → Prop),
      It W A D₁ I ms fp items TT X → (TT = true → isTup g.target = true) → (∀ b x, D₁ b = some x → D b = some x) → X 0 s.heap → St W env wr Db sb σ D s oa →
      s.heap.get? ac = some o → H D o out → D ac = none → sb.heap.get? ac = none → (out ++ rs).length ≤ 1000000 →
      (∀ b ∈ ms, sb.heap.get? b = none ∧ D b = none ∧ b ≠ ac ∧ b ≠ env.locals) →
      codeAny W.M A (.compLoop e depth (.ref I) (.ref ac) env) (fun r s' => r = .ok .next ∧ ∃ D' oa' o', St W env wr Db sb σ D' s' oa' ∧ s'.heap.get? ac = some o' ∧ H D' o' (out ++ rs) ∧ D' ac = none) s := by
  intro gs
  induction gs with
  | nil =>
    intro g depth hd σ hn items rs h Db sb D s oa out o D₁ I ms fp TT X iT hTT le hx S hac hH hDac hbac hlen hms
    obtain ⟨hg, _, hg1⟩ := drop_get hd
    obtain ⟨hf, h⟩ := ite_some h
    obtain ⟨rss, hr, rfl⟩ := map_some h
    refine turns F HT R K Ac hg hal (body := fun σ₁ => (emitA σ₁).map fun b => [b]) ?_ hn hf items items 0 rfl (Nat.zero_le _) rss hr Db sb D s oa out o D₁ I ms fp TT X iT hTT le hx S hac hH hDac hbac hlen hms
    intro σ₁ bs hbs hn₁ Db sb D s oa out o it Rk S hac hH hDac hbac hlen k
    rw [hg1]
    obtain ⟨b, hb, rfl⟩ := map_some hbs
    refine wpAny_mono (Ac.step hb S hac hH hDac (by simp at hlen; omega) hbac) (fun _ s' h' => ?_) fun _ _ x => x
    obtain ⟨D', o', ep, hac', hH'⟩ := h'
    have acc := Ac.cls _ _ _ hH
    refine k s' D' oa o' (S.ep ep (fun b hb => ?_) (fun b hb => ?_) (fun b hb v hv => ?_) fun b hb y d hy => (hn₁ y d hy).elim) hac' hH' ?_
    · rw [List.mem_singleton.mp hb]; exact hbac
    · rw [List.mem_singleton.mp hb]; exact hal
    · rw [List.mem_singleton.mp hb] at hv
      obtain ⟨x, h4, h5⟩ := hv
      rw [hac] at h4; cases h4
      exact acc.2.1 _ h5
    · cases q : D' ac with
      | none => rfl
      | some y =>
        rcases ep.new _ _ q with h | h
        · rw [hDac] at h; cases h
        · rw [hac] at h; cases h
  | cons g' gs' ihg =>
    intro g depth hd σ hn items rs h Db sb D s oa out o D₁ I ms fp TT X iT hTT le hx S hac hH hDac hbac hlen hms
    obtain ⟨hg, hd1, hg1⟩ := drop_get hd
    obtain ⟨hf, h⟩ := ite_some h
    obtain ⟨rss, hr, rfl⟩ := map_some h
    refine turns F HT R K Ac hg hal (body := fun σ₁ => (aiter C n env.scope.names σ₁ g'.target g'.iter).bind fun items' => agen (atest C n) (aiter C n) env.scope.names wr emitA (g' :: gs') items' σ₁) ?_ hn hf items items 0 rfl (Nat.zero_le _) rss hr Db sb D s oa out o D₁ I ms fp TT X iT hTT le hx S hac hH hDac hbac hlen hms
    intro σ₁ bs hbs hn₁ Db sb D s oa out o it Rk S hac hH hDac hbac hlen k
    rw [hg1]
    dsimp only [List.head?_cons]
    obtain ⟨items', hit, hbs⟩ := bind_some hbs
    have hI := HI _ _ _ _ _ hit R rfl S
    refine wpAny_mono hI.2 (fun x s₁ h₁ => ⟨hI.1 x, wpAny_mono h₁ (fun it' s₂ h₂ => ?_) fun _ _ x => x⟩) fun _ _ x => x
    obtain ⟨D', I', ms', fp', TT', X', rfl, x, iT', hx', hTT', hms'⟩ := h₂
    have S₂ := S.step x
    have acc := Ac.cls _ _ _ hH
    have acT : ac ∉ W.T := W.notT S.glob hac acc.1
    have main : codeAny W.M A (.compLoop e (depth + 1) (.ref I') (.ref ac) env) (fun r s₇ => r = .ok .next ∧ codeAny W.M A (.compLoop e depth it (.ref ac) env) Rk s₇) s₂ := by
      refine codeAny_mono (ihg g' (depth + 1) hd1 σ₁ hn₁ items' bs hbs Db sb D' s₂ oa out o D' I' ms' fp' TT' X' iT' hTT' (fun _ _ e => e) hx' S₂ (x.keep _ _ acT hac) (Ac.mono _ _ _ _ x.le hH) (x.none_of hDac hac) hbac hlen fun b hb => ?_) fun r s' h' => ?_
      · obtain ⟨h1, h2⟩ := hms' b hb
        refine ⟨S.none0 h1, h2, ?_, ?_⟩
        · rintro rfl; rw [hac] at h1; cases h1
        · rintro rfl
          obtain ⟨ol, hol⟩ := S.locAt
          rw [hol] at h1; cases h1
      · obtain ⟨h1, D₃, oa₃, o₃, S₃, hac₃, hH₃, hD₃⟩ := h'
        exact ⟨h1, k s' D₃ oa₃ o₃ S₃ hac₃ hH₃ hD₃⟩
    exact compStart_w K (g := g') (by rw [hg1]; rfl) main (iT'.self 0 s₂ _ hx' main)
end
end Mine
set_option maxRecDepth 10000
set_option linter.unusedVariables false
namespace Mine
open PySem PyProof.Rows
noncomputable def closL (env : Env) : NS → List (Str × Addr) → List (Str × Addr)
  | [], acc => acc
  | (x, k) :: r, acc => if k == .free then closL env r ((x, (env.cells.lookup x).getD 0) :: acc) else closL env r acc
theorem closL_lookup (env : Env) : ∀ (names : NS) (acc : List (Str × Addr)) (x : Str), (closL env names acc).lookup x = if (x, NameKind.free) ∈ names then some ((env.cells.lookup x).getD 0) else acc.lookup x
  | [], acc, x => by simp [closL]
  | (y, k) :: r, acc, x => by
    unfold closL
    split
    · rename_i hk
      have hk' : k = .free := by simpa using hk
      subst hk'
      rw [closL_lookup env r]
      by_cases hx : (x, NameKind.free) ∈ r
      · rw [if_pos hx, if_pos (List.mem_cons_of_mem _ hx)]
      · rw [if_neg hx, List.lookup_cons]
        by_cases hxy : x = y
        · subst hxy
          simp
        · have : (x == y) = false := by simpa using hxy
          rw [if_neg (by simp [hxy, hx]), this]
    · rename_i hk
      rw [closL_lookup env r]
      have hne : (x, NameKind.free) ≠ (y, k) := fun e => by cases e; exact hk rfl
      by_cases hx : (x, NameKind.free) ∈ r
      · rw [if_pos hx, if_pos (List.mem_cons_of_mem _ hx)]
      · rw [if_neg hx, if_neg (by simp only [List.mem_cons, not_or]; exact ⟨hne, hx⟩)]
theorem closure_go {env : Env} (f : Str × NameKind → List (Str × Addr) → Sem (ForInStep (List (Str × Addr))))
    (hf : ∀ name kind cs, f (name, kind) cs = if kind == .free then (do let c ← cellOf env name; pure (.yield ((name, c) :: cs))) else pure (.yield cs)) :
    ∀ (names : NS) (acc : List (Str × Addr)), (∀ p ∈ names, p.2 = .free → ∃ c, env.cells.lookup p.1 = some c) → (forIn names acc f : Sem (List (Str × Addr))) = pure (closL env names acc)
  | [], acc, _ => by rw [List.forIn_nil]; rfl
  | (x, k) :: r, acc, h => by
    rw [List.forIn_cons, hf]
    unfold closL
    have hr : ∀ p ∈ r, p.2 = .free → ∃ c, env.cells.lookup p.1 = some c := fun p hp => h p (List.mem_cons_of_mem _ hp)
    split
    · rename_i hk
      have hk' : k = .free := by simpa using hk
      obtain ⟨c, hc⟩ := h (x, k) List.mem_cons_self hk'
      have : cellOf env x = pure c := by
        unfold cellOf
        have hc' : env.cells.lookup x = some c := hc
        rw [hc']
      rw [this, hc]
      exact closure_go f hf r _ hr
    · exact closure_go f hf r _ hr
theorem closure_eq {env : Env} {scope : Scope} (h : ∀ p ∈ scope.names, p.2 = .free → ∃ c, env.cells.lookup p.1 = some c) : closureFor scope env = pure (closL env scope.names []) := by
  have := closure_go (env := env) (fun x cs => match x with | (name, kind) => if kind == .free then (do let c ← cellOf env name; pure (.yield ((name, c) :: cs))) else pure (.yield cs)) (fun _ _ _ => rfl) scope.names [] h
  simp only [closureFor]
  first
    | (rw [show (forIn scope.names [] _ : Sem (List (Str × Addr))) = _ from this]; rfl)
    | exact this
theorem cellsFrom_app : ∀ (names : NS) (k : Nat) (acc : List (Str × Addr)), cellsFrom k names acc = cellsFrom k names [] ++ acc
  | [], k, acc => rfl
  | (x, kd) :: r, k, acc => by
    unfold cellsFrom
    split
    · rw [cellsFrom_app r (k + 1) ((x, k) :: acc), cellsFrom_app r (k + 1) [(x, k)], List.append_assoc]; rfl
    · exact cellsFrom_app r k acc
theorem cellsFrom_mem : ∀ (names : NS) (k : Nat) (x : Str) (c : Addr), (x, c) ∈ cellsFrom k names [] → (x, NameKind.cell) ∈ names
  | [], k, x, c, h => by cases h
  | (y, kd) :: r, k, x, c, h => by
    unfold cellsFrom at h
    split at h
    · rename_i hk
      rw [cellsFrom_app] at h
      rcases List.mem_append.mp h with h | h
      · exact List.mem_cons_of_mem _ (cellsFrom_mem r _ x c h)
      · have := List.mem_singleton.mp h
        cases this
        have hk' : kd = .cell := by simpa using hk
        rw [hk']; exact List.mem_cons_self
    · exact List.mem_cons_of_mem _ (cellsFrom_mem r _ x c h)
theorem cellsFrom_has : ∀ (names : NS) (k : Nat) (x : Str), (x, NameKind.cell) ∈ names → ∃ c, (x, c) ∈ cellsFrom k names []
  | [], k, x, h => by cases h
  | (y, kd) :: r, k, x, h => by
    unfold cellsFrom
    rcases List.mem_cons.mp h with h | h
    · cases h
      rw [if_pos (by decide : (NameKind.cell == NameKind.cell) = true), cellsFrom_app]
      exact ⟨k, List.mem_append_right _ List.mem_cons_self⟩
    · split
      · rw [cellsFrom_app]
        obtain ⟨c, hc⟩ := cellsFrom_has r (k + 1) x h
        exact ⟨c, List.mem_append_left _ hc⟩
      · exact cellsFrom_has r k x h
theorem lookup_some_of_mem {β : Type} : ∀ {l : List (Str × β)} {x : Str} {b : β}, (x, b) ∈ l → ∃ b', l.lookup x = some b'
  | (y, c) :: r, x, b, h => by
    rw [List.lookup_cons]
    cases q : x == y with
    | true => exact ⟨c, rfl⟩
    | false =>
      rcases List.mem_cons.mp h with h | h
      · cases h; simp at q
      · exact lookup_some_of_mem h
theorem lookup_of_mem {β : Type} : ∀ {l : List (Str × β)} {x : Str} {b : β}, (l.map (·.1)).Nodup → (x, b) ∈ l → l.lookup x = some b
  | (y, c) :: r, x, b, hn, h => by
    rw [List.map_cons, List.nodup_cons] at hn
    rw [List.lookup_cons]
    rcases List.mem_cons.mp h with h | h
    · cases h; simp
    · have : x ≠ y := by
        rintro rfl
        rename_i hm
        exact hn.1 (List.mem_map.mpr ⟨(x, b), hm, rfl⟩)
      have hq : (x == y) = false := by simpa using this
      rw [hq]
      exact lookup_of_mem hn.2 h
theorem lookup_append {β : Type} : ∀ (l m : List (Str × β)) (x : Str), (l ++ m).lookup x = (l.lookup x).or (m.lookup x)
  | [], m, x => rfl
  | (y, c) :: r, m, x => by
    rw [List.cons_append, List.lookup_cons, List.lookup_cons]
    cases x == y with
    | true => rfl
    | false => exact lookup_append r m x
theorem relNames_eq {env : Env} {scope : Scope} (hk : env.scope.kind = .function) : (relabel scope env).names = relNames scope env.scope.names := by
  unfold relabel relNames
  refine List.map_congr_left fun p _ => ?_
  obtain ⟨n, k⟩ := p
  simp only [hk, Env.kindOf, show (ScopeKind.function == ScopeKind.function) = true from rfl, Bool.and_true]
theorem rel_lookup (outer : NS) (x : Str) : ∀ (names : NS), (names.map fun p => if (p.2 == .free && outer.lookup p.1 == some .cell) then (p.1, NameKind.cell) else p).lookup x =
    (names.lookup x).map fun k => if (k == .free && outer.lookup x == some .cell) then NameKind.cell else k
  | [] => rfl
  | (y, k) :: r => by
    have ih := rel_lookup outer x r
    rw [List.map_cons]
    have e : (if ((y, k).2 == NameKind.free && outer.lookup (y, k).1 == some .cell) = true then ((y, k).1, NameKind.cell) else (y, k)) = (y, if (k == .free && outer.lookup y == some .cell) = true then NameKind.cell else k) := by
      dsimp only
      split <;> rfl
    rw [e, List.lookup_cons, List.lookup_cons, ih]
    cases hq : x == y with
    | true =>
      have : x = y := by simpa using hq
      subst this
      rfl
    | false => rfl
theorem filter_lookup {β : Type} (f : Str → Bool) (x : Str) : ∀ (l : List (Str × β)), (l.filter fun p => f p.1).lookup x = if f x = true then l.lookup x else none
  | [] => by simp
  | (y, b) :: r => by
    rw [List.filter_cons]
    have ih := filter_lookup f x r
    split
    · rename_i hf
      rw [List.lookup_cons, List.lookup_cons]
      cases q : x == y with
      | true =>
        have : x = y := by simpa using q
        subst this
        dsimp only at hf ⊢
        rw [if_pos hf]
      | false => exact ih
    · rename_i hf
      rw [ih, List.lookup_cons]
      cases q : x == y with
      | true =>
        have : x = y := by simpa using q
        subst this
        dsimp only at hf ⊢
        rw [if_neg hf, if_neg hf]
      | false => rfl
section
variable {W : Wd} {C : Cfg} {lv n : Nat} {A : Around} {env : Env} {wr : List Str} {D₀ D D' : Fz} {s₀ s s' : Shared} {σ σ' : Sg} {oa : Str → Addr}
theorem compSg_lookup {scope : Scope} (x : Str) {u : Bool × AV} (h : (compSg scope σ).lookup x = some u) : scope.names.lookup x = some .free ∧ ∃ d, u = (false, d) ∧ σ.lookup x = some (false, d) := by
  unfold compSg at h
  rw [filter_lookup (fun y => scope.names.lookup y == some .free && froz σ y)] at h
  split at h
  · rename_i hc
    rw [Bool.and_eq_true] at hc
    refine ⟨by simpa using hc.1, ?_⟩
    have h2 := hc.2
    unfold froz at h2
    rw [h] at h2
    obtain ⟨b, d⟩ := u
    cases b with
    | true => cases h2
    | false => exact ⟨d, rfl, h⟩
  · cases h
theorem froz_some {x : Str} (h : froz σ x = true) : ∃ d, σ.lookup x = some (false, d) := by
  unfold froz at h
  split at h
  · rename_i d hd; exact ⟨d, hd⟩
  · cases h
/-- the state in which a comprehension's clauses run -/
theorem comp_st (S : St W env wr D₀ s₀ σ D s oa) {scope : Scope} (hok : compOk scope env.scope.names σ = true) (x : Ext W D D' s s') {o0 : Obj} {s₅ : Shared} {cenv : Env}
    (h5 : s₅ = { s' with heap := pushCells ((s'.heap.push o0).push { cls := .type "dict", data := .dict #[] }) scope.names })
    (he : cenv = { newEnv scope (s'.heap.objs.size + 1) env.globals (cellsFrom (s'.heap.objs.size + 2) scope.names (closL env scope.names [])) env.qual none .none (some env) builtinsNs with scope := relabel scope env }) :
    St W cenv (ownNames scope) D s (compSg scope σ) D' s₅ (fun _ => 0) := by
  subst he
  unfold compOk at hok
  simp only [Bool.and_eq_true, decide_eq_true_eq] at hok
  obtain ⟨⟨hkind, hfree⟩, hnd⟩ := hok
  have hkind' : scope.kind = .function := by simpa using hkind
  have keep : ∀ b o, s'.heap.get? b = some o → s₅.heap.get? b = some o := fun b o e => by
    subst h5
    exact pushCells_keeps _ _ _ _ (Heap.get?_push_of_some _ (Heap.get?_push_of_some _ e))
  have ok' : Ok W D' s' := .ext x
  have x5 : Ext W D' D' s' s₅ := .of_keeps ok'.glob ok'.fz (by subst h5; rfl) (by subst h5; rfl) (by subst h5; rfl) keep
  have sz : (s'.heap.push o0).objs.size = s'.heap.objs.size + 1 := Heap.size_push ..
  have sz2 : ((s'.heap.push o0).push { cls := .type "dict", data := .dict #[] }).objs.size = s'.heap.objs.size + 2 := by rw [Heap.size_push, sz]
  have big : ∀ b, s'.heap.objs.size ≤ b → s'.heap.get? b = none := fun b hb => by
    cases q : s'.heap.get? b with
    | none => rfl
    | some o => exact absurd (Heap.lt_size q) (Nat.not_lt.mpr hb)
  have none0 : ∀ b, s'.heap.get? b = none → s.heap.get? b = none := fun b hb => by
    have := (S.step x).ext
    cases q : s.heap.get? b with
    | none => rfl
    | some o =>
      by_cases hT : b ∈ W.T
      · obtain ⟨_, _, h1, _⟩ := W.tab _ b ok'.glob hT
        rw [hb] at h1; cases h1
      · rw [x.keep b o hT q] at hb; cases hb
  have ok := cellsFrom_ok scope.names ((s'.heap.push o0).push { cls := .type "dict", data := .dict #[] }) (s'.heap.objs.size + 2) [] ⟨fun _ _ hm => (nomatch hm), List.Pairwise.nil⟩ (by rw [sz2]; exact Nat.le_refl _)
  rw [sz2] at ok
  have hcells : ∀ y, (cellsFrom (s'.heap.objs.size + 2) scope.names (closL env scope.names [])).lookup y = ((cellsFrom (s'.heap.objs.size + 2) scope.names []).lookup y).or ((closL env scope.names []).lookup y) := fun y => by
    rw [cellsFrom_app, lookup_append]
  have hkof : ∀ y, (relabel scope env).names.lookup y = (scope.names.lookup y).map fun k => if (k == .free && env.scope.names.lookup y == some .cell) then NameKind.cell else k := fun y => by
    rw [relNames_eq S.kind]; exact rel_lookup _ _ _
  -- the cell of a free name
  have hfc : ∀ y, (y, NameKind.free) ∈ scope.names → ∃ c v, env.cells.lookup y = some c ∧ s.heap.IsCell c v := fun y hy => by
    have := List.all_eq_true.mp hfree _ hy
    simp only [beq_self_eq_true, Bool.not_true, Bool.false_or, Bool.and_eq_true, Bool.or_eq_true, beq_iff_eq] at this
    obtain ⟨hk, hfz⟩ := this
    obtain ⟨d, hd⟩ := froz_some hfz
    obtain ⟨v, hv, _⟩ := S.fro y d hd
    rcases hv with ⟨h1, _⟩ | ⟨_, c, h2, h3⟩
    · rcases hk with h | h <;> (rw [show env.kindOf y = env.scope.names.lookup y from rfl, h] at h1; cases h1)
    · exact ⟨c, _, h2, h3⟩
  refine ⟨x.trans S.glob x5, S.glob, S.nt, hkind', S.glo, S.bui, ?_, ?_, none0 _ (big _ (Nat.le_succ _)), ?_, ?_, fun y d e => ?_, fun y z d d' e => ?_⟩
  · subst h5
    refine ⟨fun _ => none, ?_⟩
    have : ((s'.heap.push o0).push { cls := .type "dict", data := .dict #[] }).Ns (s'.heap.push o0).objs.size (fun _ => none) := Heap.Ns.new ..
    rw [sz] at this
    exact this.keeps (pushCells_keeps _ _)
  · exact ok'.none_of (big _ (Nat.le_succ _))
  · intro y hy
    obtain ⟨⟨y', k⟩, hm, rfl⟩ := List.mem_map.mp hy
    obtain ⟨hm, hk⟩ := List.mem_filter.mp hm
    have hl := lookup_of_mem hnd hm
    have hkc := hkof y'
    rw [hl] at hkc
    simp only [Bool.or_eq_true, beq_iff_eq] at hk
    rcases hk with rfl | rfl
    · exact .inl hkc
    · refine .inr ⟨hkc, ?_⟩
      obtain ⟨c0, hc0⟩ := cellsFrom_has scope.names (s'.heap.objs.size + 2) y' hm
      obtain ⟨c, hc⟩ := lookup_some_of_mem hc0
      obtain ⟨hcell, hlo⟩ := ok.empty y' c (mem_of_lookup hc)
      have hcc : (cellsFrom (s'.heap.objs.size + 2) scope.names (closL env scope.names [])).lookup y' = some c := by rw [hcells, hc]; rfl
      refine ⟨c, none, hcc, by subst h5; exact hcell, ok'.none_of (big _ (by omega)), none0 _ (big _ (by omega)), fun z c' hz hc' => ?_⟩
      rintro rfl
      have hc'' : (cellsFrom (s'.heap.objs.size + 2) scope.names (closL env scope.names [])).lookup z = some c' := hc'
      rw [hcells] at hc''
      cases q : (cellsFrom (s'.heap.objs.size + 2) scope.names []).lookup z with
      | some c2 =>
        rw [q] at hc''
        cases hc''
        exact hz (name_of_addr ok.apart (mem_of_lookup q) (mem_of_lookup hc))
      | none =>
        rw [q] at hc''
        have hc3 : (closL env scope.names []).lookup z = some c' := hc''
        rw [closL_lookup] at hc3
        split at hc3
        · rename_i hzf
          obtain ⟨c2, v, h1, h2⟩ := hfc z hzf
          rw [h1] at hc3
          cases hc3
          obtain ⟨oc, hoc, _⟩ := h2
          have : c2 ∉ W.T := by
            intro hT
            obtain ⟨o', vs, h1', h2', h3'⟩ := W.tab _ c2 S.glob hT
            rename_i hdc
            rw [hoc] at h1'; cases h1'
            rw [hdc] at h3'; cases h3'
          have hlt := Heap.lt_size (x.keep _ _ this hoc)
          have hlo' : s'.heap.objs.size + 2 ≤ c2 := hlo
          exact absurd hlt (Nat.not_lt.mpr (Nat.le_trans (Nat.le_add_right _ 2) hlo'))
        · cases hc3
  · intro y d e
    obtain ⟨hl, d', hd', hσ⟩ := compSg_lookup y e
    cases hd'
    obtain ⟨v, hv, rv⟩ := S.fro y d hσ
    have hm : (y, NameKind.free) ∈ scope.names := mem_of_lookup hl
    have hall := List.all_eq_true.mp hfree _ hm
    simp only [beq_self_eq_true, Bool.not_true, Bool.false_or, Bool.and_eq_true, Bool.or_eq_true, beq_iff_eq] at hall
    have hv' := ((hv.keep S.glob S.locT x.keep).keep ok'.glob S.locT x5.keep)
    refine ⟨v, ?_, rv.mono x.le⟩
    rcases hv' with ⟨h1, _⟩ | ⟨_, c, h2, h3⟩
    · rcases hall.1 with h | h <;> (rw [show env.kindOf y = env.scope.names.lookup y from rfl, h] at h1; cases h1)
    · refine .inr ⟨?_, c, ?_, h3⟩
      · have := hkof y
        rw [hl] at this
        by_cases hc : env.scope.names.lookup y == some .cell
        · left
          show (relabel scope env).names.lookup y = some .cell
          simpa [hc] using this
        · right
          show (relabel scope env).names.lookup y = some .free
          simpa [hc] using this
      · show (cellsFrom (s'.heap.objs.size + 2) scope.names (closL env scope.names [])).lookup y = some c
        rw [hcells, closL_lookup, if_pos hm, h2]
        cases q : (cellsFrom (s'.heap.objs.size + 2) scope.names []).lookup y with
        | none => rfl
        | some c2 =>
          have := lookup_of_mem hnd (cellsFrom_mem _ _ _ _ (mem_of_lookup q))
          rw [hl] at this; cases this
  · obtain ⟨_, d', hd', _⟩ := compSg_lookup y e
    cases hd'
  · obtain ⟨_, d', hd', _⟩ := compSg_lookup y e
    cases hd'
end
end Mine
set_option maxRecDepth 10000
set_option linter.unusedVariables false
namespace Mine
open PySem PyProof.Rows
section
variable {W : Wd} {C : Cfg} {lv n : Nat} {A : Around} {env : Env} {wr : List Str} {D₀ D D' : Fz} {s₀ s s' : Shared} {σ σ' : Sg} {oa : Str → Addr}
theorem EP.of_same (F : W.Firm) {a : Addr} {h' : Heap} {tk : Nat} (ok : Ok W D s) (hg0 : W.G s₀.heap) (hk : ∀ b o, b ∉ W.T → s₀.heap.get? b = some o → s.heap.get? b = some o) (h0 : s₀.heap.get? a = none) (hD : D a = none) (hn : ∀ o, s.heap.get? a = some o → NC o) (hs : Heap.SameBut a s.heap h') :
    EP W [a] D D s { s with heap := h', toks := tk } :=
  ⟨rfl, rfl, rfl, fun b o _ hb e => (hs.2 b fun x => hb (List.mem_singleton.mpr x)).trans e, fun _ _ e => e,
    fun b o e => (hs.2 b (by rintro rfl; rw [hD] at e; cases e)).trans (ok.fz b o e), fun _ _ e => .inl e, F.poke hg0 ok.glob hk h0 hn hs⟩
theorem append_w {l : Addr} {vs : List Value} {k : Nat} {x : Value} {Q : Value → Shared → Prop} {E : Value → Shared → Prop} (hl : s.heap.get? l = some (lObj vs k)) (hsz : vs.length ≤ 1000000)
    (hQ : ∀ h' k', h'.get? l = some (lObj (vs ++ [x]) k') → Heap.SameBut l s.heap h' → Q .none { s with heap := h' }) : wpAny W.M A (call (.builtin "list.append") [.ref l, x]) Q E s := by
  refine call_meets F.slot_list_append ⟨_, hl, rfl⟩ F.entry_list_append (F.args_list_append_2 _ _) (AutoListH.list_append_list_val_0 l vs.toArray k x (by rw [sizeLine_eq]; simp; omega)) ⟨hl, ?_⟩
  obtain ⟨k', hk'⟩ : ∃ k', (Obj.mapSeq (fun y => y.push x) (lObj vs k)) = lObj (vs ++ [x]) k' := by
    obtain ⟨k', h1⟩ := Obj.data_mapSeq (o := lObj vs k) rfl (fun y => y.push x)
    refine ⟨k', ?_⟩
    simp only [Obj.mapSeq, lObj] at h1 ⊢
    simp only [Data.seq.injEq] at h1
    simp
    first | exact h1.2 | simp_all
  refine hQ _ k' ?_ (Heap.SameBut.update ..)
  rw [← hk']
  exact Heap.get?_update_self _ hl (by rw [hk']; rfl)
noncomputable def HL (W : Wd) (D : Fz) (o : Obj) (out : List AV) : Prop := ∃ vs k, o = lObj vs k ∧ RepL W.P D out vs
noncomputable def HD (W : Wd) (D : Fz) (o : Obj) (out : List (Str × AV)) : Prop := (∃ es k, o = dObj es k ∧ RepE W.P D (dputs [] out) es) ∧ ((dputs [] out).map (·.1)).Nodup ∧ (dputs [] out).length ≤ out.length
theorem dputs_snoc (m : List (Str × AV)) (l : List (Str × AV)) (b : Str × AV) : dputs m (l ++ [b]) = dput (dputs m l) b.1 b.2 := by
  induction l generalizing m with
  | nil => obtain ⟨k, d⟩ := b; rfl
  | cons p r ih => obtain ⟨k, d⟩ := p; exact ih _
theorem dput_len (m : List (Str × AV)) (k : Str) (d : AV) : (dput m k d).length ≤ m.length + 1 := by
  induction m with
  | nil => simp [dput]
  | cons p r ih =>
    obtain ⟨k', d'⟩ := p
    unfold dput
    split
    · simp
    · simp; omega
theorem acc_list (F : W.Firm) (HE : EvalOk W C lv n) (R : Room A lv) {ac : Addr} {elt : Expr} {names : NS} (hn : env.scope.names = names) :
    Acc W A env wr ac (emitL elt (.ref ac) env) (fun σ₁ => aeval C n names σ₁ elt) (HL W) where
  cls := fun D o out h => by
    obtain ⟨vs, k, rfl, _⟩ := h
    exact ⟨nofun, nofun, .of_data nofun⟩
  mono := fun D D' o out le h => by
    obtain ⟨vs, k, rfl, r⟩ := h
    exact ⟨vs, k, rfl, repL_mono le r⟩
  step := fun {Db sb σ D s oa out b o} he S hac hH hD hlen hb0 => by
    obtain ⟨vs, k, rfl, r⟩ := hH
    unfold emitL
    refine wpAny_bind (wpAny_mono (HE _ _ _ _ he R hn S) (fun x s₁ h₁ => ?_) fun _ _ x => x)
    obtain ⟨D₁, x₁, rx⟩ := h₁
    have acT : ac ∉ W.T := W.notT S.glob hac nofun
    have hac₁ := x₁.keep _ _ acT hac
    have hD₁ := x₁.none_of hD hac
    refine wpAny_bind (append_w hac₁ (by rw [← r.length]; omega) fun h' k' hg hs => wpAny_pure ?_)
    have e2 : EP W [ac] D₁ D₁ s₁ { s₁ with heap := h' } := by
      refine ⟨rfl, rfl, rfl, fun b o _ hb e => (hs.2 b fun x => hb (List.mem_singleton.mpr x)).trans e, fun _ _ e => e, fun b o e => (hs.2 b (by rintro rfl; rw [hD₁] at e; cases e)).trans (x₁.fz b o e), fun _ _ e => .inl e, ?_⟩
      exact F.poke S.glob0 (S.step x₁).glob (S.step x₁).ext.keep hb0 (fun o' e => by rw [hac₁] at e; cases e; exact .of_data nofun) hs
    exact ⟨D₁, _, x₁.ep.trans S.glob (fun b hb => by rw [List.mem_singleton.mp hb]; exact ⟨_, hac₁⟩) e2, hg, vs ++ [x], k', rfl, (repL_mono x₁.le r).snoc rx⟩
theorem acc_dict (F : W.Firm) (HE : EvalOk W C lv n) (R : Room A lv) {ac : Addr} {ke ve : Expr} {names : NS} (hn : env.scope.names = names) :
    Acc W A env wr ac (emitD ke ve ac env) (fun σ₁ => apair (aeval C n names σ₁ ke) (aeval C n names σ₁ ve)) (HD W) where
  cls := fun D o out h => by
    obtain ⟨⟨vs, k, rfl, _⟩, _⟩ := h
    exact ⟨nofun, nofun, .of_data nofun⟩
  mono := fun D D' o out le h => by
    obtain ⟨⟨vs, k, rfl, r⟩, h2⟩ := h
    exact ⟨⟨vs, k, rfl, repE_mono le r⟩, h2⟩
  step := fun {Db sb σ D s oa out b o} he S hac hH hD hlen hb0 => by
    obtain ⟨⟨es, k, rfl, r⟩, hnd, hl⟩ := hH
    obtain ⟨kk, h1, he⟩ := bind_some he
    obtain ⟨d, h2, rfl⟩ := map_some he
    obtain ⟨kv, h1, hk⟩ := bind_some h1
    cases astr_ hk
    unfold emitD
    have acT : ac ∉ W.T := W.notT S.glob hac nofun
    refine wpAny_bind (wpAny_mono (HE _ _ _ _ h1 R hn S) (fun kv s₁ h₁ => ?_) fun _ _ x => x)
    obtain ⟨D₁, x₁, rk⟩ := h₁
    obtain ⟨t, rfl⟩ := rk.str'
    refine wpAny_bind (wpAny_holding (wpAny_mono (HE _ _ _ _ h2 R hn (S.step x₁)) (fun x s₂ h₂ => ?_) fun _ _ x => x))
    obtain ⟨D₂, x₂, rx⟩ := h₂
    have x12 := x₁.trans S.glob x₂
    have hac₂ := x12.keep _ _ acT hac
    have hD₂ := x12.none_of hD hac
    have r₂ := repE_mono x12.le r
    refine wpAny_bind (wpAny_standAt (wpAny_holding ?_))
    refine wpAny_dictSet_pairs (knd := kd W) (k := kk) (kvs := zipV (dputs [] out) es) (by simp [PySem.strKind, Value.isStrOf]) (dictOf_rep hac₂ r₂ hnd) (fun h' hd' hs => ?_) (by rw [sizeLine_eq]; have := r.length; simp [zipV]; omega)
    obtain ⟨es', k', hg, r'⟩ := repE_of_dictOf hd' (stored_pairs r₂ hnd rx)
    have e2 : EP W [ac] D₂ D₂ s₂ { s₂ with heap := h', toks := s₂.toks + 1 } := by
      refine ⟨rfl, rfl, rfl, fun b o _ hb e => (hs.2 b fun x => hb (List.mem_singleton.mpr x)).trans e, fun _ _ e => e, fun b o e => (hs.2 b (by rintro rfl; rw [hD₂] at e; cases e)).trans (x₂.fz b o e), fun _ _ e => .inl e, ?_⟩
      exact F.poke S.glob0 (S.step x12).glob (S.step x12).ext.keep hb0 (fun o' e => by rw [hac₂] at e; cases e; exact .of_data nofun) hs
    refine ⟨D₂, _, x12.ep.trans S.glob (fun b hb => by rw [List.mem_singleton.mp hb]; exact ⟨_, hac₂⟩) e2, hg, ⟨es', k', rfl, ?_⟩, ?_, ?_⟩
    · rw [dputs_snoc]; exact r'
    · rw [dputs_snoc]; exact dput_nodup _ _ hnd
    · rw [dputs_snoc]
      have := dput_len (dputs [] out) kk d
      simp; omega
theorem comp_enter {β : Type} (F : W.Firm) (HT : TestOk W C lv n) (HI : IterOk W C lv n) (R : Room A lv) (S : St W env wr D₀ s₀ σ D s oa) {e : Expr} {scope : Scope} {pos : Pos} {newAcc : Sem Value} {g : Comprehension} {gs : List Comprehension} {rs : List β}
    {emitA : Sg → Option β} {o0 : Obj} {emit : Addr → Env → Sem Unit} {H : Fz → Obj → List β → Prop}
    (hacc : ∀ (s : Shared) (Q : Value → Shared → Prop), Q (.ref s.heap.objs.size) { s with heap := s.heap.push o0 } → wpAny W.M A newAcc Q NoE s) (h0 : o0.isFreed = false) (hH0 : ∀ D, H D o0 [])
    (K : syncOk (g :: gs) = true → ∀ ac cenv, Cmp (g :: gs) e (.ref ac) cenv (emit ac cenv))
    (Ac : ∀ ac cenv, cenv.scope.names = relNames scope env.scope.names → Acc W A cenv (ownNames scope) ac (emit ac cenv) emitA H)
    (hcl : clausesOf e = g :: gs)
    (h : acomp (aeval C n) (atest C n) (aiter C n) env.scope.names σ scope (g :: gs) emitA = some rs)
    {use : Option (Value → Sem Unit)} {Q : Value → Shared → Prop}
    (hfin : ∀ ac L s' D' o', Ext W D D' s s' → s'.heap.get? ac = some o' → H D' o' rs → D' ac = none → s.heap.get? ac = none → (∃ m, s'.heap.Ns L m) → D' L = none → s.heap.get? L = none → ac ≠ L →
      compPost W.M A NoE use Q (.ref ac) L (.ok .next) s') :
    wpAny W.M A (comprehension e scope env pos newAcc false (eval g.iter env) use) Q NoE s := by
  obtain ⟨hc, h⟩ := ite_some h
  rw [Bool.and_eq_true] at hc
  obtain ⟨hok, hsync⟩ := hc
  obtain ⟨items, hit, h⟩ := bind_some h
  obtain ⟨rs', hag, hsh⟩ := bind_some h
  obtain ⟨hlen, hsh⟩ := ite_some hsh
  cases hsh
  have hI := HI _ _ _ _ _ hit R rfl S
  have hok' := hok
  unfold compOk at hok'
  simp only [Bool.and_eq_true, decide_eq_true_eq] at hok'
  obtain ⟨⟨hkind, hfree⟩, hnd⟩ := hok'
  have hkind' : scope.kind = .function := by simpa using hkind
  refine wpAny_comprehension_free hcl hI.1 (closure_eq fun p hp hpf => ?_) hkind' (fun p hp hl => ?_) (wpAny_mono hI.2 (fun x s₁ h₁ => wpAny_mono h₁ (fun it s₂ h₂ => ?_) fun _ _ x => x) fun _ _ x => x)
  · have := List.all_eq_true.mp hfree _ hp
    rw [hpf] at this
    simp only [beq_self_eq_true, Bool.not_true, Bool.false_or, Bool.and_eq_true, Bool.or_eq_true, beq_iff_eq] at this
    obtain ⟨hk, hfz⟩ := this
    obtain ⟨d, hd⟩ := froz_some hfz
    obtain ⟨v, hv, _⟩ := S.fro p.1 d hd
    rcases hv with ⟨h1, _⟩ | ⟨_, c, h2, h3⟩
    · rcases hk with h | h <;> (rw [show env.kindOf p.1 = env.scope.names.lookup p.1 from rfl, h] at h1; cases h1)
    · exact ⟨c, h2⟩
  · obtain ⟨y, k⟩ := p
    dsimp only at hl
    subst hl
    exact lookup_of_mem hnd hp
  · obtain ⟨D', I, ms, fp, TT, X, rfl, x, iT, hx, hTT, hms⟩ := h₂
    refine hacc s₂ _ ?_
    simp only [newFunctionEnv, Option.isSome_some, if_true]
    refine wpAny_bind (wpAny_alloc ?_)
    refine wpAny_bind (wpAny_layCells _ (fun name kind cells => by cases hkc : kind == NameKind.cell <;> simp) _ _ _ _ ?_)
    refine wpAny_bind ?_
    rw [List.forIn_nil]
    refine wpAny_pure (wpAny_pure ?_)
    have sz : (s₂.heap.push o0).objs.size = s₂.heap.objs.size + 1 := Heap.size_push ..
    have sz2 : ((s₂.heap.push o0).push { cls := .type "dict", data := .dict #[] }).objs.size = s₂.heap.objs.size + 2 := by rw [Heap.size_push, sz]
    dsimp only
    rw [sz2, sz]
    generalize h5 : ({ s₂ with heap := pushCells ((s₂.heap.push o0).push { cls := .type "dict", data := .dict #[] }) scope.names } : Shared) = s₅
    generalize he : ({ scope := relabel scope env, locals := s₂.heap.objs.size + 1, globals := env.globals, cells := cellsFrom (s₂.heap.objs.size + 2) scope.names (closL env scope.names []), qual := env.qual, func := none, code := env.code, frame := env.frame, builtins := env.builtins } : Env) = cenv
    have S5 : St W cenv (ownNames scope) D s (compSg scope σ) D' s₅ (fun _ => 0) := comp_st S hok x (o0 := o0) h5.symm (by rw [← he]; rfl)
    have keep : ∀ b o, s₂.heap.get? b = some o → s₅.heap.get? b = some o := fun b o e => by
      rw [← h5]
      exact pushCells_keeps _ _ _ _ (Heap.get?_push_of_some _ (Heap.get?_push_of_some _ e))
    have hac5 : s₅.heap.get? s₂.heap.objs.size = some o0 := by
      rw [← h5]
      exact pushCells_keeps _ _ _ _ (Heap.get?_push_of_some _ (Heap.get?_push_size _ h0))
    have hloc : cenv.locals = s₂.heap.objs.size + 1 := by rw [← he]
    have ok₂ : Ok W D' s₂ := .ext x
    have S₂ := S.step x
    have n0 : ∀ b, s₂.heap.get? b = none → s.heap.get? b = none := fun b hb => by
      cases q : s.heap.get? b with
      | none => rfl
      | some o =>
        by_cases hT : b ∈ W.T
        · obtain ⟨_, _, h1, _⟩ := W.tab _ b ok₂.glob hT
          rw [hb] at h1; cases h1
        · rw [x.keep b o hT q] at hb; cases hb
    have hal : s₂.heap.objs.size ≠ cenv.locals := by rw [hloc]; exact Nat.ne_of_lt (Nat.lt_succ_self _)
    have hx5 : X 0 s₅.heap := iT.over (D := D') (D' := D') (s := s₂) (s' := s₅) (fun _ _ e => e) ok₂.fz (fun _ _ e => e) S5.fz (fun b _ o e => keep b o e) hx
    have alive := iT.alive _ _ hx
    have hcn : cenv.scope.names = relNames scope env.scope.names := by rw [← he]; exact relNames_eq S.kind
    have main : codeAny W.M A (.compLoop e 0 (.ref I) (.ref s₂.heap.objs.size) cenv) (compPost W.M A NoE use Q (.ref s₂.heap.objs.size) cenv.locals) s₅ := by
      refine codeAny_mono (comp_loop F HT HI R (K hsync _ _) (Ac _ cenv hcn) hal gs g 0 rfl (compSg scope σ) (fun y d e => ?_) items rs (by rw [hcn]; exact hag) D s D' s₅ (fun _ => 0) [] o0 D' I ms fp TT X iT hTT (fun _ _ e => e) hx5 S5 hac5 (hH0 _) ok₂.none_size (n0 _ (get_size _)) (by simpa using hlen) fun b hb => ?_) fun r s' hr => ?_
      · obtain ⟨_, d', hd', _⟩ := compSg_lookup y e
        cases hd'
      · obtain ⟨h1, h2⟩ := hms b hb
        obtain ⟨ob, hob, _⟩ := alive b hb
        have hlt := Heap.lt_size hob
        exact ⟨h1, h2, Nat.ne_of_lt hlt, by rw [hloc]; exact Nat.ne_of_lt (Nat.lt_succ_of_lt hlt)⟩
      · obtain ⟨rfl, D6, oa6, o6, S6, hac6, hH6, hD6⟩ := hr
        exact hfin _ _ s' D6 o6 S6.ext hac6 (by simpa using hH6) hD6 (n0 _ (get_size _)) S6.ns S6.locD S6.loc0 hal
    have hloc' : cenv.locals = s₂.heap.objs.size + 1 := hloc
    rw [hloc'] at main
    exact compStart_w (K hsync _ _) (g := g) rfl main (iT.self 0 s₅ _ hx5 main)
end
end Mine
set_option maxRecDepth 10000
set_option linter.unusedVariables false
namespace Mine
open PySem PyProof.Rows
section
variable {W : Wd} {C : Cfg} {lv n : Nat} {A : Around} {env : Env} {wr : List Str} {D₀ D D' : Fz} {s₀ s s' : Shared} {σ σ' : Sg} {oa : Str → Addr}
theorem okName_spec {x : Str} (h : okName x = true) : (x == ("__debug__" : Str)) = false ∧ (x == ("__classdict__" : Str)) = false := by
  unfold okName at h
  simpa using h
/-- a name that is looked into, or any expression -/
theorem bor_sound (Gd : Good W C lv) (HE : EvalOk W C lv n) (R : Room A lv) {sc : NS} {e : Expr} {d : AV} (h : abor C (aeval C n sc σ) sc σ e = some d) (hsc : env.scope.names = sc) (S : St W env wr D₀ s₀ σ D s oa) :
    wpAny W.M A (eval e env) (fun v s' => ∃ D', Ext W D D' s s' ∧ Bor W.P D' s'.heap d v) NoE s := by
  have any : aeval C n sc σ e = some d → wpAny W.M A (eval e env) (fun v s' => ∃ D', Ext W D D' s s' ∧ Bor W.P D' s'.heap d v) NoE s := fun h => by
    refine wpAny_mono (HE _ _ _ _ h R hsc S) (fun v s' h' => ?_) fun _ _ x => x
    obtain ⟨D', x, r⟩ := h'
    exact ⟨D', x, r.bor x.fz⟩
  unfold abor at h
  cases q : isName e with
  | none => rw [q] at h; exact any h
  | some x =>
    obtain ⟨p, rfl⟩ := isName_ q
    clear q any
    obtain ⟨hok, h⟩ := ite_some h
    obtain ⟨h1, h2⟩ := okName_spec hok
    refine wpAny_Name ?_ h1
    cases hk : sc.lookup x with
    | none => rw [hk] at h; cases h
    | some k =>
      rw [hk] at h
      replace h : (if (k == .globalImplicit) = true then C.Γ x else if (k == .globalExplicit) = true then none else (σ.lookup x).map (·.2)) = some d := h
      by_cases hg : (k == .globalImplicit) = true
      · rw [if_pos hg] at h
        obtain ⟨v, hv, rv⟩ := Gd.glo x d h
        exact wp_global S.kind S.glo S.bui (by rw [← eq_of_beq hg, ← hk, ← hsc]; rfl) S.glob (by rw [hv]; rfl) ⟨D, S.ok.refl, (rv D).bor S.fz⟩
      · rw [if_neg hg] at h
        by_cases hg : (k == .globalExplicit) = true
        · rw [if_pos hg] at h; cases h
        · rw [if_neg hg] at h
          obtain ⟨⟨b, d'⟩, q, h⟩ := map_some h
          obtain rfl : d' = d := h
          cases b with
          | false =>
            obtain ⟨v, hv, rv⟩ := S.fro x d' q
            exact wp_load S.kind hv h2 ⟨D, S.ok.refl, rv.bor S.fz⟩
          | true =>
            obtain ⟨hv, ⟨o, ho, hr⟩, _, h0, _⟩ := S.own x d' q
            refine wp_load S.kind hv h2 ⟨D, S.ok.refl, ?_⟩
            cases d' with
            | list ds => obtain ⟨vs, k, rfl, r⟩ := hr; exact ⟨_, vs, k, rfl, ho, r⟩
            | dict ds => obtain ⟨vs, k, rfl, r, hn⟩ := hr; exact ⟨_, vs, k, rfl, ho, r, W.notSys S.glob0 h0, hn⟩
            | _ => exact hr.elim
theorem name_sound (Gd : Good W C lv) {sc : NS} {x : Str} {p : Pos} {d : AV} (h : aname C sc σ x = some d) (hsc : env.scope.names = sc) (S : St W env wr D₀ s₀ σ D s oa) : Ev W A D (eval (.Name x p) env) d s := by
  obtain ⟨hok, h⟩ := ite_some h
  obtain ⟨h1, h2⟩ := okName_spec hok
  refine wpAny_Name ?_ h1
  cases hk : sc.lookup x with
  | none => rw [hk] at h; cases h
  | some k =>
    rw [hk] at h
    replace h : (if (k == .globalImplicit) = true then C.Γ x else if (k == .globalExplicit) = true then none else (σ.lookup x).bind fun p => if p.1 then none else some p.2) = some d := h
    by_cases hg : (k == .globalImplicit) = true
    · rw [if_pos hg] at h
      obtain ⟨v, hv, rv⟩ := Gd.glo x d h
      exact wp_global S.kind S.glo S.bui (by rw [← eq_of_beq hg, ← hk, ← hsc]; rfl) S.glob (by rw [hv]; rfl) ⟨D, S.ok.refl, rv D⟩
    · rw [if_neg hg] at h
      by_cases hg : (k == .globalExplicit) = true
      · rw [if_pos hg] at h; cases h
      · rw [if_neg hg] at h
        obtain ⟨⟨b, d'⟩, q, h⟩ := bind_some h
        cases b with
        | true => cases h
        | false =>
          cases h
          obtain ⟨v, hv, rv⟩ := S.fro x d' q
          exact wp_load S.kind hv h2 ⟨D, S.ok.refl, rv⟩
theorem getItem_tuple_two {t sl : Addr} {a b c : Value} {k : Nat} {u : Tok} {Q : Value → Shared → Prop} {E : Value → Shared → Prop} (ht : s.heap.get? t = some (tObj [a, b, c] k)) (hs : s.heap.IsSliceOf sl .none (.int 2 u) .none)
    (h : Q (.ref s.heap.objs.size) { s with heap := s.heap.push { cls := .type "tuple", data := .seq #[a, b] } }) : wpAny W.M A (getItem (.ref t) (.ref sl)) Q E s := by
  have ht' : IsTup s.heap t #[a, b, c] := ⟨_, ht, rfl, _, rfl⟩
  obtain ⟨os, hos, hcs, hds⟩ := id hs
  have hTs : s.TypeIs (.ref sl) "slice" := ⟨os, hos, hcs⟩
  have applied : ∀ {A : Around} {Q : Int × Int × Nat → Shared → Prop}, Q (0, 1, 2) s → wpAny W.M A (Builtin.Slice.sliceApplied (.ref sl) (pure (3 : Int))) Q E s := fun {A Q} h => by
    unfold Builtin.Slice.sliceApplied Builtin.Slice.sliceFields
    refine wpAny_bind (wpAny_bind (wpAny_field hos hds (x := .none) rfl (wpAny_bind (wpAny_field hos hds (x := .int 2 u) rfl (wpAny_bind (wpAny_field hos hds (x := .none) rfl (wpAny_pure ?_)))))))
    refine wpAny_bind (slicePart_none ?_)
    show wpAny _ _ (if ((1 : Int) == 0) = true then _ else _) _ _ s
    rw [if_neg (by decide)]
    refine wpAny_bind (slicePart_none (wpAny_bind (slicePart_int (wpAny_bind (wpAny_pure ?_)))))
    exact wpAny_pure h
  unfold getItem
  try with_reducible refine wpAny_holding ?_
  first | refine wpAny_bind (wpAny_pure ?_) | skip
  refine wpAny_bind (wpAny_sequenceKey ht'.typeIs (by decide) ?_)
  refine wpAny_bind (wpAny_callSpecial?_slot (name := Str.ofString "__getitem__") ht'.typeIs F.slot_tuple_getitem
    (wpAny_call_entry F.slot_tuple_getitem ht'.typeIs F.entry_tuple_getitem ?_ (F.args_tuple_getitem_2 _ _)))
  show wpAny _ _ (Builtin.Tuple.tupleItemsOf (.ref t) >>= _) _ _ s
  refine wpAny_bind (tupleItemsOf_ ht' ?_)
  refine wpAny_bind (wpAny_typeOf hTs ?_)
  rw [if_pos (by decide)]
  refine wpAny_bind (applied ?_)
  show wpAny _ _ (if ((0 : Int) == 0 && (1 : Int) == 1 && (2 : Nat) == 3) = true then _ else _) _ _ s
  rw [if_neg (by decide)]
  have hdrop : sizeOk (.seq #[a, b]) := by show (2 : Nat) ≤ sizeLine; rw [sizeLine_eq]; omega
  first
    | exact wpAny_bind (m := Builtin.Tuple.tupleExact _) (wpAny_newObj_type (wpAny_pure ⟨_, rfl, wpAny_pure h⟩) hdrop)
    | exact wpAny_bind (m := Builtin.Tuple.tupleExact _) (wpAny_newObj_type (wpAny_bind (wpAny_pure (wpAny_pure ⟨_, rfl, wpAny_pure h⟩))) hdrop)
    | exact wpAny_bind (wpAny_bind (m := Builtin.Tuple.tupleExact _) (wpAny_newObj_type (wpAny_pure (wpAny_pure ⟨_, rfl, wpAny_pure h⟩)) hdrop))
theorem slice_ops {lo hi st : Option Expr} {p : Pos} (o i : Value) : ∃ ops, subscripted (.Slice lo hi st p) false o i = operate ops (getItem o i) := by
  cases st with
  | none => exact ⟨_, rfl⟩
  | some _ => exact ⟨_, rfl⟩
theorem part_sound (HE : EvalOk W C lv n) (R : Room A lv) {sc : NS} {e : Option Expr} {i : Option Int} (h : apart (aeval C n sc σ) e = some i) (hsc : env.scope.names = sc) (S : St W env wr D₀ s₀ σ D s oa) :
    wpAny W.M A (evalPart e env) (fun v s' => ∃ D', Ext W D D' s s' ∧ IsPart v i) NoE s := by
  cases e with
  | none =>
    cases h
    rw [evalPart_none]
    exact wpAny_pure ⟨D, S.ok.refl, .none⟩
  | some e =>
    obtain ⟨k, h1, rfl⟩ := map_some h
    obtain ⟨dd, he, h2⟩ := bind_some h1
    cases aint_ h2
    rw [evalPart_some]
    refine wpAny_mono (HE _ _ _ _ he R hsc S) (fun v s' h' => ?_) fun _ _ x => x
    obtain ⟨D', x, r⟩ := h'
    obtain ⟨t, rfl⟩ := r.int'
    exact ⟨D', x, .int _ _⟩
theorem part_value {v : Value} {i : Option Int} (h : IsPart v i) : ∃ q : Option (Int × Tok), v = partValue q ∧ q.map (·.1) = i := by
  cases h with
  | none => exact ⟨none, rfl, rfl⟩
  | int i t => exact ⟨some (i, t), rfl, rfl⟩
theorem slice_sound {value slice : Expr} {a d : AV} {lo hi st : Option Int} {va vl vu vs : Value} {sl : Addr} {k : Nat} (h : aslice a lo hi st = some d) (o : Ok W D s) (ra : Bor W.P D s.heap a va)
    (hs : s.heap.get? sl = some { cls := .type "slice", data := .fields #[vl, vu, vs] }) (pl : IsPart vl lo) (pu : IsPart vu hi) (ps : IsPart vs st) (hop : ∀ o i, ∃ ops, subscripted slice false o i = operate ops (getItem o i)) :
    Ev W A D (subscriptTail value slice va (.ref sl)) d s := by
  have hs' : s.heap.IsSliceOf sl vl vu vs := ⟨_, hs, rfl, rfl⟩
  obtain ⟨ops, hops⟩ := hop va (.ref sl)
  cases a with
  | list l =>
    obtain ⟨hc, h⟩ := ite_some h
    cases h
    have q := sliceList_sound (A := A) o hc.1 hc.2 ra hs' pl pu ps
    obtain ⟨a1, ws, n1, rfl, h1, r1⟩ := ra
    exact tail_any (T := "list") ⟨_, h1, rfl⟩ slot_list_getitem.lookup (q.ev o) hops
  | tuple l =>
    obtain ⟨⟨x, y, z⟩, h3, h⟩ := bind_some h
    obtain ⟨⟨h4, h5, h6⟩, h2⟩ := ite_some h
    cases h2
    cases h4
    cases h5
    cases h6
    cases a3_ h3
    obtain ⟨a1, ws, n1, rfl, h1, r1⟩ := ra
    cases r1 with
    | @cons d1 v1 ds vs' q1 r1 => cases r1 with
      | @cons d2 v2 ds vs' q2 r1 => cases r1 with
        | @cons d3 v3 ds vs' q3 r1 =>
          cases r1
          cases pl
          cases ps
          cases pu
          refine tail_any (T := "tuple") ⟨_, h1, rfl⟩ F.slot_tuple_getitem.lookup (getItem_tuple_two h1 hs' ?_) hops
          exact ⟨_, o.pushF (tObj [v1, v2] 0) _ rfl, .tuple_ (addF_self ..) (.cons (q1.mono (addF_le o.none_size)) (.cons (q2.mono (addF_le o.none_size)) .nil))⟩
  | str x =>
    obtain ⟨⟨h1, hl⟩, h2⟩ := ite_some h
    cases h2
    cases h1
    obtain ⟨t, rfl⟩ := Rep.str' ra
    obtain ⟨l', rfl, hl'⟩ := part_value pl
    obtain ⟨u', rfl, hu'⟩ := part_value pu
    cases ps
    refine tail_any (T := "str") (typeIs_str _ _ _) F.slot_str_getitem.lookup (wpAny_getItem_str_slice (l := l') (u := u') (st := none) ⟨_, hs, rfl, rfl⟩ rfl ?_) hops
    unfold sliceMade acut slicePicked
    rw [hl', hu']
    simp only [Option.map_none, Option.getD_none, beq_self_eq_true, Bool.true_and]
    split
    · exact ⟨D, o.refl, .str _ _⟩
    · refine ⟨?_, D, o.tok _, .str _ _⟩
      have e1 := indices_len_le lo hi x.length
      have e2 := List.length_filterMap_le (x.cps[·]?) (Builtin.Str.strSliceIndices lo hi 1 x.length)
      show (((Builtin.Str.strSliceIndices lo hi 1 x.length).filterMap (x.cps[·]?)).toArray).size ≤ sizeLine
      rw [sizeLine_eq, List.size_toArray]
      omega
  | _ => cases h
end
end Mine
set_option maxRecDepth 10000
set_option linter.unusedVariables false
namespace Mine
open PySem PyProof.Rows
/-- an expression's value, whatever the frame -/
structure SEv (W : Wd) (lv : Nat) (sc : NS) (σ : Sg) (e : Expr) (d : AV) : Prop where
  run : ∀ {A : Around} {env : Env} {wr : List Str} {D₀ : Fz} {s₀ : Shared} {D : Fz} {s : Shared} {oa : Str → Addr}, Room A lv → env.scope.names = sc → St W env wr D₀ s₀ σ D s oa → Ev W A D (eval e env) d s
/-- … looked into -/
structure SBo (W : Wd) (lv : Nat) (sc : NS) (σ : Sg) (e : Expr) (d : AV) : Prop where
  run : ∀ {A : Around} {env : Env} {wr : List Str} {D₀ : Fz} {s₀ : Shared} {D : Fz} {s : Shared} {oa : Str → Addr}, Room A lv → env.scope.names = sc → St W env wr D₀ s₀ σ D s oa →
    wpAny W.M A (eval e env) (fun v s' => ∃ D', Ext W D D' s s' ∧ Bor W.P D' s'.heap d v) NoE s
structure STe (W : Wd) (lv : Nat) (sc : NS) (σ : Sg) (e : Expr) (b : Bool) : Prop where
  run : ∀ {A : Around} {env : Env} {wr : List Str} {D₀ : Fz} {s₀ : Shared} {D : Fz} {s : Shared} {oa : Str → Addr}, Room A lv → env.scope.names = sc → St W env wr D₀ s₀ σ D s oa →
    wpAny W.M A (isTrue e env (eval e env)) (fun c s' => c = b ∧ ∃ D', Ext W D D' s s') NoE s
section
variable {W : Wd} {C : Cfg} {lv n : Nat} {A : Around} {env : Env} {wr : List Str} {D₀ D D' : Fz} {s₀ s s' : Shared} {σ σ' : Sg} {oa : Str → Addr} {sc : NS} {f : Str} {ds : List AV} {d : AV}
theorem EvalOk.sev (HE : EvalOk W C lv n) {e : Expr} {d : AV} (h : aeval C n sc σ e = some d) : SEv W lv sc σ e d := .mk fun R hsc S => HE _ _ _ _ h R hsc S
theorem TestOk.ste (HT : TestOk W C lv n) {e : Expr} {d : Bool} (h : atest C n sc σ e = some d) : STe W lv sc σ e d := .mk fun R hsc S => HT _ _ _ _ h R hsc S
theorem EvalOk.sbo (Gd : Good W C lv) (HE : EvalOk W C lv n) {e : Expr} {d : AV} (h : abor C (aeval C n sc σ) sc σ e = some d) : SBo W lv sc σ e d := .mk fun R hsc S => bor_sound Gd HE R h hsc S
theorem SEv.bor {e : Expr} {d : AV} (h : SEv W lv sc σ e d) : SBo W lv sc σ e d := .mk fun R hsc S => wpAny_mono (h.run R hsc S) (fun _ _ h' => h'.elim fun D' q => ⟨D', q.1, q.2.bor q.1.fz⟩) fun _ _ x => x
/-! ## operators, tests -/
theorem SEv.op {l r : Expr} {op : Operator} {p : Pos} {a b d : AV} (h1 : SEv W lv sc σ l a) (h2 : SEv W lv sc σ r b) (h : ∀ A D s va vb, Ok W D s → Rep W.P D a va → Rep W.P D b vb → Ev W A D (binaryOp op va vb) d s) : SEv W lv sc σ (.BinOp l op r p) d := .mk fun R hsc S => by
  refine wpAny_BinOp (wpAny_mono (h1.run R hsc S) (fun va s₁ h₁ => ?_) fun _ _ x => x)
  obtain ⟨D₁, x₁, ra⟩ := h₁
  refine wpAny_mono (h2.run R hsc (S.step x₁)) (fun vb s₂ h₂ => ?_) fun _ _ x => x
  obtain ⟨D₂, x₂, rb⟩ := h₂
  refine wpAny_mono (h _ _ _ _ _ (.ext x₂) (ra.mono x₂.le) rb) (fun v s₃ h₃ => ?_) fun _ _ x => x
  obtain ⟨D₃, x₃, rv⟩ := h₃
  exact ⟨D₃, (x₁.trans S.glob x₂).trans S.glob x₃, rv⟩
theorem SEv.bin {l r : Expr} {op : Operator} {p : Pos} {a b d : AV} (h1 : SEv W lv sc σ l a) (h2 : SEv W lv sc σ r b) (h : abin op a b = some d) : SEv W lv sc σ (.BinOp l op r p) d :=
  h1.op h2 fun _ _ _ _ _ o ra rb => abin_sound h o ra rb
theorem SEv.un {x : Expr} {op : UnaryOp} {p : Pos} {a d : AV} (h1 : SEv W lv sc σ x a) (h : aun op a = some d) : SEv W lv sc σ (.UnaryOp op x p) d := .mk fun R hsc S => by
  refine wpAny_UnaryOp (wpAny_mono (h1.run R hsc S) (fun va s₁ h₁ => ?_) fun _ _ x => x)
  obtain ⟨D₁, x₁, ra⟩ := h₁
  refine wpAny_mono (aun_sound h (.ext x₁) ra) (fun v s₃ h₃ => ?_) fun _ _ x => x
  obtain ⟨D₃, x₃, rv⟩ := h₃
  exact ⟨D₃, x₁.trans S.glob x₃, rv⟩
theorem SEv.ife {t b o : Expr} {p : Pos} {c : Bool} {d : AV} (ht : STe W lv sc σ t c) (h1 : c = true → SEv W lv sc σ b d) (h2 : c = false → SEv W lv sc σ o d) : SEv W lv sc σ (.IfExp t b o p) d := .mk fun {A env wr D₀ s₀ D s oa} R hsc S => by
  refine wpAny_IfExp (wpAny_mono (ht.run R hsc S) (fun c' s₁ h₁ => ?_) fun _ _ x => x)
  obtain ⟨rfl, D₁, x₁⟩ := h₁
  have go : ∀ {e : Expr}, SEv W lv sc σ e d → wpAny W.M A (eval e env) (fun v s' => ∃ D', Ext W D D' s s' ∧ Rep W.P D' d v) NoE s₁ := fun he => wpAny_mono (he.run R hsc (S.step x₁)) (fun _ _ h₂ => h₂.elim fun D₂ q => ⟨D₂, x₁.trans S.glob q.1, q.2⟩) fun _ _ x => x
  cases c' with
  | true => rw [if_pos rfl]; exact go (h1 rfl)
  | false => rw [if_neg Bool.false_ne_true]; exact go (h2 rfl)
theorem cmp_run {l r : Expr} {op : CmpOp} {a b : AV} {c : Bool} (h1 : SEv W lv sc σ l a) (h2 : SBo W lv sc σ r b) (h : acmp op a b = some c) (R : Room A lv) (hsc : env.scope.names = sc) (S : St W env wr D₀ s₀ σ D s oa) {Q : Value → Shared → Prop}
    (hQ : ∀ s' D', Ext W D D' s s' → Q (.bool c) s') : wpAny W.M A (eval l env) (fun va s₁ => wpAny W.M A (eval r env) (fun vb s₂ => wpAny W.M A (compareOp op va vb) Q NoE s₂) NoE s₁) NoE s := by
  refine wpAny_mono (h1.run R hsc S) (fun va s₁ h₁ => ?_) fun _ _ x => x
  obtain ⟨D₁, x₁, ra⟩ := h₁
  refine wpAny_mono (h2.run R hsc (S.step x₁)) (fun vb s₂ h₂ => ?_) fun _ _ x => x
  obtain ⟨D₂, x₂, rb⟩ := h₂
  refine wpAny_mono (acmp_sound h (.ext x₂) R (ra.mono x₂.le) rb) (fun v s₃ h₃ => ?_) fun _ _ x => x
  obtain ⟨rfl, x₃⟩ := h₃
  exact hQ _ D₂ ((x₁.trans S.glob x₂).trans S.glob x₃)
theorem marks_of {op : CmpOp} {r : Expr} (h : isSet r = false) : behindInMarks op r = false := by
  cases r <;> first | rfl | cases h
theorem SEv.cmpB {l r : Expr} {op : CmpOp} {p : Pos} {a b : AV} {c : Bool} (h1 : SEv W lv sc σ l a) (h2 : SBo W lv sc σ r b) (h : acmp op a b = some c) (hs : isSet r = false) : SEv W lv sc σ (.Compare l [op] [r] p) (.bool c) := .mk fun R hsc S =>
  wpAny_Compare1 (cmp_run h1 h2 h R hsc S fun _ D' x => ⟨D', x, .bool _⟩) (marks_of hs)
theorem STe.cmpB {l r : Expr} {op : CmpOp} {p : Pos} {a b : AV} {c : Bool} (h1 : SEv W lv sc σ l a) (h2 : SBo W lv sc σ r b) (h : acmp op a b = some c) (hs : isSet r = false) : STe W lv sc σ (.Compare l [op] [r] p) c := .mk fun R hsc S =>
  wpAny_isTrue_Compare1 (cmp_run h1 h2 h R hsc S fun _ D' x => wpAny_truthy_bool ⟨rfl, D', x⟩) (marks_of hs)
theorem SEv.cmp {l r : Expr} {op : CmpOp} {p : Pos} {a b : AV} {c : Bool} (h1 : SEv W lv sc σ l a) (h2 : SEv W lv sc σ r b) (h : acmp op a b = some c) (hs : isSet r = false) : SEv W lv sc σ (.Compare l [op] [r] p) (.bool c) := h1.cmpB h2.bor h hs
theorem STe.cmp {l r : Expr} {op : CmpOp} {p : Pos} {a b : AV} {c : Bool} (h1 : SEv W lv sc σ l a) (h2 : SEv W lv sc σ r b) (h : acmp op a b = some c) (hs : isSet r = false) : STe W lv sc σ (.Compare l [op] [r] p) c := .cmpB h1 h2.bor h hs
theorem STe.not {x : Expr} {p : Pos} {c : Bool} (h : STe W lv sc σ x c) : STe W lv sc σ (.UnaryOp .Not x p) (!c) := .mk fun R hsc S =>
  isTrue_not (wpAny_mono (h.run R hsc S) (fun b s₁ h₁ => ⟨congrArg (!·) h₁.1, h₁.2⟩) fun _ _ x => x)
theorem STe.or {x y : Expr} {p : Pos} {c d : Bool} (h1 : STe W lv sc σ x c) (h2 : c = false → STe W lv sc σ y d) : STe W lv sc σ (.BoolOp .Or [x, y] p) (c || d) := .mk fun R hsc S => by
  refine isTrue_or (wpAny_mono (h1.run R hsc S) (fun b s₁ h₁ => ?_) fun _ _ x => x)
  obtain ⟨rfl, D₁, x₁⟩ := h₁
  cases b with
  | true => exact ⟨rfl, D₁, x₁⟩
  | false =>
    rw [if_neg Bool.false_ne_true]
    refine isTrue_or (wpAny_mono ((h2 rfl).run R hsc (S.step x₁)) (fun b s₂ h₂ => ?_) fun _ _ x => x)
    obtain ⟨rfl, D₂, x₂⟩ := h₂
    have fin := x₁.trans S.glob x₂
    cases b with
    | false => rw [if_neg Bool.false_ne_true]; exact isTrue_or_nil ⟨rfl, D₂, fin⟩
    | true => exact ⟨rfl, D₂, fin⟩
theorem STe.and {x y : Expr} {p : Pos} {c d : Bool} (h1 : STe W lv sc σ x c) (h2 : c = true → STe W lv sc σ y d) : STe W lv sc σ (.BoolOp .And [x, y] p) (c && d) := .mk fun R hsc S => by
  refine isTrue_and (wpAny_mono (h1.run R hsc S) (fun b s₁ h₁ => ?_) fun _ _ x => x)
  obtain ⟨rfl, D₁, x₁⟩ := h₁
  cases b with
  | false => exact ⟨rfl, D₁, x₁⟩
  | true =>
    rw [if_pos rfl]
    refine isTrue_and (wpAny_mono ((h2 rfl).run R hsc (S.step x₁)) (fun b s₂ h₂ => ?_) fun _ _ x => x)
    obtain ⟨rfl, D₂, x₂⟩ := h₂
    have fin := x₁.trans S.glob x₂
    cases b with
    | true => rw [if_pos rfl]; exact isTrue_and_nil ⟨rfl, D₂, fin⟩
    | false => exact ⟨rfl, D₂, fin⟩
/-- a value of which the truth is asked -/
noncomputable def plainTest : Expr → Bool
  | .UnaryOp op _ _ => !(op == .Not)
  | .BoolOp .. | .IfExp .. | .Compare .. => false
  | _ => true
theorem plainTest_eq {e : Expr} (h : plainTest e = true) : isTrue e env (eval e env) = (do let v ← eval e env; standAt e.pos; holding [v] (truthy v)) := by
  cases e with
  | UnaryOp op x p => cases op <;> first | rfl | cases h
  | BoolOp | IfExp | Compare => cases h
  | _ => rfl
theorem STe.val {e : Expr} {d : AV} {c : Bool} (h : SEv W lv sc σ e d) (ht : atru d = some c) (hp : plainTest e = true) : STe W lv sc σ e c := .mk fun R hsc S => by
  refine isTrue_plain (wpAny_mono (h.run R hsc S) (fun v s₁ h₁ => ?_) fun _ _ x => x) (plainTest_eq hp)
  obtain ⟨D₁, x₁, rv⟩ := h₁
  refine wpAny_mono (atru_sound ht (.ext x₁) rv) (fun b s₂ h₂ => ?_) fun _ _ x => x
  obtain ⟨rfl, x₂⟩ := h₂
  exact ⟨rfl, D₁, x₁.trans S.glob x₂⟩
theorem SEv.subB {v i : Expr} {p : Pos} {a k d : AV} (h1 : SBo W lv sc σ v a) (h2 : SEv W lv sc σ i k) (h : asub a k = some d) (hi : isSlice i = false) : SEv W lv sc σ (.Subscript v i p) d := .mk fun {A env wr D₀ s₀ D s oa} R hsc S => by
  refine Subscript_ (wpAny_mono (h1.run R hsc S) (fun va s₁ h₁ => ?_) fun _ _ x => x)
  obtain ⟨D₁, x₁, ra⟩ := h₁
  refine wpAny_mono (h2.run R hsc (S.step x₁)) (fun vb s₂ h₂ => ?_) fun _ _ x => x
  obtain ⟨D₂, x₂, rb⟩ := h₂
  refine wpAny_mono (asub_sound h (.ext x₂) (ra.ext x₂ x₁.glob) rb hi) (fun v s₃ h₃ => ?_) fun _ _ x => x
  obtain ⟨D₃, x₃, rv⟩ := h₃
  exact ⟨D₃, (x₁.trans S.glob x₂).trans S.glob x₃, rv⟩
theorem SEv.sub {v i : Expr} {p : Pos} {a k d : AV} (h1 : SEv W lv sc σ v a) (h2 : SEv W lv sc σ i k) (h : asub a k = some d) (hi : isSlice i = false) : SEv W lv sc σ (.Subscript v i p) d := .subB h1.bor h2 h hi
theorem SEv.slice (HE : EvalOk W C lv n) {v : Expr} {lo hi st : Option Expr} {p p' : Pos} {a d : AV} {l h t : Option Int} (h1 : SBo W lv sc σ v a) (hl : apart (aeval C n sc σ) lo = some l) (hh : apart (aeval C n sc σ) hi = some h) (ht : apart (aeval C n sc σ) st = some t)
    (hd : aslice a l h t = some d) : SEv W lv sc σ (.Subscript v (.Slice lo hi st p') p) d := .mk fun {A env wr D₀ s₀ D s oa} R hsc S => by
  refine Subscript_ (wpAny_mono (h1.run R hsc S) (fun va s₁ h₁ => ?_) fun _ _ x => x)
  obtain ⟨D₁, x₁, ra⟩ := h₁
  have S₁ := S.step x₁
  refine wpAny_Slice (wpAny_mono (part_sound HE R hl hsc S₁) (fun vl s₂ h₂ => ?_) fun _ _ x => x)
  obtain ⟨D₂, x₂, pl⟩ := h₂
  have S₂ := S₁.step x₂
  refine wpAny_mono (part_sound HE R hh hsc S₂) (fun vu s₃ h₃ => ?_) fun _ _ x => x
  obtain ⟨D₃, x₃, pu⟩ := h₃
  have S₃ := S₂.step x₃
  refine wpAny_mono (part_sound HE R ht hsc S₃) (fun vs s₄ h₄ => ?_) fun _ _ x => x
  obtain ⟨D₄, x₄, ps⟩ := h₄
  have S₄ := S₃.step x₄
  have x₅ := S₄.ok.push ({ cls := .type "slice", data := .fields #[vl, vu, vs] } : Obj) s₄.toks
  have x := (((x₂.trans S₁.glob x₃).trans S₁.glob x₄).trans S₁.glob x₅)
  refine wpAny_mono (slice_sound (k := 0) (slice := .Slice lo hi st p') hd (.ext x) (ra.ext x S₁.glob) (Heap.get?_push_size _ rfl) pl pu ps (fun o i => slice_ops o i)) (fun v s₆ h₆ => ?_) fun _ _ x => x
  exact h₆.elim fun D₆ q => ⟨D₆, (x₁.trans S.glob x).trans S.glob q.1, q.2⟩
/-! ## arguments, calls -/
inductive SArgs (W : Wd) (lv : Nat) (sc : NS) (σ : Sg) : List Expr → List AV → Prop
  | nil : SArgs W lv sc σ [] []
  | cons {e : Expr} {d : AV} {es : List Expr} {ds : List AV} : plainArg e = true → SEv W lv sc σ e d → SArgs W lv sc σ es ds → SArgs W lv sc σ (e :: es) (d :: ds)
theorem SArgs.of (HE : EvalOk W C lv n) {es : List Expr} : ∀ {ds : List AV}, allPlain es = true → omap (aeval C n sc σ) es = some ds → SArgs W lv sc σ es ds := by
  induction es with
  | nil => intro ds _ h; cases h; exact .nil
  | cons e es ih =>
    intro ds ha h
    obtain ⟨b, bs, h1, h2, rfl⟩ := omap_cons h
    have ha' : (plainArg e && allPlain es) = true := ha
    rw [Bool.and_eq_true] at ha'
    exact .cons ha'.1 (HE.sev h1) (ih ha'.2 h2)
theorem SArgs.plain {es : List Expr} {ds : List AV} (h : SArgs W lv sc σ es ds) : allPlain es = true := by
  induction h with
  | nil => rfl
  | @cons e d es ds h1 _ _ ih => show (plainArg e && allPlain es) = true; rw [h1, ih]; rfl
theorem SArgs.len {es : List Expr} {ds : List AV} (h : SArgs W lv sc σ es ds) : ds.length = es.length := by
  induction h with
  | nil => rfl
  | cons _ _ _ ih => exact congrArg Nat.succ ih
theorem SArgs.run {es : List Expr} {ds : List AV} {pos : Pos} (h : SArgs W lv sc σ es ds) (R : Room A lv) (hsc : env.scope.names = sc) : ∀ {D : Fz} {s : Shared}, St W env wr D₀ s₀ σ D s oa →
    wpAny W.M A (spliced (backTo pos (starEach es env))) (fun vs s' => ∃ D', Ext W D D' s s' ∧ RepL W.P D' ds vs) NoE s := by
  induction h with
  | nil => intro D s S; exact wpAny_pure ⟨D, S.ok.refl, .nil⟩
  | cons hp he _ ih =>
    intro D s S
    rw [starEach_plain hp, backTo_cons]
    refine Calls.spliced_cons (wpAny_mono (he.run R hsc S) (fun v s₁ h₁ => ?_) fun _ _ x => x)
    obtain ⟨D₁, x₁, r₁⟩ := h₁
    refine wpAny_mono (ih (S.step x₁)) (fun vs s₂ h₂ => ?_) fun _ _ x => x
    obtain ⟨D₂, x₂, r₂⟩ := h₂
    exact ⟨D₂, x₁.trans S.glob x₂, .cons (r₁.mono x₂.le) r₂⟩
/-- what is new to a later state is new to the first -/
theorem Ext.back (x : Ext W D D' s s') {a : Addr} (hn : s'.heap.get? a = none) : s.heap.get? a = none := by
  cases q : s.heap.get? a with
  | none => rfl
  | some o' =>
    by_cases hT : a ∈ W.T
    · obtain ⟨_, _, h1, _⟩ := W.tab _ a x.glob hT
      rw [hn] at h1; cases h1
    · rw [x.keep a o' hT q] at hn; cases hn
theorem list_sound (R : Room A lv) {es : List Expr} {ds : List AV} {pos : Pos} (ha : SArgs W lv sc σ es ds) (hl : es.length ≤ 1000) (hsc : env.scope.names = sc) (S : St W env wr D₀ s₀ σ D s oa) :
    EvO W A D (eval (.List es pos) env) (.list ds) s := by
  refine wpAny_List (wpAny_mono (ha.run R hsc S) (fun vs s₁ h₁ => ?_) fun _ _ x => x)
  obtain ⟨D₁, x, r⟩ := h₁
  have e := r.length
  have e2 := ha.len
  have ok : Ok W D₁ s₁ := .ext x
  refine ⟨by rw [sizeLine_eq]; omega, D₁, _, _, rfl, x.trans S.glob (ok.push _ _), Heap.get?_push_size _ rfl, ⟨vs, 0, rfl, r⟩, x.back (get_size _), ok.none_size⟩
theorem SEv.tuple {es : List Expr} {ds : List AV} {k : Nat} {p : Pos} (ha : SArgs W lv sc σ es ds) (hl : es.length ≤ 1000) : SEv W lv sc σ (.Tuple es k p) (.tuple ds) := .mk fun {A env wr D₀ s₀ D s oa} R hsc S => by
  refine wpAny_Tuple (wpAny_mono (ha.run R hsc S) (fun vs s₁ h₁ => ?_) fun _ _ x => x)
  obtain ⟨D₁, x, r⟩ := h₁
  have e := r.length
  have e2 := ha.len
  have ok : Ok W D₁ s₁ := .ext x
  refine ⟨by rw [sizeLine_eq]; omega, _, x.trans S.glob (ok.pushF (tObj vs 0) _ rfl), .tuple_ (addF_self ..) (repL_mono (addF_le ok.none_size) r)⟩
theorem dict0_sound {pos : Pos} (S : St W env wr D₀ s₀ σ D s oa) : EvO W A D (eval (.Dict [] [] pos) env) (.dict []) s :=
  wpAny_Dict_empty ⟨D, _, _, rfl, S.ok.push _ _, Heap.get?_push_size _ rfl, ⟨[], 0, rfl, .nil, List.nodup_nil⟩, get_size _, S.ok.none_size⟩
theorem dict1_sound (F : W.Firm) (R : Room A lv) {k v : Expr} {x : Str} {d : AV} {pos : Pos} (hk : SEv W lv sc σ k (.str x)) (hv : SEv W lv sc σ v d) (hsc : env.scope.names = sc) (S : St W env wr D₀ s₀ σ D s oa) :
    EvO W A D (eval (.Dict [some k] [v] pos) env) (.dict [(x, d)]) s := by
  refine wpAny_Dict_any rfl rfl (by simp) (by simp) ?_
  have x0 := S.ok.push ({ cls := .type "dict", data := .dict #[] } : Obj) s.toks
  have S0 := S.step x0
  show wpAny _ _ (do
    let kv ← eval k env
    let vv ← holding [kv] (do let x ← eval v env; standAt pos; pure x)
    return (kv, vv) :: (← holding [kv, vv] (pure []))) _ _ _
  refine wpAny_bind (wpAny_mono (hk.run R hsc S0) (fun kv s₁ h₁ => ?_) fun _ _ x => x)
  obtain ⟨D₁, x₁, rk⟩ := h₁
  obtain ⟨t, rfl⟩ := rk.str'
  refine wpAny_bind (wpAny_holding (wpAny_bind (wpAny_mono (hv.run R hsc (S0.step x₁)) (fun vv s₂ h₂ => ?_) fun _ _ x => x)))
  obtain ⟨D₂, x₂, rv⟩ := h₂
  refine wpAny_bind (wpAny_standAt (wpAny_pure (wpAny_bind (wpAny_holding (wpAny_pure (wpAny_pure ?_))))))
  unfold storeAll
  rw [List.forIn_cons]
  have x02 := (x0.trans S.glob x₁).trans S.glob x₂
  have h0 : ({ s with heap := s.heap.push { cls := .type "dict", data := .dict #[] } } : Shared).heap.get? s.heap.objs.size = some (dObj [] 0) := Heap.get?_push_size _ rfl
  have hT : s.heap.objs.size ∉ W.T := W.notT0 S.glob (get_size _)
  have h2 := x₂.keep _ _ hT (x₁.keep _ _ hT h0)
  have hD2 := x₂.none_of (x₁.none_of S.ok.none_size h0) (x₁.keep _ _ hT h0)
  refine wpAny_bind (wpAny_bind ?_)
  refine wpAny_dictSet_pairs (knd := kd W) (k := x) (kvs := zipV [] []) (by simp [PySem.strKind, Value.isStrOf]) (dictOf_rep (D := D₂) (kvs := []) (es := []) h2 .nil List.nodup_nil) (fun h' hd' hs => ?_) (by simp [zipV])
  obtain ⟨es', k', hg, r'⟩ := repE_of_dictOf hd' (stored_pairs (P := W.P) (D := D₂) (kvs := []) (es := []) .nil List.nodup_nil rv)
  refine wpAny_pure ?_
  dsimp only
  rw [List.forIn_nil]
  refine wpAny_pure ?_
  refine ⟨D₂, _, _, rfl, ?_, hg, ⟨es', k', rfl, r', by simp⟩, get_size _, hD2⟩
  have hne : ∀ b o, s.heap.get? b = some o → b ≠ s.heap.objs.size := fun b o e => Nat.ne_of_lt (Heap.lt_size e)
  refine ⟨x02.gens, x02.drawn, x02.os, fun b o hb e => (hs.2 b (hne b o e)).trans (x02.keep b o hb e), x02.le, fun b o e => (hs.2 b (by rintro rfl; rw [hD2] at e; cases e)).trans (x02.fz b o e), x02.new, ?_⟩
  exact F.poke S.glob x02.glob x02.keep (get_size _) (fun o' e => by rw [h2] at e; cases e; exact .of_data nofun) hs
theorem async_of {g : Comprehension} {gs : List Comprehension} {β : Type} {emitA : Sg → Option β} {rs : List β} {scope : Scope} (h : acomp (aeval C n) (atest C n) (aiter C n) sc σ scope (g :: gs) emitA = some rs) : (g.is_async != 0) = false := by
  have hs := (Bool.and_eq_true _ _ ▸ (ite_some h).1 : _ ∧ _).2
  have := List.all_eq_true.mp hs g List.mem_cons_self
  simpa [bne] using this
theorem listcomp_sound (F : W.Firm) (HE : EvalOk W C lv n) (HT : TestOk W C lv n) (HI : IterOk W C lv n) (R : Room A lv) {elt : Expr} {gens : List Comprehension} {scope : Scope} {pos : Pos} {rs : List AV}
    (h : acomp (aeval C n) (atest C n) (aiter C n) sc σ scope gens (fun σ₁ => aeval C n (relNames scope sc) σ₁ elt) = some rs) (hsc : env.scope.names = sc) (S : St W env wr D₀ s₀ σ D s oa) :
    EvO W A D (eval (.ListComp elt gens scope pos) env) (.list rs) s := by
  subst hsc
  cases gens with
  | nil => cases h
  | cons g gs =>
    have ha := async_of h
    have e : eval (.ListComp elt (g :: gs) scope pos) env = comprehension (.ListComp elt (g :: gs) scope pos) scope env (firstIterPos (g :: gs) pos) (newList []) false (eval g.iter env) none := by
      rw [eval_ListComp]
      obtain ⟨t, i, f, a⟩ := g
      dsimp only at ha
      show comprehension _ _ _ _ _ (a != 0) _ = _
      rw [ha]; rfl
    unfold EvO
    rw [e]
    refine comp_enter F HT HI R S (o0 := lObj [] 0) (H := HL W) (emit := fun ac cenv => emitL elt (.ref ac) cenv) (fun s Q hQ => wpAny_newObj_type hQ) rfl (fun D => ⟨[], 0, rfl, .nil⟩) (fun hs ac cenv => cmp_list hs) (fun ac cenv hc => acc_list F HE R hc) rfl h ?_
    intro ac L s' D' o' x hac hH hD hn hns hDL hL hne
    obtain ⟨m, hm⟩ := hns
    refine ⟨m, hm, fun h' hs' => ?_⟩
    obtain ⟨vs, k, rfl, r⟩ := hH
    refine ⟨D', ac, _, rfl, ?_, (hs'.2 ac hne).trans hac, ⟨vs, k, rfl, r⟩, hn, hD⟩
    exact ext_poke (tk := s'.toks) x S.glob hs' hDL hL (F.poke S.glob x.glob x.keep hL (NC.ns hm) hs')
theorem dictcomp_sound (F : W.Firm) (HE : EvalOk W C lv n) (HT : TestOk W C lv n) (HI : IterOk W C lv n) (R : Room A lv) {ke ve : Expr} {gens : List Comprehension} {scope : Scope} {pos : Pos} {rs : List (Str × AV)}
    (h : acomp (aeval C n) (atest C n) (aiter C n) sc σ scope gens (fun σ₁ => apair (aeval C n (relNames scope sc) σ₁ ke) (aeval C n (relNames scope sc) σ₁ ve)) = some rs) (hsc : env.scope.names = sc) (S : St W env wr D₀ s₀ σ D s oa) :
    EvO W A D (eval (.DictComp ke ve gens scope pos) env) (.dict (dputs [] rs)) s := by
  subst hsc
  cases gens with
  | nil => cases h
  | cons g gs =>
    have ha := async_of h
    have e : eval (.DictComp ke ve (g :: gs) scope pos) env = comprehension (.DictComp ke ve (g :: gs) scope pos) scope env (firstIterPos (g :: gs) pos) newDict false (eval g.iter env) none := by
      rw [arm_eval_DictComp]
      obtain ⟨t, i, f, a⟩ := g
      dsimp only at ha
      show comprehension _ _ _ _ _ (a != 0) _ = _
      rw [ha]; rfl
    unfold EvO
    rw [e]
    refine comp_enter F HT HI R S (o0 := dObj [] 0) (H := HD W) (emit := fun ac cenv => emitD ke ve ac cenv) (fun s Q hQ => wpAny_newObj_type hQ) rfl (fun D => ⟨⟨[], 0, rfl, .nil⟩, List.nodup_nil, Nat.le_refl _⟩) (fun hs ac cenv => cmp_dict hs) (fun ac cenv hc => acc_dict F HE R hc) rfl h ?_
    intro ac L s' D' o' x hac hH hD hn hns hDL hL hne
    obtain ⟨m, hm⟩ := hns
    refine ⟨m, hm, fun h' hs' => ?_⟩
    obtain ⟨⟨vs, k, rfl, r⟩, hnd, _⟩ := hH
    refine ⟨D', ac, _, rfl, ?_, (hs'.2 ac hne).trans hac, ⟨vs, k, rfl, r, hnd⟩, hn, hD⟩
    exact ext_poke (tk := s'.toks) x S.glob hs' hDL hL (F.poke S.glob x.glob x.keep hL (NC.ns hm) hs')
/-- a global name's call -/
theorem callee_w {f : Str} {p pos : Pos} {es : List Expr} {fv : Value} {Q : Value → Shared → Prop} (S : St W env wr D₀ s₀ σ D s oa) (hk : sc.lookup f = some .globalImplicit) (hn : (f == ("__debug__" : Str)) = false) (hsc : env.scope.names = sc) (hv : (W.mg f).or (W.mb f) = some fv)
    (h : wpAny W.M A (callWith pos fv [] (backTo pos (starEach es env)) []) Q NoE s) : wpAny W.M A (eval (.Call (.Name f p) es [] pos) env) Q NoE s :=
  wpAny_Call_NameR (wpAny_Name (wp_global S.kind S.glo S.bui (by rw [show env.kindOf f = env.scope.names.lookup f from rfl, hsc]; exact hk) S.glob hv h) hn)
theorem glob_of (h : acall C sc f ds = some d) : sc.lookup f = some .globalImplicit ∧ okName f = true := by
  have := (ite_some h).1
  rw [Bool.and_eq_true] at this
  exact ⟨by simpa using this.1, this.2⟩
/-- a built-in called with one thing that it looks into -/
theorem SBo.call {f : Str} {b : String} {e : Expr} {a d : AV} {p pos : Pos} (h : SBo W lv sc σ e a) (hp : plainArg e = true) (hk : sc.lookup f = some .globalImplicit) (hn : (f == ("__debug__" : Str)) = false) (hv : (W.mg f).or (W.mb f) = some (.builtin b))
    (H : ∀ A D s va, Room A lv → Ok W D s → Bor W.P D s.heap a va → Ev W A D (call (.builtin b) [va]) d s) : SEv W lv sc σ (.Call (.Name f p) [e] [] pos) d := .mk fun {A env wr D₀ s₀ D s oa} R hsc S => by
  have ha : allPlain [e] = true := by show (plainArg e && true) = true; rw [hp]; rfl
  refine callee_w S hk hn hsc hv (Calls.callWith_builtin (plain_any ha) (evalArgs_w ha ?_))
  rw [starEach_plain hp, backTo_cons]
  refine Calls.spliced_cons (wpAny_mono (h.run R hsc S) (fun v s₁ h₁ => Calls.spliced_nil ?_) fun _ _ x => x)
  obtain ⟨D₁, x₁, rv⟩ := h₁
  exact wpAny_mono (H A D₁ s₁ v R (.ext x₁) rv) (fun _ _ h₂ => h₂.elim fun D₂ q => ⟨D₂, x₁.trans S.glob q.1, q.2⟩) fun _ _ x => x
theorem SEv.lenB (Gd : Good W C lv) {e : Expr} {p pos : Pos} {a d : AV} (h : SBo W lv sc σ e a) (hp : plainArg e = true) (hl : alen a = some d) (hk : List.lookup ("len" : Str) sc = some .globalImplicit) :
    SEv W lv sc σ (.Call (.Name "len" p) [e] [] pos) d := h.call hp hk rfl Gd.blen fun _ _ _ _ _ o r => len_sound o r hl
theorem SEv.sumB (Gd : Good W C lv) {e : Expr} {p pos : Pos} {a d : AV} (h : SBo W lv sc σ e a) (hp : plainArg e = true) (hl : asumv a = some d) (hk : List.lookup ("sum" : Str) sc = some .globalImplicit) :
    SEv W lv sc σ (.Call (.Name "sum" p) [e] [] pos) d := h.call hp hk rfl Gd.bsum fun _ _ _ _ R o r => sum_sound o R r hl
/-- a call of a def of the text -/
theorem SEv.call (Gd : Good W C lv) {f : Str} {p pos : Pos} {es : List Expr} {ds : List AV} {d : AV} (ha : SArgs W lv sc σ es ds) (h : C.Φ f ds = some d) (hk : sc.lookup f = some .globalImplicit) (hn : okName f = true) : SEv W lv sc σ (.Call (.Name f p) es [] pos) d := .mk fun {A env wr D₀ s₀ D s oa} R hsc S => by
  obtain ⟨a, o, fd, g1, g2, g3, g4⟩ := Gd.fns f ds d h
  refine callee_w S hk (okName_spec hn).1 hsc (fv := .ref a) (by rw [g1]; rfl) ?_
  refine Calls.callWith_function (o := o) (fd := fd) (evalArgs_w ha.plain (wpAny_mono (ha.run R hsc S) (fun vs s₁ h₁ => ?_) fun _ _ x => x))
  obtain ⟨D₁, x, r⟩ := h₁
  exact ⟨⟨g3 _ x.glob, g2⟩, wpAny_mono (g4 A D₁ s₁ vs R (.ext x) (S.nt.ext S.glob x) r) (fun _ _ h₂ => h₂.elim fun D₂ q => ⟨D₂, x.trans S.glob q.1, q.2⟩) fun _ _ x => x⟩
theorem SEv.divm (Gd : Good W C lv) {e e' : Expr} {p pos : Pos} {a b d : AV} (ha : SArgs W lv sc σ [e, e'] [a, b]) (h : adivm a b = some d) (hk : List.lookup ("divmod" : Str) sc = some .globalImplicit) : SEv W lv sc σ (.Call (.Name "divmod" p) [e, e'] [] pos) d := .mk fun {A env wr D₀ s₀ D s oa} R hsc S => by
  refine callee_w S hk rfl hsc Gd.bdivmod (Calls.callWith_builtin (plain_any ha.plain) (evalArgs_w ha.plain (wpAny_mono (ha.run R hsc S) (fun vs s₁ h₁ => ?_) fun _ _ x => x)))
  obtain ⟨D₁, x, r⟩ := h₁
  cases r with | cons r1 r => cases r with | cons r2 r =>
    cases r
    exact wpAny_mono (divmod_sound (.ext x) r1 r2 h) (fun _ _ h₂ => h₂.elim fun D₂ q => ⟨D₂, x.trans S.glob q.1, q.2⟩) fun _ _ x => x
theorem acall_ne (h : acall C sc f ds = some d) (hf : (f == ("len" : Str) || f == ("sum" : Str)) = false) : (if f == ("divmod" : Str) then (a2 ds).bind fun p => adivm p.1 p.2 else C.Φ f ds) = some d := by
  rw [Bool.or_eq_false_iff] at hf
  have h := (ite_some h).2
  rw [hf.1, if_neg Bool.false_ne_true, hf.2, if_neg Bool.false_ne_true] at h
  exact h
theorem SEv.acall (Gd : Good W C lv) {es : List Expr} {p pos : Pos} (ha : SArgs W lv sc σ es ds) (h : acall C sc f ds = some d) (hf : (f == ("len" : Str) || f == ("sum" : Str)) = false) : SEv W lv sc σ (.Call (.Name f p) es [] pos) d := by
  obtain ⟨hk, hn⟩ := glob_of h
  replace h := acall_ne h hf
  by_cases hd : (f == ("divmod" : Str)) = true
  · rw [if_pos hd] at h
    cases eq_of_beq hd
    obtain ⟨⟨a, b⟩, h1, h⟩ := bind_some h
    cases a2_ h1
    cases ha with | cons p1 e1 ha => cases ha with | cons p2 e2 ha =>
      cases ha
      exact .divm Gd (.cons p1 e1 (.cons p2 e2 .nil)) h hk
  · rw [if_neg hd] at h
    exact .call Gd ha h hk hn
theorem SEv.acallB (Gd : Good W C lv) {e : Expr} {a : AV} {p pos : Pos} (ha : SBo W lv sc σ e a) (hp : plainArg e = true) (h : Mine.acall C sc f [a] = some d) (hf : (f == ("len" : Str) || f == ("sum" : Str)) = true) : SEv W lv sc σ (.Call (.Name f p) [e] [] pos) d := by
  have hk := (glob_of h).1
  have h2 := (ite_some h).2
  by_cases hl : (f == ("len" : Str)) = true
  · rw [if_pos hl] at h2
    cases eq_of_beq hl
    exact .lenB Gd ha hp h2 hk
  · rw [if_neg hl] at h2
    rw [Bool.eq_false_iff.mpr hl, Bool.false_or] at hf
    rw [if_pos hf] at h2
    cases eq_of_beq hf
    exact .sumB Gd ha hp h2 hk
theorem SEv.meth (Gd : Good W C lv) {o : Expr} {m : Str} {apos pos : Pos} {es : List Expr} {od : AV} {ds : List AV} {d : AV} (hb : plainBase o = true) (hl : es.length ≤ 20) (hline : (apos.endLine == pos.line) = true)
    (h0 : SBo W lv sc σ o od) (h1 : SArgs W lv sc σ es ds) (h : ameth m od ds = some d) : SEv W lv sc σ (.Call (.Attribute o m apos) es [] pos) d := .mk fun {A env wr D₀ s₀ D s oa} R hsc S => by
  refine method_w hb h1.plain hl hline (wpAny_mono (h0.run R hsc S) (fun ov s₁ h₁ => ?_) fun _ _ x => x)
  obtain ⟨D₁, x₁, ro⟩ := h₁
  obtain ⟨T, id, t1, t2, t3, t4, t5, t6⟩ := meth_sound (.ext x₁) ro h
  refine ⟨T, id, t1, t2, t3, t4, t5, wpAny_mono (h1.run R hsc (S.step x₁)) (fun vs s₂ h₂ => ?_) fun _ _ x => x⟩
  obtain ⟨D₂, x₂, r⟩ := h₂
  exact wpAny_mono (t6 A D₂ s₂ vs x₂ r) (fun _ _ h₃ => h₃.elim fun D₃ q => ⟨D₃, (x₁.trans S.glob x₂).trans S.glob q.1, q.2⟩) fun _ _ x => x
theorem SEv.inst (Gd : Good W C lv) {p pt pos : Pos} {e : Expr} {i : Int} (hp : plainArg e = true) (hf : List.lookup ("isinstance" : Str) sc = some .globalImplicit) (ht : List.lookup ("tuple" : Str) sc = some .globalImplicit) (he : SEv W lv sc σ e (.int i)) :
    SEv W lv sc σ (.Call (.Name "isinstance" p) [e, .Name "tuple" pt] [] pos) (.bool false) := .mk fun {A env wr D₀ s₀ D s oa} R hsc S => by
  have ha : allPlain [e, Expr.Name "tuple" pt] = true := by show (plainArg e && true) = true; rw [hp]; rfl
  refine callee_w S hf rfl hsc Gd.bisi (Calls.callWith_builtin (plain_any ha) (evalArgs_w ha ?_))
  rw [starEach_plain hp, backTo_cons]
  refine Calls.spliced_cons (wpAny_mono (he.run R hsc S) (fun v s₁ h₁ => ?_) fun _ _ x => x)
  obtain ⟨D₁, x₁, rv⟩ := h₁
  obtain ⟨u, rfl⟩ := rv.int'
  have S₁ := S.step x₁
  refine Calls.spliced_cons (wpAny_Name (wp_global S₁.kind S₁.glo S₁.bui (by rw [show env.kindOf _ = env.scope.names.lookup _ from rfl, hsc]; exact ht) S₁.glob Gd.btup ?_) rfl)
  exact Calls.spliced_nil (IsiPair.int_tuple ⟨D₁, x₁.trans S.glob ((Ok.ext x₁).tok _), .bool _⟩)
end
end Mine
set_option maxRecDepth 10000
set_option linter.unusedVariables false
namespace Mine
open PySem PyProof.Rows
section
variable {W : Wd} {C : Cfg} {lv n : Nat} {A : Around} {env : Env} {wr : List Str} {D₀ D D' : Fz} {s₀ s s' : Shared} {σ σ' : Sg} {oa : Str → Addr} {sc : NS} {d : AV}
theorem cmps_of (Gd : Good W C lv) (HE : EvalOk W C lv n) {l : Expr} {ops : List CmpOp} {rs : List Expr} {c : Bool} (h : acmps C (aeval C n sc σ) sc σ l ops rs = some c) : ∃ op r a b, ops = [op] ∧ rs = [r] ∧ SEv W lv sc σ l a ∧ SBo W lv sc σ r b ∧ acmp op a b = some c ∧ isSet r = false := by
  obtain ⟨op, h1, h⟩ := bind_some h
  obtain ⟨r, h2, h⟩ := bind_some h
  by_cases hs : isSet r = true
  · cases (if_pos hs).symm.trans h
  replace h := (if_neg hs).symm.trans h
  obtain ⟨a, h3, h⟩ := bind_some h
  obtain ⟨b, h4, h⟩ := bind_some h
  exact ⟨op, r, a, b, a1_ h1, a1_ h2, HE.sev h3, HE.sbo Gd h4, h, Bool.eq_false_iff.mpr hs⟩
theorem con_of {c : Const} {k : Nat} {p : Pos} (h : acon c = some d) : SEv W lv sc σ (.Constant c k p) d := .mk fun {A env wr D₀ s₀ D s oa} R hsc S => by
  cases c <;> cases h
  · exact wpAny_Constant_none ⟨D, S.ok.refl, .none⟩
  · exact wpAny_Constant_bool ⟨D, S.ok.refl, .bool _⟩
  · exact wpAny_Constant_int ⟨D, S.ok.tok _, .int _ _⟩
  · exact wpAny_Constant_str ⟨D, S.ok.tok _, .str _ _⟩
theorem binop_of (Gd : Good W C lv) (HE : EvalOk W C lv n) {l r : Expr} {op : Operator} {p : Pos} (h : abinop C op (aeval C n sc σ l) (aeval C n sc σ r) = some d) : SEv W lv sc σ (.BinOp l op r p) d := by
  obtain ⟨a, h1, h⟩ := bind_some h
  obtain ⟨b, h2, h3⟩ := bind_some h
  by_cases hp : isPct op a = true
  · rw [if_pos hp] at h3
    cases eq_of_beq (Bool.and_eq_true _ _ ▸ hp : _ ∧ _).1
    exact (HE.sev h1).op (HE.sev h2) (Gd.pct _ _ _ h3)
  · rw [if_neg hp] at h3
    exact (HE.sev h1).bin (HE.sev h2) h3
theorem args_of {es : List Expr} {α : Type} {x : Option α} {b : α} (h : (if (allPlain es && decide (es.length ≤ 1000)) = true then x else none) = some b) : allPlain es = true ∧ es.length ≤ 1000 ∧ x = some b := by
  obtain ⟨h1, h2⟩ := ite_some h
  rw [Bool.and_eq_true, decide_eq_true_eq] at h1
  exact ⟨h1.1, h1.2, h2⟩
theorem dict_of (Gd : Good W C lv) (HE : EvalOk W C lv n) {ks : List (Option Expr)} {vs : List Expr} {p : Pos} (h : adict (aeval C n sc σ) ks vs = some d) : SEv W lv sc σ (.Dict ks vs p) d := by
  cases ks with
  | nil =>
    obtain ⟨h1, h⟩ := ite_some h
    cases List.isEmpty_iff.mp h1
    cases h
    exact .mk fun R hsc S => (dict0_sound S).ev S.ok
  | cons k ks =>
    obtain ⟨h1, h⟩ := ite_some h
    cases List.isEmpty_iff.mp h1
    obtain ⟨k, rfl, h⟩ := bind_some h
    obtain ⟨v, h2, h⟩ := bind_some h
    obtain ⟨p, h3, rfl⟩ := map_some h
    obtain ⟨x, h4, h3⟩ := bind_some h3
    obtain ⟨e, h5, rfl⟩ := map_some h3
    obtain ⟨y, h4, h6⟩ := bind_some h4
    cases astr_ h6
    cases a1_ h2
    exact .mk fun R hsc S => (dict1_sound Gd.firm R (HE.sev h4) (HE.sev h5) hsc S).ev S.ok
theorem subs_of (Gd : Good W C lv) (HE : EvalOk W C lv n) {v i : Expr} {p : Pos} (h : asubs C (aeval C n sc σ) sc σ v i = some d) : SEv W lv sc σ (.Subscript v i p) d := by
  obtain ⟨a, h1, h⟩ := bind_some h
  have hv := HE.sbo Gd h1
  cases q : sliceOf i with
  | some p =>
    rw [q] at h
    obtain ⟨p', rfl⟩ := sliceOf_ q
    obtain ⟨lo, h2, h⟩ := bind_some h
    obtain ⟨hi, h3, h⟩ := bind_some h
    obtain ⟨st, h4, h⟩ := bind_some h
    exact .slice HE hv h2 h3 h4 h
  | none =>
    rw [q] at h
    obtain ⟨b, h2, h⟩ := bind_some h
    exact .subB hv (HE.sev h2) h (by unfold isSlice; rw [q]; rfl)
theorem callN_of (Gd : Good W C lv) (HE : EvalOk W C lv n) {f : Str} {as : List Expr} {p pos : Pos} (h : acallN C (aeval C n sc σ) sc σ f as = some d) : SEv W lv sc σ (.Call (.Name f p) as [] pos) d := by
  by_cases hi : isInst sc f as = true
  · replace h := (if_pos hi).symm.trans h
    obtain ⟨e, h1, h⟩ := bind_some h
    obtain ⟨k, h2, rfl⟩ := map_some h
    obtain ⟨v, h2, h3⟩ := bind_some h2
    cases aint_ h3
    unfold isInst at hi
    cases q : a2 as with
    | none => rw [q] at hi; cases hi
    | some q' =>
      rw [q] at hi
      obtain ⟨e', t⟩ := q'
      cases q2 : isName t with
      | none => dsimp only at hi; rw [q2] at hi; cases hi
      | some t' =>
        dsimp only at hi
        rw [q2] at hi
        simp only [Bool.and_eq_true, beq_iff_eq] at hi
        cases a2_ q
        obtain ⟨pt, rfl⟩ := isName_ q2
        cases h1
        obtain ⟨⟨hp, rfl, hf⟩, rfl, ht⟩ := hi
        exact .inst Gd hp hf ht (HE.sev h2)
  replace h := (if_neg hi).symm.trans h
  by_cases hf : (f == ("len" : Str) || f == ("sum" : Str)) = true
  · rw [if_pos hf] at h
    obtain ⟨e, h1, h⟩ := bind_some h
    obtain ⟨hp, h⟩ := ite_some h
    obtain ⟨a, h2, h3⟩ := bind_some h
    cases a1_ h1
    exact .acallB Gd (HE.sbo Gd h2) hp h3 hf
  · rw [if_neg hf] at h
    obtain ⟨ha, h⟩ := ite_some h
    obtain ⟨ds, h1, h⟩ := bind_some h
    exact .acall Gd (.of HE ha h1) h (Bool.eq_false_iff.mpr hf)
theorem callA_of (Gd : Good W C lv) (HE : EvalOk W C lv n) {o : Expr} {m : Str} {apos pos : Pos} {as : List Expr} (h : acallA C (aeval C n sc σ) sc σ o m apos as pos = some d) : SEv W lv sc σ (.Call (.Attribute o m apos) as [] pos) d := by
  obtain ⟨hc, h⟩ := ite_some h
  simp only [Bool.and_eq_true, decide_eq_true_eq] at hc
  obtain ⟨od, h1, h⟩ := bind_some h
  obtain ⟨ds, h2, h⟩ := bind_some h
  exact .meth Gd hc.1 hc.2.1.2 hc.2.2 (HE.sbo Gd h1) (.of HE hc.2.1.1 h2) h
theorem eval_step (Gd : Good W C lv) (HE : EvalOk W C lv n) (HT : TestOk W C lv n) (HI : IterOk W C lv n) {e : Expr} (h : aeval C (n + 1) sc σ e = some d) : SEv W lv sc σ e d := by
  cases e with
  | Constant c k p => exact con_of h
  | Name x p => exact .mk fun R hsc S => name_sound Gd h hsc S
  | BinOp l op r p => exact binop_of Gd HE h
  | UnaryOp op x p =>
    obtain ⟨a, h1, h⟩ := bind_some h
    exact .un (HE.sev h1) h
  | IfExp t b o p =>
    obtain ⟨c, h1, h⟩ := bind_some h
    exact .ife (HT.ste h1) (fun hc => HE.sev ((if_pos hc).symm.trans h)) fun hc => HE.sev ((if_neg (by rw [hc]; nofun)).symm.trans h)
  | Compare l ops rs p =>
    obtain ⟨c, h1, rfl⟩ := map_some h
    obtain ⟨op, r, a, b, rfl, rfl, h2, h3, h4, h5⟩ := cmps_of Gd HE h1
    exact .cmpB h2 h3 h4 h5
  | Tuple es k p =>
    obtain ⟨h1, h2, h3⟩ := args_of h
    obtain ⟨ds, h4, rfl⟩ := map_some h3
    exact .tuple (.of HE h1 h4) h2
  | List es p =>
    obtain ⟨h1, h2, h3⟩ := args_of h
    obtain ⟨ds, h4, rfl⟩ := map_some h3
    exact .mk fun R hsc S => (list_sound R (.of HE h1 h4) h2 hsc S).ev S.ok
  | Dict ks vs p => exact dict_of Gd HE h
  | Subscript v i p => exact subs_of Gd HE h
  | Call f as kws p =>
    obtain ⟨h1, h2⟩ := ite_some h
    cases List.isEmpty_iff.mp h1
    cases q : isName f with
    | some x =>
      rw [q] at h2
      obtain ⟨fp, rfl⟩ := isName_ q
      exact callN_of Gd HE h2
    | none =>
      rw [q] at h2
      obtain ⟨a, h3, h4⟩ := bind_some h2
      cases attrOf_ h3
      exact callA_of Gd HE h4
  | ListComp elt gens scope p =>
    obtain ⟨rs, hrs, rfl⟩ := map_some h
    exact .mk fun R hsc S => (listcomp_sound Gd.firm HE HT HI R hrs hsc S).ev S.ok
  | DictComp ke ve gens scope p =>
    obtain ⟨rs, hrs, rfl⟩ := map_some h
    exact .mk fun R hsc S => (dictcomp_sound Gd.firm HE HT HI R hrs hsc S).ev S.ok
  | _ => cases h
theorem test_plain (HE : EvalOk W C lv n) {e : Expr} {r : Bool} (h : (aeval C n sc σ e).bind atru = some r) (hp : plainTest e = true) : STe W lv sc σ e r := by
  obtain ⟨d, h1, h⟩ := bind_some h
  exact .val (HE.sev h1) h hp
theorem test_step (Gd : Good W C lv) (HE : EvalOk W C lv n) (HT : TestOk W C lv n) {e : Expr} {r : Bool} (h : atest C (n + 1) sc σ e = some r) : STe W lv sc σ e r := by
  cases e with
  | UnaryOp op x p =>
    by_cases ho : (op == .Not) = true
    · replace h := (if_pos ho).symm.trans h
      cases eq_of_beq ho
      obtain ⟨c, h1, rfl⟩ := map_some h
      exact .not (HT.ste h1)
    · exact test_plain HE ((if_neg ho).symm.trans h) (by show (!(op == .Not)) = true; rw [Bool.eq_false_iff.mpr ho]; rfl)
  | BoolOp op vs p =>
    obtain ⟨⟨x, y⟩, h1, h⟩ := bind_some h
    obtain ⟨c, h2, h⟩ := bind_some h
    cases a2_ h1
    cases op with
    | And =>
      cases c with
      | true => exact (STe.and (HT.ste h2) fun _ => HT.ste h : STe W lv sc σ _ (true && r))
      | false => cases h; exact (STe.and (d := true) (HT.ste h2) nofun : STe W lv sc σ _ (false && true))
    | Or =>
      cases c with
      | false => exact (STe.or (HT.ste h2) fun _ => HT.ste h : STe W lv sc σ _ (false || r))
      | true => cases h; exact (STe.or (d := true) (HT.ste h2) nofun : STe W lv sc σ _ (true || true))
  | IfExp t b o p => cases h
  | Compare l ops rs p =>
    obtain ⟨op, r', a, b, rfl, rfl, h2, h3, h4, h5⟩ := cmps_of Gd HE h
    exact .cmpB h2 h3 h4 h5
  | _ => exact test_plain HE h rfl
end
end Mine
set_option maxRecDepth 10000
set_option linter.unusedVariables false
namespace Mine
open PySem PyProof.Rows
/-- what is run through -/
structure SIt (W : Wd) (lv : Nat) (sc : NS) (σ : Sg) (tgt e : Expr) (items : List AV) : Prop where
  run : ∀ {A : Around} {env : Env} {wr : List Str} {D₀ : Fz} {s₀ : Shared} {D : Fz} {s : Shared} {oa : Str → Addr}, Room A lv → env.scope.names = sc → St W env wr D₀ s₀ σ D s oa →
    (∀ x, foldedSetIterable e env x = pure x) ∧ wpAny W.M A (eval e env) (fun x s₁ => wpAny W.M A (pyIter x) (fun it s₂ => NewIt W A D s tgt items it s₂) NoE s₁) NoE s
section
variable {W : Wd} {C : Cfg} {lv n : Nat} {A : Around} {env : Env} {wr : List Str} {D₀ D D' : Fz} {s₀ s s' : Shared} {σ σ' : Sg} {oa : Str → Addr} {sc : NS}
theorem NewIt.after (x : Ext W D D' s s') (hG : W.G s.heap) {tgt : Expr} {items : List AV} {it : Value} {s₂ : Shared} (h : NewIt W A D' s' tgt items it s₂) : NewIt W A D s tgt items it s₂ := by
  obtain ⟨D'', I, ms, fp, TT, X, e, x', iT, hx, hTT, hms⟩ := h
  exact ⟨D'', I, ms, fp, TT, X, e, x.trans hG x', iT, hx, hTT, fun b hb => ⟨x.back (hms b hb).1, (hms b hb).2⟩⟩
theorem iter_list (R : Room A lv) {l : List AV} {v : Value} {tgt : Expr} (ok : Ok W D s) (r : Rep W.P D (.list l) v) : wpAny W.M A (pyIter v) (fun it s₂ => NewIt W A D s tgt l it s₂) NoE s := by
  obtain ⟨a, vs, k, rfl, h1, r1⟩ := r.list'
  have g1 := ok.fz _ _ h1
  have hne : a ≠ s.heap.objs.size := Nat.ne_of_lt (Heap.lt_size g1)
  refine wpAny_pyIter_list ⟨_, g1, rfl, _, rfl⟩ ⟨D, s.heap.objs.size, _, _, _, _, rfl, ok.push _ _, It.list R.handled h1 r1 hne, ⟨⟨_, Heap.get?_push_size _ rfl, rfl, rfl⟩, ⟨_, Heap.get?_push_of_some _ g1, rfl, _, rfl⟩⟩, nofun, fun b hb => ?_⟩
  rw [List.mem_singleton.mp hb]
  exact ⟨get_size _, ok.none_size⟩
theorem iter_range (R : Room A lv) {a b : Int} {t u v : Tok} {rg : Addr} {tgt : Expr} (ok : Ok W D s) (ha : -1000000 ≤ a ∧ a ≤ 1000000) (hb : -1000000 ≤ b ∧ b ≤ 1000000) (hr : IsRange s.heap rg a b 1 t u v) :
    wpAny W.M A (pyIter (.ref rg)) (fun it s₂ => NewIt W A D s tgt (rangeList a b) it s₂) NoE s := by
  have hsz : Builtin.Range.rangeSize a b 1 = ((b - a).toNat : Int) := by rw [rangeSize_one]; split <;> omega
  refine wpAny_pyIter_range hr (small_one (by omega) (by omega) (by omega) (by omega)) ⟨D, s.heap.objs.size, _, _, _, _, rfl, ok.push _ _, It.range R.handled, ?_, nofun, fun b hb => ?_⟩
  · show IsRangeIter _ _ (a + ((0 : Nat) : Int) * 1) (((b - a).toNat : Int) - ((0 : Nat) : Int)) 1
    have e1 : (a + ((0 : Nat) : Int) * 1) = a := by simp
    have e2 : (((b - a).toNat : Int) - ((0 : Nat) : Int)) = Builtin.Range.rangeSize a b 1 := by rw [hsz]; simp
    rw [e1, e2]
    exact Heap.get?_push_size _ rfl
  · rw [List.mem_singleton.mp hb]
    exact ⟨get_size _, ok.none_size⟩
theorem SIt.list {tgt e : Expr} {l : List AV} (h : SEv W lv sc σ e (.list l)) (hs : isSet e = false) : SIt W lv sc σ tgt e l := .mk fun {A env wr D₀ s₀ D s oa} R hsc S => by
  refine ⟨fun x => ?_, wpAny_mono (h.run R hsc S) (fun v s₁ h₁ => ?_) fun _ _ x => x⟩
  · cases e <;> first | rfl | cases hs
  · obtain ⟨D₁, x₁, rv⟩ := h₁
    exact wpAny_mono (iter_list R (.ext x₁) rv) (fun it s₂ h₂ => NewIt.after x₁ S.glob h₂) fun _ _ x => x
/-- a type's call over which a loop runs -/
theorem SIt.call {f : Str} {T : String} {tgt : Expr} {p pos : Pos} {es : List Expr} {ds : List AV} {items : List AV} (ha : SArgs W lv sc σ es ds) (hk : sc.lookup f = some .globalImplicit) (hn : (f == ("__debug__" : Str)) = false) (hv : (W.mg f).or (W.mb f) = some (.type T))
    (H : ∀ A D s vs, Room A lv → Ok W D s → RepL W.P D ds vs → wpAny W.M A (PySem.call (.type T) vs) (fun x s₁ => wpAny W.M A (pyIter x) (fun it s₂ => NewIt W A D s tgt items it s₂) NoE s₁) NoE s) : SIt W lv sc σ tgt (.Call (.Name f p) es [] pos) items := .mk fun {A env wr D₀ s₀ D s oa} R hsc S => by
  refine ⟨fun x => rfl, callee_w S hk hn hsc hv (PyProof.Rows.callWith_type (plain_any ha.plain) (evalArgs_w ha.plain (wpAny_mono (ha.run R hsc S) (fun vs s₁ h₁ => ?_) fun _ _ x => x)))⟩
  obtain ⟨D₁, x₁, r⟩ := h₁
  exact wpAny_mono (H A D₁ s₁ vs R (.ext x₁) r) (fun _ _ h₂ => wpAny_mono h₂ (fun it s₃ h₃ => NewIt.after x₁ S.glob h₃) fun _ _ x => x) fun _ _ x => x
theorem SIt.range1 (Gd : Good W C lv) {tgt e : Expr} {p pos : Pos} {b : Int} (h1 : SEv W lv sc σ e (.int b)) (p1 : plainArg e = true) (hb : -1000000 ≤ b ∧ b ≤ 1000000)
    (hk : List.lookup ("range" : Str) sc = some .globalImplicit) : SIt W lv sc σ tgt (.Call (.Name "range" p) [e] [] pos) (rangeList 0 b) := .call (.cons p1 h1 .nil) hk rfl Gd.brange fun A D s vs R ok r => by
  cases r with | cons r1 r =>
    cases r
    obtain ⟨t, rfl⟩ := r1.int'
    have x₂ := ok.push ({ cls := .type "range", data := .fields #[.int 0 s.toks, .int b t, .int 1 (s.toks + 1)] } : Obj) (s.toks + 1 + 1)
    exact call_range_1 (wpAny_mono (iter_range R (.ext x₂) ⟨by omega, by omega⟩ hb (IsRange.new ..)) (fun it s₃ h₃ => NewIt.after x₂ ok.glob h₃) fun _ _ x => x)
theorem SIt.range2 (Gd : Good W C lv) {tgt e1 e2 : Expr} {p pos : Pos} {a b : Int} (h1 : SEv W lv sc σ e1 (.int a)) (h2 : SEv W lv sc σ e2 (.int b)) (p1 : plainArg e1 = true) (p2 : plainArg e2 = true) (ha : -1000000 ≤ a ∧ a ≤ 1000000) (hb : -1000000 ≤ b ∧ b ≤ 1000000)
    (hk : List.lookup ("range" : Str) sc = some .globalImplicit) : SIt W lv sc σ tgt (.Call (.Name "range" p) [e1, e2] [] pos) (rangeList a b) := .call (.cons p1 h1 (.cons p2 h2 .nil)) hk rfl Gd.brange fun A D s vs R ok r => by
  cases r with | cons r1 r => cases r with | cons r2 r =>
    cases r
    obtain ⟨t, rfl⟩ := r1.int'
    obtain ⟨u, rfl⟩ := r2.int'
    have x₂ := ok.push ({ cls := .type "range", data := .fields #[.int a t, .int b u, .int 1 s.toks] } : Obj) (s.toks + 1)
    exact call_range_2 (wpAny_mono (iter_range R (.ext x₂) ha hb (IsRange.new ..)) (fun it s₃ h₃ => NewIt.after x₂ ok.glob h₃) fun _ _ x => x)
theorem no_from {b : Addr} (hb : s.heap.objs.size ≤ b) : s.heap.get? b = none := by
  cases q : s.heap.get? b with
  | none => rfl
  | some o => exact absurd (Heap.lt_size q) (Nat.not_lt.mpr hb)
theorem SIt.enum (Gd : Good W C lv) {tgt e : Expr} {p pos : Pos} {l : List AV} (h1 : SEv W lv sc σ e (.list l)) (p1 : plainArg e = true) (ht : isTup tgt = true)
    (hk : List.lookup ("enumerate" : Str) sc = some .globalImplicit) : SIt W lv sc σ tgt (.Call (.Name "enumerate" p) [e] [] pos) (enumFrom 0 l) := .call (.cons p1 h1 .nil) hk rfl Gd.benum fun A D s vs R ok r => by
  cases r with | cons r1 r =>
    cases r
    obtain ⟨a, vs, k, rfl, g1, rl⟩ := r1.list'
    have g2 := ok.fz _ _ g1
    have hlt := Heap.lt_size g2
    refine call_enumerate_list ⟨_, g2, rfl, _, rfl⟩ fun h' q1 q2 q3 q4 => ?_
    have iT := It.enum (A := A) (W := W) (e := s.heap.objs.size + 1) (it := s.heap.objs.size) R.handled g1 rl (Nat.ne_of_lt (Nat.lt_succ_of_lt hlt)) (Nat.ne_of_lt hlt) (Nat.ne_of_gt (Nat.lt_succ_self _))
    have x₂ : Ext W D D s { s with heap := h' } := .of_keeps ok.glob ok.fz rfl rfl rfl q4
    have hx0 : ∃ old, IsEnum h' (s.heap.objs.size + 1) s.heap.objs.size ((0 : Nat) : Int) old ∧ h'.IsListIter s.heap.objs.size a 0 ∧ h'.IsList a vs.toArray := ⟨.none, q1, q2, ⟨_, q4 _ _ g2, rfl, _, rfl⟩⟩
    refine iT.self 0 _ _ hx0 ⟨D, _, _, _, true, _, rfl, x₂, iT, hx0, fun _ => ht, fun b hb => ?_⟩
    have hb' : s.heap.objs.size ≤ b := by
      rcases List.mem_cons.mp hb with rfl | hb
      · exact Nat.le_succ _
      · rw [List.mem_singleton.mp hb]; exact Nat.le_refl _
    exact ⟨no_from hb', ok.none_of (no_from hb')⟩
theorem SIt.rev (Gd : Good W C lv) {tgt e : Expr} {p pos : Pos} {l : List AV} (h1 : SEv W lv sc σ e (.list l)) (p1 : plainArg e = true)
    (hk : List.lookup ("reversed" : Str) sc = some .globalImplicit) : SIt W lv sc σ tgt (.Call (.Name "reversed" p) [e] [] pos) l.reverse := .call (.cons p1 h1 .nil) hk rfl Gd.brev fun A D s vs R ok r => by
  cases r with | cons r1 r =>
    cases r
    obtain ⟨a, vs, k, rfl, g1, rl⟩ := r1.list'
    have g2 := ok.fz _ _ g1
    have hne : a ≠ s.heap.objs.size := Nat.ne_of_lt (Heap.lt_size g2)
    refine call_reversed_list ⟨_, g2, rfl, _, rfl⟩ ?_
    have iT := It.rev (A := A) (W := W) (I := s.heap.objs.size) R.handled g1 rl hne
    have x₂ := ok.push (revObj a ((vs.toArray.size : Int) - 1)) s.toks
    have hx0 : (fun (i : Nat) (h : Heap) => i ≤ vs.toArray.size ∧ h.IsRevIter s.heap.objs.size a ((vs.toArray.size : Int) - 1 - (i : Int)) ∧ h.IsList a vs.toArray) 0 (s.heap.push (revObj a ((vs.toArray.size : Int) - 1))) :=
      ⟨Nat.zero_le _, ⟨_, Heap.get?_push_size _ rfl, rfl, by simp [revObj]⟩, ⟨_, Heap.get?_push_of_some _ g2, rfl, _, rfl⟩⟩
    refine iT.self 0 _ _ hx0 ⟨D, _, _, _, false, _, rfl, x₂, iT, hx0, nofun, fun b hb => ?_⟩
    rw [List.mem_singleton.mp hb]
    exact ⟨get_size _, ok.none_size⟩
theorem SIt.dict {tgt o : Expr} {m : Str} {apos pos : Pos} {l : List (Str × AV)} {items : List AV} {id : String} (hb : plainBase o = true) (hline : (apos.endLine == pos.line) = true) (he : SEv W lv sc σ o (.dict l)) (hs : Slot "dict" m id) (ht : typeOf (.builtin id) = pure (.type "method_descriptor"))
    (H : ∀ A D s a es k, Room A lv → Ok W D s → D a = some (dObj es k) → RepE W.P D l es → a ≠ sysModules → (l.map (·.1)).Nodup → wpAny W.M A (PySem.call (.builtin id) [.ref a]) (fun x s₁ => wpAny W.M A (pyIter x) (fun it s₂ => NewIt W A D s tgt items it s₂) NoE s₁) NoE s) :
    SIt W lv sc σ tgt (.Call (.Attribute o m apos) [] [] pos) items := .mk fun {A env wr D₀ s₀ D s oa} R hsc S => by
  refine ⟨fun x => rfl, method_w hb rfl (by simp) hline (wpAny_mono (he.run R hsc S) (fun ov s₁ h₁ => ?_) fun _ _ x => x)⟩
  obtain ⟨D₁, x₁, r⟩ := h₁
  obtain ⟨a, es, k, rfl, g1, rl, hsys, hnd⟩ := r.dict'
  have g2 := x₁.fz _ _ g1
  refine ⟨"dict", id, F.plainAttrs_dict, hs, ht, ⟨_, g2, rfl⟩, fun b e => by cases e; exact ⟨_, g2, rfl⟩, wpAny_pure ?_⟩
  exact wpAny_mono (H A D₁ s₁ a es k R (.ext x₁) g1 rl hsys hnd) (fun _ _ h₂ => wpAny_mono h₂ (fun it s₃ h₃ => NewIt.after x₁ S.glob h₃) fun _ _ x => x) fun _ _ x => x
theorem SIt.items {tgt o : Expr} {apos pos : Pos} {l : List (Str × AV)} (hb : plainBase o = true) (hline : (apos.endLine == pos.line) = true) (he : SEv W lv sc σ o (.dict l)) (htup : isTup tgt = true) :
    SIt W lv sc σ tgt (.Call (.Attribute o "items" apos) [] [] pos) (l.map fun p => .tuple [.str p.1, p.2]) := .dict hb hline he F.slot_dict_items F.type_dict_items fun A D s a es k R ok g1 rl hsys hnd => by
  have g2 := ok.fz _ _ g1
  refine call_meetsIn F.slot_dict_items ⟨_, g2, rfl⟩ F.entry_dict_items (F.args_dict_items_1 _) (meets_dict_items (kd W) a (by simpa using hsys)) ⟨⟨_, dictOf_rep g2 rl hnd⟩, ?_⟩
  have x₂ := ok.push ({ cls := .type "dict_items", data := .fields #[.ref a] } : Obj) s.toks
  have ok₂ : Ok W D _ := .ext x₂
  have g3 := ok₂.fz _ _ g1
  have hne : a ≠ (s.heap.push ({ cls := .type "dict_items", data := .fields #[.ref a] } : Obj)).objs.size := Nat.ne_of_lt (Heap.lt_size g3)
  refine wpAny_pyIter_items (knd := kd W) (d := a) (kvs := zipV l es) (ep := k) ⟨_, Heap.get?_push_size _ rfl, rfl, rfl⟩ (dictAt_rep g3 rl hnd) ?_
  have x₃ := ok₂.push ({ cls := .type "dict_itemiterator", data := .fields #[.none, .bool false, .ref a, .int 0 0, .int (zipV l es).length 0, .int k 0, .none, .none] } : Obj) s.toks
  have iT := It.items (A := A) (W := W) (I := (s.heap.push ({ cls := .type "dict_items", data := .fields #[.ref a] } : Obj)).objs.size) R.handled g1 rl hne
  refine ⟨D, _, _, _, true, _, rfl, x₂.trans ok.glob x₃, iT, ⟨⟨.none, .none, Heap.get?_push_size _ rfl⟩, dictAt_rep (Heap.get?_push_of_some _ g3) rl hnd⟩, fun _ => htup, fun b hb => ?_⟩
  rw [List.mem_singleton.mp hb]
  exact ⟨x₂.back (get_size _), ok₂.none_size⟩
theorem SIt.values {tgt o : Expr} {apos pos : Pos} {l : List (Str × AV)} (hb : plainBase o = true) (hline : (apos.endLine == pos.line) = true) (he : SEv W lv sc σ o (.dict l)) :
    SIt W lv sc σ tgt (.Call (.Attribute o "values" apos) [] [] pos) (l.map (·.2)) := .dict hb hline he F.slot_dict_values F.type_dict_values fun A D s a es k R ok g1 rl hsys hnd => by
  have g2 := ok.fz _ _ g1
  refine call_meetsIn F.slot_dict_values ⟨_, g2, rfl⟩ F.entry_dict_values (F.args_dict_values_1 _) (meets_dict_values (kd W) a (by simpa using hsys)) ⟨⟨_, dictOf_rep g2 rl hnd⟩, ?_⟩
  have x₂ := ok.push ({ cls := .type "dict_values", data := .fields #[.ref a] } : Obj) s.toks
  have ok₂ : Ok W D _ := .ext x₂
  have g3 := ok₂.fz _ _ g1
  have hne : a ≠ (s.heap.push ({ cls := .type "dict_values", data := .fields #[.ref a] } : Obj)).objs.size := Nat.ne_of_lt (Heap.lt_size g3)
  refine wpAny_pyIter_values (knd := kd W) (d := a) (kvs := zipV l es) (ep := k) ⟨_, Heap.get?_push_size _ rfl, rfl, rfl⟩ (dictAt_rep g3 rl hnd) ?_
  have x₃ := ok₂.push ({ cls := .type "dict_valueiterator", data := .fields #[.ref a, .int 0 0, .int (zipV l es).length 0, .int k 0] } : Obj) s.toks
  have iT := It.values (A := A) (W := W) (I := (s.heap.push ({ cls := .type "dict_values", data := .fields #[.ref a] } : Obj)).objs.size) R.handled g1 rl hne
  refine ⟨D, _, _, _, false, _, rfl, x₂.trans ok.glob x₃, iT, ⟨⟨_, Heap.get?_push_size _ rfl, rfl, rfl⟩, dictAt_rep (Heap.get?_push_of_some _ g3) rl hnd⟩, nofun, fun b hb => ?_⟩
  rw [List.mem_singleton.mp hb]
  exact ⟨x₂.back (get_size _), ok₂.none_size⟩
theorem alist_ {o : Option AV} {l : List AV} (h : alist o = some l) : o = some (.list l) := by
  obtain ⟨m, h1, h⟩ := bind_some h
  obtain ⟨_, h2⟩ := ite_some h
  obtain ⟨d, h4, h3⟩ := bind_some h1
  cases h2
  rw [h4, alst_ h3]
theorem range_of (Gd : Good W C lv) (HE : EvalOk W C lv n) {as : List Expr} {tgt : Expr} {p pos : Pos} {items : List AV} (h : arange (aeval C n sc σ) as = some items) (hk : List.lookup ("range" : Str) sc = some .globalImplicit) : SIt W lv sc σ tgt (.Call (.Name "range" p) as [] pos) items := by
  unfold arange at h
  cases q : a1 as with
  | some e =>
    rw [q] at h
    obtain ⟨hp, h⟩ := ite_some h
    obtain ⟨d, h1, h⟩ := bind_some h
    obtain ⟨b, h2, h⟩ := bind_some h
    obtain ⟨hb, h⟩ := ite_some h
    cases h
    cases aint_ h2
    cases a1_ q
    exact .range1 Gd (HE.sev h1) hp hb hk
  | none =>
    rw [q] at h
    obtain ⟨⟨e, e'⟩, h0, h⟩ := bind_some h
    obtain ⟨hp, h⟩ := ite_some h
    obtain ⟨d, h1, h⟩ := bind_some h
    obtain ⟨a, h2, h⟩ := bind_some h
    obtain ⟨d', h3, h⟩ := bind_some h
    obtain ⟨b, h4, h⟩ := bind_some h
    obtain ⟨hb, h⟩ := ite_some h
    cases h
    cases aint_ h2
    cases aint_ h4
    cases a2_ h0
    rw [Bool.and_eq_true] at hp
    exact .range2 Gd (HE.sev h1) (HE.sev h3) hp.1 hp.2 hb.1 hb.2 hk
theorem iter_name (Gd : Good W C lv) (HE : EvalOk W C lv n) {f : Str} {p pos : Pos} {as : List Expr} {tgt : Expr} {items : List AV}
    (h : aiterN (aeval C n sc σ) sc tgt f as = some items) : SIt W lv sc σ tgt (.Call (.Name f p) as [] pos) items := by
  obtain ⟨hk, h⟩ := ite_some h
  replace hk : sc.lookup f = some .globalImplicit := by simpa using hk
  by_cases hf : (f == ("range" : Str)) = true
  · cases eq_of_beq hf
    exact range_of Gd HE ((if_pos hf).symm.trans h) hk
  replace h := (if_neg hf).symm.trans h
  obtain ⟨e, h1, h⟩ := bind_some h
  obtain ⟨hp, h⟩ := ite_some h
  obtain ⟨l, h2, h3⟩ := bind_some h
  obtain ⟨v, h2, h4⟩ := bind_some h2
  replace h3 := (ite_some h3).2
  clear h
  cases a1_ h1
  cases alst_ h4
  have he := HE.sev h2
  by_cases hf : (f == ("enumerate" : Str) && isTup tgt) = true
  · cases (if_pos hf).symm.trans h3
    rw [Bool.and_eq_true] at hf
    cases eq_of_beq hf.1
    exact .enum Gd he hp hf.2 hk
  · obtain ⟨hf, h⟩ := ite_some ((if_neg hf).symm.trans h3)
    cases h
    clear h3
    cases eq_of_beq hf
    exact .rev Gd he hp hk
theorem iter_attr (HE : EvalOk W C lv n) {o : Expr} {m : Str} {apos pos : Pos} {tgt : Expr} {items : List AV} (h : aiterA (aeval C n sc σ) tgt o m apos pos = some items) : SIt W lv sc σ tgt (.Call (.Attribute o m apos) [] [] pos) items := by
  obtain ⟨hc, h⟩ := ite_some h
  rw [Bool.and_eq_true] at hc
  obtain ⟨l, h1, h⟩ := bind_some h
  obtain ⟨d, h1, h2⟩ := bind_some h1
  obtain ⟨_, h⟩ := ite_some h
  cases adic_ h2
  by_cases hm : (m == ("items" : Str) && isTup tgt) = true
  · cases (if_pos hm).symm.trans h
    rw [Bool.and_eq_true] at hm
    cases eq_of_beq hm.1
    exact .items hc.1 hc.2 (HE.sev h1) hm.2
  · obtain ⟨hf, h⟩ := ite_some ((if_neg hm).symm.trans h)
    cases h
    cases eq_of_beq hf
    exact .values hc.1 hc.2 (HE.sev h1)
theorem iter_step (Gd : Good W C lv) (HE : EvalOk W C lv n) {tgt e : Expr} {items : List AV} (h : aiter C (n + 1) sc σ tgt e = some items) : SIt W lv sc σ tgt e items := by
  replace h : (match callOf e with
    | some c => if c.2.2.1.isEmpty then (match isName c.1 with
      | some f => aiterN (aeval C n sc σ) sc tgt f c.2.1
      | none => (attrOf c.1).bind fun a => if c.2.1.isEmpty then aiterA (aeval C n sc σ) tgt a.1 a.2.1 a.2.2 c.2.2.2 else none) else none
    | none => if isSet e then none else alist (aeval C n sc σ e)) = some items := h
  cases q : callOf e with
  | none =>
    rw [q] at h
    by_cases hs : isSet e = true
    · cases (if_pos hs).symm.trans h
    · exact .list (HE.sev (alist_ ((if_neg hs).symm.trans h))) (Bool.eq_false_iff.mpr hs)
  | some c =>
    rw [q] at h
    obtain ⟨f, as, kws, p⟩ := c
    cases callOf_ q
    clear q
    obtain ⟨h1, h2⟩ := ite_some h
    clear h
    cases List.isEmpty_iff.mp h1
    cases q : isName f with
    | some x =>
      dsimp only at h2
      rw [q] at h2
      obtain ⟨fp, rfl⟩ := isName_ q
      exact iter_name Gd HE h2
    | none =>
      dsimp only at h2
      rw [q] at h2
      obtain ⟨a, h3, h2⟩ := bind_some h2
      obtain ⟨h4, h2⟩ := ite_some h2
      cases List.isEmpty_iff.mp h4
      cases attrOf_ h3
      exact iter_attr HE h2
theorem all_ok (Gd : Good W C lv) : ∀ n, EvalOk W C lv n ∧ TestOk W C lv n ∧ IterOk W C lv n := by
  intro n
  induction n with
  | zero => refine ⟨fun _ _ _ _ h => ?_, fun _ _ _ _ h => ?_, fun _ _ _ _ _ h => ?_⟩ <;> cases h
  | succ n ih => exact ⟨fun _ _ _ _ h => (eval_step Gd ih.1 ih.2.1 ih.2.2 h).run, fun _ _ _ _ h => (test_step Gd ih.1 ih.2.1 h).run, fun _ _ _ _ _ h => (iter_step Gd ih.1 h).run⟩
theorem SEv.of (Gd : Good W C lv) (n : Nat) {e : Expr} {d : AV} (h : aeval C n sc σ e = some d) : SEv W lv sc σ e d := (all_ok Gd n).1.sev h
theorem STe.of (Gd : Good W C lv) (n : Nat) {e : Expr} {b : Bool} (h : atest C n sc σ e = some b) : STe W lv sc σ e b := (all_ok Gd n).2.1.ste h
theorem SIt.of (Gd : Good W C lv) (n : Nat) {tgt e : Expr} {items : List AV} (h : aiter C n sc σ tgt e = some items) : SIt W lv sc σ tgt e items := .mk fun R hsc S => (all_ok Gd n).2.2 _ _ _ _ _ h R hsc S
theorem SEv.name (Gd : Good W C lv) {x : Str} {p : Pos} {d : AV} (h : aname C sc σ x = some d) : SEv W lv sc σ (.Name x p) d := .mk fun R hsc S => name_sound Gd h hsc S
theorem seqIndex_nat {k len : Nat} (h : k < len) : seqIndex? (k : Int) len = some k := by
  unfold seqIndex?
  rw [if_neg (Int.not_lt.mpr (Int.natCast_nonneg k))]
  exact if_pos (by rw [decide_eq_true (Int.natCast_nonneg k), decide_eq_true (Int.ofNat_lt.mpr h)]; rfl)
theorem asub_nat {l : List AV} {k : Nat} {d : AV} (h : l[k]? = some d) (hl : l.length ≤ 1000) : asub (.list l) (.int k) = some d := by
  show (if l.length ≤ 1000 then aidx l k else none) = some d
  rw [if_pos hl]
  unfold aidx
  rw [seqIndex_nat (List.getElem?_eq_some_iff.mp h).1]
  exact h
theorem SEv.len (Gd : Good W C lv) {e : Expr} {p pos : Pos} {l : List AV} (h : SEv W lv sc σ e (.list l)) (hp : plainArg e = true) (hl : l.length ≤ 1000000) (hk : List.lookup ("len" : Str) sc = some .globalImplicit) :
    SEv W lv sc σ (.Call (.Name "len" p) [e] [] pos) (.int l.length) := .lenB Gd h.bor hp (if_pos hl) hk
end
end Mine
set_option maxRecDepth 10000
set_option linter.unusedVariables false
namespace Mine
open PySem PyProof.Rows
/-- how a piece of a def's body may end -/
noncomputable def Post (W : Wd) (env : Env) (wr : List Str) (D₀ : Fz) (s₀ : Shared) (N : Sg → Prop) (Rt : AV → Prop) (fl : Flow) (s' : Shared) : Prop :=
  (fl = .next ∧ ∃ σ' D' oa', N σ' ∧ St W env wr D₀ s₀ σ' D' s' oa') ∨ (∃ v d D', fl = .ret v ∧ Rt d ∧ Ext W D₀ D' s₀ s' ∧ Rep W.P D' d v)
structure Tri (W : Wd) (lv : Nat) (sc : NS) (wr : List Str) (m : Env → Sem Flow) (σ : Sg) (N : Sg → Prop) (Rt : AV → Prop) : Prop where
  run : ∀ {A : Around} {env : Env} {D₀ : Fz} {s₀ : Shared} {D : Fz} {s : Shared} {oa : Str → Addr}, Room A lv → env.scope.names = sc → St W env wr D₀ s₀ σ D s oa →
    wpAny W.M A (m env) (Post W env wr D₀ s₀ N Rt) NoE s
section
variable {W : Wd} {C : Cfg} {lv n : Nat} {A : Around} {env : Env} {wr : List Str} {D₀ D D' : Fz} {s₀ s s' : Shared} {σ σ' : Sg} {oa : Str → Addr} {sc : NS} {N N' : Sg → Prop} {Rt Rt' : AV → Prop} {m : Env → Sem Flow}
theorem Tri.freeze (xs : List Str) (h : Tri W lv sc wr m (frz xs σ) N Rt) : Tri W lv sc wr m σ N Rt := .mk fun R hsc S => by
  obtain ⟨D', le, S'⟩ := S.freeze xs
  exact h.run R hsc S'
theorem Tri.weaken (hw : ∀ x u, σ'.lookup x = some u → σ.lookup x = some u) (h : Tri W lv sc wr m σ' N Rt) : Tri W lv sc wr m σ N Rt := .mk fun R hsc S => h.run R hsc (S.weaken hw)
theorem Tri.nil (h : N σ) : Tri W lv sc wr (execs []) σ N Rt := .mk fun R hsc S => wpAny_execs_nil (.inl ⟨rfl, σ, _, _, h, S⟩)
theorem Tri.seq {st : Stmt} {rest : List Stmt} (h : Tri W lv sc wr (exec st) σ (fun σ₁ => Tri W lv sc wr (execs rest) σ₁ N Rt) Rt) : Tri W lv sc wr (execs (st :: rest)) σ N Rt := .mk fun {A env D₀ s₀ D s oa} R hsc S => by
  refine wpAny_execs_cons (wpAny_mono (h.run R hsc S) (fun fl s₁ h₁ => ?_) fun _ _ x => x)
  rcases h₁ with ⟨rfl, σ', D', oa', h2, h3⟩ | ⟨v, d, D', rfl, h2, h3, h4⟩
  · exact h2.run R hsc h3
  · exact .inr ⟨v, d, D', rfl, h2, h3, h4⟩
/-- a piece that goes on, in one known state -/
theorem Tri.go (h : Tri W lv sc wr m σ (fun σ₁ => σ₁ = σ') fun _ => False) (R : Room A lv) (hsc : env.scope.names = sc) (S : St W env wr D₀ s₀ σ D s oa) {Q : Flow → Shared → Prop} (k : ∀ s₁ D₁ oa₁, St W env wr D₀ s₀ σ' D₁ s₁ oa₁ → Q .next s₁) : wpAny W.M A (m env) Q NoE s :=
  wpAny_mono (h.run R hsc S) (fun _ s₁ h₁ => h₁.elim (fun q => q.1 ▸ q.2.elim fun _ q => q.elim fun D₁ q => q.elim fun oa₁ q => k s₁ D₁ oa₁ (q.1 ▸ q.2)) fun q => q.elim fun _ q => q.elim fun _ q => q.elim fun _ q => q.2.1.elim) fun _ _ x => x
noncomputable def notComp : Expr → Bool
  | .ListComp .. | .SetComp .. | .DictComp .. => false
  | _ => true
theorem swaps_plain {value : Expr} {t : Option Expr} {l : Nat} (h : notComp value = true) : swapsWith value t l env = pure false := by
  cases value <;> first | rfl | cases h
theorem Tri.assignS (F : W.Firm) {x : Str} {px pos : Pos} {e : Expr} {d : AV} (he : SEv W lv sc σ e d) (hx : wr.contains x = true) (hc : notComp e = true) (hN : N (put σ x (false, d))) :
    Tri W lv sc wr (exec (.Assign [.Name x px] e pos)) σ N Rt := .mk fun R hsc S => by
  refine wpAny_Assign_Name (wpAny_mono (he.run R hsc S) (fun v s₁ h₁ => ?_) fun _ _ x => x) (swaps_plain hc)
  obtain ⟨D₁, x₁, rv⟩ := h₁
  refine (S.step x₁).store F (by simpa using hx) (fun _ => rv) (fun h => by cases h) fun s' oa' S' _ => .inl ⟨rfl, _, _, _, hN, S'⟩
theorem Tri.assign (Gd : Good W C lv) {x : Str} {px pos : Pos} {e : Expr} {d : AV} (n : Nat) (he : aeval C n sc σ e = some d) (hx : wr.contains x = true) (hc : notComp e = true) (hN : N (put σ x (false, d))) :
    Tri W lv sc wr (exec (.Assign [.Name x px] e pos)) σ N Rt := .assignS Gd.firm (.of Gd n he) hx hc hN
/-- expressions that make a new object -/
noncomputable def afresh (C : Cfg) (n : Nat) (sc : NS) (σ : Sg) : Expr → Option AV
  | .List es _ => if allPlain es && decide (es.length ≤ 1000) then (omap (aeval C n sc σ) es).map .list else none
  | .Dict ks vs _ => if ks.isEmpty && vs.isEmpty then some (.dict []) else none
  | .BinOp l op r _ => if op == .Mult then (aeval C n sc σ l).bind fun a => (aeval C n sc σ r).bind fun b => arep a b else none
  | _ => none
theorem afresh_sound (Gd : Good W C lv) (R : Room A lv) {e : Expr} {d : AV} (h : afresh C n sc σ e = some d) (hsc : env.scope.names = sc) (S : St W env wr D₀ s₀ σ D s oa) : EvO W A D (eval e env) d s ∧ notComp e = true := by
  have HE := (all_ok Gd n).1
  unfold afresh at h
  split at h
  · obtain ⟨h1, h2, h3⟩ := args_of h
    obtain ⟨ds, hds, rfl⟩ := map_some h3
    exact ⟨list_sound R (.of HE h1 hds) h2 hsc S, rfl⟩
  · obtain ⟨hc, h⟩ := ite_some h
    rw [Bool.and_eq_true] at hc
    cases List.isEmpty_iff.mp hc.1
    cases List.isEmpty_iff.mp hc.2
    cases h
    exact ⟨dict0_sound S, rfl⟩
  · obtain ⟨hc, h⟩ := ite_some h
    cases eq_of_beq hc
    obtain ⟨a, hl, h⟩ := bind_some h
    obtain ⟨b, hr, h⟩ := bind_some h
    refine ⟨wpAny_BinOp (wpAny_mono (HE _ _ _ _ hl R hsc S) (fun va s₁ h₁ => ?_) fun _ _ x => x), rfl⟩
    obtain ⟨D₁, x₁, ra⟩ := h₁
    refine wpAny_mono (HE _ _ _ _ hr R hsc (S.step x₁)) (fun vb s₂ h₂ => ?_) fun _ _ x => x
    obtain ⟨D₂, x₂, rb⟩ := h₂
    refine wpAny_mono (mulList_sound h (.ext x₂) (ra.mono x₂.le) rb) (fun v s₃ h₃ => ?_) fun _ _ x => x
    obtain ⟨D₃, a, o, e, x₃, q1, q2, q3, q4⟩ := h₃
    have x12 := x₁.trans S.glob x₂
    exact ⟨D₃, a, o, e, x12.trans S.glob x₃, q1, q2, x12.back q3, q4⟩
  · cases h
/-- the new object goes to a name -/
theorem store_own (F : W.Firm) (S : St W env wr D₀ s₀ σ D s oa) {x : Str} {d : AV} {a : Addr} {o : Obj} (hx : x ∈ wr) (x₁ : Ext W D D' s s') (ho : s'.heap.get? a = some o) (hr : OwnRep W.P D' d o) (hn : s.heap.get? a = none) (hD : D' a = none)
    {Q : Unit → Shared → Prop} (hQ : ∀ s'' oa', St W env wr D₀ s₀ (put σ x (true, d)) D' s'' oa' → Q () s'') : wpAny W.M A (storeName env x (.ref a)) Q NoE s' := by
  refine (S.step x₁).store F (u := (true, d)) hx (fun h => by cases h) (fun _ => ⟨a, o, rfl, ho, hr, hD, S.none0 hn, ?_, fun y d' hy hyx e => ?_⟩) fun s'' oa' S' _ => hQ s'' oa' S'
  · rintro rfl
    obtain ⟨ol, hol⟩ := S.locAt
    rw [hol] at hn; cases hn
  · obtain ⟨_, ⟨oy, hoy, _⟩, _⟩ := S.own y d' hy
    rw [e, hn] at hoy; cases hoy
theorem Tri.assignO (Gd : Good W C lv) {x : Str} {px pos : Pos} {e : Expr} {d : AV} (n : Nat) (he : afresh C n sc σ e = some d) (hx : wr.contains x = true) (hN : N (put σ x (true, d))) :
    Tri W lv sc wr (exec (.Assign [.Name x px] e pos)) σ N Rt := .mk fun R hsc S => by
  obtain ⟨hE, hc⟩ := afresh_sound Gd R he hsc S
  refine wpAny_Assign_Name (wpAny_mono hE (fun v s₁ h₁ => ?_) fun _ _ x => x) (swaps_plain hc)
  obtain ⟨D₁, a, o, rfl, x₁, ho, hr, hn, hD⟩ := h₁
  exact store_own Gd.firm S (by simpa using hx) x₁ ho hr hn hD fun s'' oa' S' => .inl ⟨rfl, _, _, _, hN, S'⟩
/-- the new object goes to a name, as a frozen thing -/
theorem EvO.frozen {a : Addr} {o : Obj} {d : AV} (hG : W.G s.heap) (x : Ext W D D' s s') (ho : s'.heap.get? a = some o) (r : OwnRep W.P D' d o) (hn : s.heap.get? a = none) (hD : D' a = none) : Ext W D (addF D' a o) s s' ∧ Rep W.P (addF D' a o) d (.ref a) := by
  refine ⟨{ x with le := fun b o' e => addF_le hD _ _ (x.le _ _ e), fz := fun b o' e => ?_, new := fun b o' e => ?_ }, (r.mono (addF_le hD)).rep (addF_self ..) (W.notSys hG hn)⟩
  · by_cases hb : b = a
    · subst hb; rw [addF_self] at e; cases e; exact ho
    · rw [addF_ne hb] at e; exact x.fz _ _ e
  · by_cases hb : b = a
    · subst hb; exact .inr hn
    · rw [addF_ne hb] at e; exact x.new _ _ e
/-- the comprehension's value, stored before its variables go -/
theorem used_post (F : W.Firm) (S : St W env wr D₀ s₀ σ D s oa) {x : Str} {px : Pos} {d : AV} {ac L : Addr} {o : Obj} (b : Bool) (hx : x ∈ wr) (x₁ : Ext W D D' s s') (ho : s'.heap.get? ac = some o) (hr : OwnRep W.P D' d o) (hD : D' ac = none) (hn : s.heap.get? ac = none)
    (hns : ∃ m, s'.heap.Ns L m) (hDL : D' L = none) (hL : s.heap.get? L = none) (hne : ac ≠ L) (hN : N (put σ x (b, d))) :
    wpAny W.M A (PySem.assign (.Name x px) env (.ref ac)) (fun _ s'' => ∃ m, s''.heap.Ns L m ∧ ∀ h', Heap.SameBut L s''.heap h' → Post W env wr D₀ s₀ N Rt .next { s'' with heap := h' }) NoE s' := by
  obtain ⟨ol, hol⟩ := S.locAt
  have hLl : L ≠ env.locals := by rintro rfl; rw [hol] at hL; cases hL
  have hal : ac ≠ env.locals := by rintro rfl; rw [hol] at hn; cases hn
  obtain ⟨m, hm⟩ := hns
  obtain ⟨oL, es, ep, hoL, hdL, hrest⟩ := id hm
  have hLc : ∀ v, oL.data ≠ .cell v := fun v e => by rw [hdL] at e; cases e
  have hLT : L ∉ W.T := W.notT' x₁.glob hoL (fun vs e => by rw [hdL] at e; cases e)
  have own_ne : ∀ y d', σ.lookup y = some (true, d') → oa y ≠ L ∧ oa y ≠ ac := fun y d' hy => by
    obtain ⟨_, ⟨oy, hoy, _⟩, _⟩ := S.own y d' hy
    refine ⟨fun e => ?_, fun e => ?_⟩
    · rw [e, hL] at hoy; cases hoy
    · rw [e, hn] at hoy; cases hoy
  -- one road for both
  have key : ∀ D1, Ext W D D1 s s' → D1 L = none → (b = false → Rep W.P D1 d (.ref ac)) → (b = true → D1 ac = none ∧ OwnRep W.P D1 d o) →
      wpAny W.M A (PySem.assign (.Name x px) env (.ref ac)) (fun _ s'' => ∃ m, s''.heap.Ns L m ∧ ∀ h', Heap.SameBut L s''.heap h' → Post W env wr D₀ s₀ N Rt .next { s'' with heap := h' }) NoE s' := by
    intro D1 x1 hD1L hf hw
    have S1 := S.step x1
    obtain ⟨sb, Sb, k1, k2, k3, backE, back⟩ := S1.rebase F [ac] (fun b hb => by rw [List.mem_singleton.mp hb]; exact S.none0 hn) (fun b hb o' e => by rw [List.mem_singleton.mp hb, ho] at e; cases e; exact hr.nc)
    have hLm : ¬ Mut env wr σ oa L := by
      rintro (h | ⟨y, hy, hk, hcl⟩ | ⟨y, d', hy, e⟩)
      · exact hLl h
      · rcases S1.wrt y hy with h | ⟨_, c, v, h1, ⟨o', h2, h3⟩, _⟩
        · rw [hk] at h; cases h
        · rw [hcl] at h1; cases h1
          rw [hoL] at h2; cases h2
          exact hLc _ h3
      · exact (own_ne y d' hy).1 e
    have hsbL := k1 L oL hoL hLm (fun h => hne (List.mem_singleton.mp h).symm)
    refine wpAny_assign_Name (Sb.store F (u := (b, d)) hx hf (fun hb => ?_) fun s'' oa' S'' _ => ?_)
    · obtain ⟨q1, q2⟩ := hw hb
      exact ⟨ac, o, rfl, ho, q2, q1, k3 ac (List.mem_singleton.mpr rfl), hal, fun y d' hy _ => (own_ne y d' hy).2⟩
    · have hoL'' := S''.ext.keep L oL hLT hsbL
      refine ⟨m, ⟨oL, es, ep, hoL'', hdL, hrest⟩, fun h' hs' => .inl ⟨rfl, _, D1, oa', hN, ?_⟩⟩
      have Sf := back S''
      refine Sf.ep (EP.of_same (tk := s''.toks) F Sf.ok Sf.glob0 Sf.ext.keep (S.none0 hL) hD1L (fun o' e => by rw [hoL''] at e; cases e; exact .of_data (by rw [hdL]; nofun)) hs') (fun b hb => ?_) (fun b hb => ?_) (fun b hb v hv => ?_) fun b hb y d' hy e => ?_
      · rw [List.mem_singleton.mp hb]; exact S.none0 hL
      · rw [List.mem_singleton.mp hb]; exact hLl
      · rw [List.mem_singleton.mp hb] at hv
        obtain ⟨x, h4, h5⟩ := hv
        rw [hoL''] at h4; cases h4
        exact hLc _ h5
      · rw [List.mem_singleton.mp hb] at e
        have := (S''.own y d' hy).2.2.2.1
        rw [e, hsbL] at this; cases this
  cases b with
  | true => exact key D' x₁ hDL (fun h => by cases h) fun _ => ⟨hD, hr⟩
  | false =>
    obtain ⟨q1, q2⟩ := EvO.frozen S.glob x₁ ho hr hn hD
    exact key _ q1 (by rw [addF_ne (Ne.symm hne)]; exact hDL) (fun _ => q2) fun h => by cases h
theorem swaps_comp {value : Expr} {x : Str} {px : Pos} {l : Nat} (h : notComp value = false) : swapsWith value (some (.Name x px)) l env = pure true ∨ swapsWith value (some (.Name x px)) l env = pure false := by
  have : ∃ b : Bool, swapsWith value (some (.Name x px)) l env = pure b := by
    cases value <;> first | (cases h; done) | exact ⟨_, rfl⟩
  obtain ⟨b, hb⟩ := this
  cases b with
  | true => exact .inl hb
  | false => exact .inr hb
theorem Tri.assignL (Gd : Good W C lv) {x : Str} {px pos spos : Pos} {elt : Expr} {gens : List Comprehension} {scope : Scope} {rs : List AV} (b : Bool) (n : Nat)
    (he : acomp (aeval C n) (atest C n) (aiter C n) sc σ scope gens (fun σ₁ => aeval C n (relNames scope sc) σ₁ elt) = some rs) (hx : wr.contains x = true) (hN : N (put σ x (b, .list rs))) :
    Tri W lv sc wr (exec (.Assign [.Name x px] (.ListComp elt gens scope pos) spos)) σ N Rt := .mk fun {A env D₀ s₀ D s oa} R hsc S => by
  obtain ⟨HE, HT, HI⟩ := all_ok Gd n
  rcases swaps_comp (env := env) (value := .ListComp elt gens scope pos) (x := x) (px := px) (l := spos.line) rfl with hsw | hsw
  · cases gens with
    | nil => cases he
    | cons g gs =>
      have ha := async_of he
      rw [exec_Assign_Name_used _ _ _ _ hsw]
      refine wpAny_bind (wpAny_standAt (wpAny_bind ?_))
      have e : evalThenUse (.ListComp elt (g :: gs) scope pos) env (PySem.assign (.Name x px) env) = (do let _ ← comprehension (.ListComp elt (g :: gs) scope pos) scope env (firstIterPos (g :: gs) pos) (newList []) false (eval g.iter env) (some (PySem.assign (.Name x px) env))) := by
        obtain ⟨t, i, f, a⟩ := g
        dsimp only at ha
        show (do let _ ← comprehension _ _ _ _ _ (a != 0) _ _) = _
        rw [ha]; rfl
      rw [e]
      subst hsc
      refine wpAny_bind (wpAny_mono (comp_enter Gd.firm HT HI R S (o0 := lObj [] 0) (H := HL W) (emit := fun ac cenv => emitL elt (.ref ac) cenv) (fun s Q hQ => wpAny_newObj_type hQ) rfl (fun D => ⟨[], 0, rfl, .nil⟩) (fun hs ac cenv => cmp_list hs)
        (fun ac cenv hc => acc_list Gd.firm HE R hc) rfl he (use := some (PySem.assign (.Name x px) env)) (Q := fun _ s' => Post W env wr D₀ s₀ N Rt .next s') ?_) (fun _ s' hq => wpAny_pure (wpAny_pure hq)) fun _ _ x => x)
      intro ac L s' D' o' x₁ hac hH hD hn hns hDL hL hne
      obtain ⟨vs, k, rfl, r⟩ := hH
      exact used_post (d := .list rs) Gd.firm S b (by simpa using hx) x₁ hac ⟨vs, k, rfl, r⟩ hD hn hns hDL hL hne hN
  · refine wpAny_Assign_Name (wpAny_mono (listcomp_sound Gd.firm HE HT HI R he hsc S) (fun v s₁ h₁ => ?_) fun _ _ x => x) hsw
    obtain ⟨D₁, a, o, rfl, x₁, ho, hr, hn, hD⟩ := h₁
    cases b with
    | true => exact store_own Gd.firm S (by simpa using hx) x₁ ho hr hn hD fun s'' oa' S' => .inl ⟨rfl, _, _, _, hN, S'⟩
    | false =>
      obtain ⟨q1, q2⟩ := EvO.frozen S.glob x₁ ho hr hn hD
      exact (S.step q1).store Gd.firm (by simpa using hx) (fun _ => q2) (fun h => by cases h) fun s' oa' S' _ => .inl ⟨rfl, _, _, _, hN, S'⟩
theorem Tri.assignD (Gd : Good W C lv) {x : Str} {px pos spos : Pos} {ke ve : Expr} {gens : List Comprehension} {scope : Scope} {rs : List (Str × AV)} (b : Bool) (n : Nat)
    (he : acomp (aeval C n) (atest C n) (aiter C n) sc σ scope gens (fun σ₁ => apair (aeval C n (relNames scope sc) σ₁ ke) (aeval C n (relNames scope sc) σ₁ ve)) = some rs) (hx : wr.contains x = true) (hN : N (put σ x (b, .dict (dputs [] rs)))) :
    Tri W lv sc wr (exec (.Assign [.Name x px] (.DictComp ke ve gens scope pos) spos)) σ N Rt := .mk fun {A env D₀ s₀ D s oa} R hsc S => by
  obtain ⟨HE, HT, HI⟩ := all_ok Gd n
  rcases swaps_comp (env := env) (value := .DictComp ke ve gens scope pos) (x := x) (px := px) (l := spos.line) rfl with hsw | hsw
  · cases gens with
    | nil => cases he
    | cons g gs =>
      have ha := async_of he
      rw [exec_Assign_Name_used _ _ _ _ hsw]
      refine wpAny_bind (wpAny_standAt (wpAny_bind ?_))
      have e : evalThenUse (.DictComp ke ve (g :: gs) scope pos) env (PySem.assign (.Name x px) env) = (do let _ ← comprehension (.DictComp ke ve (g :: gs) scope pos) scope env (firstIterPos (g :: gs) pos) newDict false (eval g.iter env) (some (PySem.assign (.Name x px) env))) := by
        obtain ⟨t, i, f, a⟩ := g
        dsimp only at ha
        show (do let _ ← comprehension _ _ _ _ _ (a != 0) _ _) = _
        rw [ha]; rfl
      rw [e]
      subst hsc
      refine wpAny_bind (wpAny_mono (comp_enter Gd.firm HT HI R S (o0 := dObj [] 0) (H := HD W) (emit := fun ac cenv => emitD ke ve ac cenv) (fun s Q hQ => wpAny_newObj_type hQ) rfl (fun D => ⟨⟨[], 0, rfl, .nil⟩, List.nodup_nil, Nat.le_refl _⟩) (fun hs ac cenv => cmp_dict hs)
        (fun ac cenv hc => acc_dict Gd.firm HE R hc) rfl he (use := some (PySem.assign (.Name x px) env)) (Q := fun _ s' => Post W env wr D₀ s₀ N Rt .next s') ?_) (fun _ s' hq => wpAny_pure (wpAny_pure hq)) fun _ _ x => x)
      intro ac L s' D' o' x₁ hac hH hD hn hns hDL hL hne
      obtain ⟨⟨vs, k, rfl, r⟩, hnd, _⟩ := hH
      exact used_post (d := .dict (dputs [] rs)) Gd.firm S b (by simpa using hx) x₁ hac ⟨vs, k, rfl, r, hnd⟩ hD hn hns hDL hL hne hN
  · refine wpAny_Assign_Name (wpAny_mono (dictcomp_sound Gd.firm HE HT HI R he hsc S) (fun v s₁ h₁ => ?_) fun _ _ x => x) hsw
    obtain ⟨D₁, a, o, rfl, x₁, ho, hr, hn, hD⟩ := h₁
    cases b with
    | true => exact store_own Gd.firm S (by simpa using hx) x₁ ho hr hn hD fun s'' oa' S' => .inl ⟨rfl, _, _, _, hN, S'⟩
    | false =>
      obtain ⟨q1, q2⟩ := EvO.frozen S.glob x₁ ho hr hn hD
      exact (S.step q1).store Gd.firm (by simpa using hx) (fun _ => q2) (fun h => by cases h) fun s' oa' S' _ => .inl ⟨rfl, _, _, _, hN, S'⟩
end
end Mine
set_option maxRecDepth 10000
set_option linter.unusedVariables false
namespace Mine
open PySem PyProof.Rows
section
variable {W : Wd} {C : Cfg} {lv n : Nat} {A : Around} {env : Env} {wr : List Str} {D₀ D D' : Fz} {s₀ s s' : Shared} {σ σ' : Sg} {oa : Str → Addr} {sc : NS} {N N' : Sg → Prop} {Rt Rt' : AV → Prop} {m : Env → Sem Flow}
theorem sole_tuple {es : List Expr} {k : Nat} {p : Pos} {value : Expr} {l : Nat} : swapsWithSole [.Tuple es k p] value l env = pure false := by
  cases value <;> rfl
theorem stores_tuple {es : List Expr} {k : Nat} {p : Pos} {value : Expr} (h : isTup value = false) : swappedStores [.Tuple es k p] value env = pure none := by
  cases value <;> first | rfl | cases h
theorem Tri.assignTS (F : W.Firm) {es : List Expr} {k : Nat} {p pos : Pos} {e : Expr} {d : AV} (he : SEv W lv sc σ e d) (hT : isTup e = false) (ht : atgt wr σ (.Tuple es k p) d = some σ') (hN : N σ') :
    Tri W lv sc wr (exec (.Assign [.Tuple es k p] e pos)) σ N Rt := .mk fun R hsc S => by
  refine Assign_Tuple (wpAny_mono (he.run R hsc S) (fun v s₁ h₁ => ?_) fun _ _ x => x) sole_tuple (stores_tuple hT)
  obtain ⟨D₁, x₁, rv⟩ := h₁
  exact tgt_sound F R (S.step x₁) ht rv fun s' oa' S' => .inl ⟨rfl, _, _, _, hN, S'⟩
theorem Tri.assignT (Gd : Good W C lv) {es : List Expr} {k : Nat} {p pos : Pos} {e : Expr} {d : AV} (n : Nat) (he : aeval C n sc σ e = some d) (hT : isTup e = false) (ht : atgt wr σ (.Tuple es k p) d = some σ') (hN : N σ') :
    Tri W lv sc wr (exec (.Assign [.Tuple es k p] e pos)) σ N Rt := .assignTS Gd.firm (.of Gd n he) hT ht hN
theorem Tri.retS {e : Expr} {pos : Pos} {d : AV} (he : SEv W lv sc σ e d) (hR : Rt d) : Tri W lv sc wr (exec (.Return (some e) pos)) σ N Rt := .mk fun R hsc S =>
  wpAny_Return_some (wpAny_mono (he.run R hsc S) (fun v _ h₁ => h₁.elim fun D₁ q => .inr ⟨v, d, D₁, rfl, hR, S.ext.trans S.glob0 q.1, q.2⟩) fun _ _ x => x)
theorem Tri.ret (Gd : Good W C lv) {e : Expr} {pos : Pos} {d : AV} (n : Nat) (he : aeval C n sc σ e = some d) (hR : Rt d) : Tri W lv sc wr (exec (.Return (some e) pos)) σ N Rt := .retS (.of Gd n he) hR
theorem Tri.iteS {test : Expr} {body orelse : List Stmt} {pos : Pos} {b : Bool} (ht : STe W lv sc σ test b)
    (h1 : b = true → Tri W lv sc wr (execs body) σ N Rt) (h2 : b = false → Tri W lv sc wr (execs orelse) σ N Rt) : Tri W lv sc wr (exec (.If test body orelse pos)) σ N Rt := .mk fun R hsc S => by
  refine wpAny_If (wpAny_mono (ht.run R hsc S) (fun c s₁ h₁ => ?_) fun _ _ x => x)
  obtain ⟨rfl, D₁, x₁⟩ := h₁
  cases c with
  | true => rw [if_pos rfl]; exact (h1 rfl).run R hsc (S.step x₁)
  | false => rw [if_neg Bool.false_ne_true]; exact (h2 rfl).run R hsc (S.step x₁)
theorem Tri.ite (Gd : Good W C lv) {test : Expr} {body orelse : List Stmt} {pos : Pos} {b : Bool} (n : Nat) (ht : atest C n sc σ test = some b)
    (h1 : b = true → Tri W lv sc wr (execs body) σ N Rt) (h2 : b = false → Tri W lv sc wr (execs orelse) σ N Rt) : Tri W lv sc wr (exec (.If test body orelse pos)) σ N Rt := .iteS (.of Gd n ht) h1 h2
theorem Tri.assert (Gd : Good W C lv) {test : Expr} {msg : Option Expr} {pos : Pos} (n : Nat) (ht : atest C n sc σ test = some true) (hN : N σ) : Tri W lv sc wr (exec (.Assert test msg pos)) σ N Rt := .mk fun R hsc S => by
  refine wpAny_Assert_holds (wpAny_mono ((all_ok Gd n).2.1 _ _ _ _ ht R hsc S) (fun c s₁ h₁ => ?_) fun _ _ x => x)
  obtain ⟨rfl, D₁, x₁⟩ := h₁
  exact ⟨rfl, .inl ⟨rfl, _, _, _, hN, S.step x₁⟩⟩
noncomputable def aaug (op : Operator) (a b : AV) : Option AV := (aint a).bind fun a => (aint b).bind fun b => if op == .Add then some (.int (a + b)) else if op == .Sub then some (.int (a - b)) else none
theorem aaug_sound {op : Operator} {a b d : AV} {va vb : Value} (h : aaug op a b = some d) (o : Ok W D s) (ra : Rep W.P D a va) (rb : Rep W.P D b vb) : Ev W A D (inplaceOp op va vb) d s := by
  obtain ⟨a, h1, h⟩ := bind_some h
  obtain ⟨b, h2, h3⟩ := bind_some h
  clear h
  cases aint_ h1
  cases aint_ h2
  obtain ⟨t, rfl⟩ := ra.int'
  obtain ⟨u, rfl⟩ := rb.int'
  by_cases ho : (op == .Add) = true
  · cases (if_pos ho).symm.trans h3
    cases eq_of_beq ho
    exact wpAny_iadd_int ⟨D, o.tok _, .int _ _⟩
  · obtain ⟨ho, h3⟩ := ite_some ((if_neg ho).symm.trans h3)
    cases h3
    cases eq_of_beq ho
    exact PySem.AutoIntOps.isub_0 ⟨D, o.tok _, .int _ _⟩
theorem Tri.aug (Gd : Good W C lv) {x : Str} {px pos : Pos} {op : Operator} {e : Expr} {d₀ d₁ d : AV} (n : Nat) (h0 : σ.lookup x = some (false, d₀)) (hn : okName x = true) (he : aeval C n sc σ e = some d₁) (h : aaug op d₀ d₁ = some d)
    (hx : wr.contains x = true) (hN : N (put σ x (false, d))) : Tri W lv sc wr (exec (.AugAssign (.Name x px) op e pos)) σ N Rt := .mk fun R hsc S => by
  obtain ⟨v0, hv0, r0⟩ := S.fro x d₀ h0
  refine wpAny_AugAssign_Name (wp_load S.kind hv0 (okName_spec hn).2 (wpAny_mono ((all_ok Gd n).1 _ _ _ _ he R hsc S) (fun v s₁ h₁ => ?_) fun _ _ x => x))
  obtain ⟨D₁, x₁, rv⟩ := h₁
  refine wpAny_mono (aaug_sound h (.ext x₁) (r0.mono x₁.le) rv) (fun v s₂ h₂ => ?_) fun _ _ x => x
  obtain ⟨D₂, x₂, rw⟩ := h₂
  exact (S.step (x₁.trans S.glob x₂)).store Gd.firm (by simpa using hx) (fun _ => rw) (fun h => by cases h) fun s' oa' S' _ => .inl ⟨rfl, _, _, _, hN, S'⟩
/-! ## changes in place -/
noncomputable def asetL (l : List AV) (i : Int) (d : AV) : Option (List AV) := if 0 ≤ i ∧ i < l.length ∧ l.length ≤ 1000 then some (l.set i.toNat d) else none
/-- the object that a name owns -/
theorem own_load (S : St W env wr D₀ s₀ σ D s oa) {x : Str} {d : AV} {p : Pos} (hx : σ.lookup x = some (true, d)) (hn : okName x = true) {Q : Value → Shared → Prop} (h : Q (.ref (oa x)) s) : wpAny W.M A (eval (.Name x p) env) Q NoE s := by
  obtain ⟨n1, n2⟩ := okName_spec hn
  exact wpAny_Name (wp_load S.kind (S.own x d hx).1 n2 h) n1
theorem setL_w {l : Addr} {vs : List Value} {k : Nat} {i : Int} {t : Tok} {v : Value} {Q : Unit → Shared → Prop} {E : Value → Shared → Prop} (hl : s.heap.get? l = some (lObj vs k)) (h0 : 0 ≤ i) (hi : i < vs.length) (hsz : vs.length ≤ 1000)
    (hQ : ∀ h' k', h'.get? l = some (lObj (vs.set i.toNat v) k') → Heap.SameBut l s.heap h' → Q () { s with heap := h' }) : wpAny W.M A (setItem (.ref l) (.int i t) v) Q E s := by
  have hl' : s.heap.IsList l vs.toArray := ⟨_, hl, rfl, _, rfl⟩
  unfold setItem
  try with_reducible refine wpAny_holding ?_
  first | refine wpAny_bind (wpAny_pure ?_) | skip
  refine wpAny_bind (wpAny_sequenceKey hl'.typeIs (by decide) ?_)
  refine wpAny_bind (wpAny_callSpecial?_slot (name := Str.ofString "__setitem__") hl'.typeIs slot_list_setitem
    (wpAny_call_entry slot_list_setitem hl'.typeIs entry_list_setitem ?_ (args_list_setitem _ _ _)))
  show wpAny _ _ (Builtin.List.listSubscript? (.int i t) >>= _) _ _ s
  refine wpAny_bind (wpAny_listSubscript_int (fitsIndex_of h0 (by omega)) ?_)
  obtain ⟨j, rfl⟩ := Int.eq_ofNat_of_zero_le h0
  have hj : j < vs.length := by omega
  have hx' : vs.toArray[j]? = some vs[j] := by simp [hj]
  show wpAny _ _ ((seqItemAt l j >>= fun r => pure (r.map (j, ·))) >>= _) _ _ s
  refine wpAny_bind (wpAny_bind (wpAny_seqItemAt hl rfl (wpAny_pure ?_)))
  rw [hx']
  show wpAny _ _ (setSeqItemAt l j v >>= _) _ _ s
  obtain ⟨k', hk'⟩ : ∃ k', (Obj.mapSeq (fun y => y.setIfInBounds j v) (lObj vs k)) = lObj (vs.set j v) k' := by
    obtain ⟨k', h1⟩ := Obj.data_mapSeq (o := lObj vs k) rfl (fun y => y.setIfInBounds j v)
    refine ⟨k', ?_⟩
    simp only [Obj.mapSeq, lObj] at h1 ⊢
    simp only [Data.seq.injEq] at h1
    simp
    first | exact h1.2 | simp_all
  have hfin : (s.heap.update l (Obj.mapSeq (·.setIfInBounds j v))).get? l = some (lObj (vs.set j v) k') := by
    rw [← hk']; exact Heap.get?_update_self _ hl (by rw [hk']; rfl)
  refine wpAny_bind (wpAny_setSeqItemAt hl rfl ?_)
  first
    | exact wpAny_bind (wpAny_pure (wpAny_pure ⟨.none, rfl, wpAny_pure (hQ _ k' hfin (Heap.SameBut.update ..))⟩))
    | exact wpAny_pure ⟨.none, rfl, wpAny_pure (hQ _ k' hfin (Heap.SameBut.update ..))⟩
/-- x[i] = e for an own list -/
theorem setL_post (F : W.Firm) (S : St W env wr D₀ s₀ σ D s oa) {x : Str} {l l' : List AV} {i : Int} {t : Tok} {d : AV} {v : Value} (hx : σ.lookup x = some (true, .list l)) (h : asetL l i d = some l') (rv : Rep W.P D d v) (hN : N (put σ x (true, .list l'))) :
    wpAny W.M A (setItem (.ref (oa x)) (.int i t) v) (fun _ s' => Post W env wr D₀ s₀ N Rt .next s') NoE s := by
  obtain ⟨hv, ⟨o, ho, vs, k, rfl, r⟩, _⟩ := S.own x _ hx
  obtain ⟨hc, h⟩ := ite_some h
  cases h
  have e := r.length
  refine setL_w ho hc.1 (by omega) (by omega) fun h' k' hg hs => .inl ⟨rfl, _, D, oa, hN, S.mutate F hx hs hg ⟨_, k', rfl, paired_set r rv _⟩⟩
theorem setD_post (F : W.Firm) (S : St W env wr D₀ s₀ σ D s oa) {x : Str} {m : List (Str × AV)} {y : Str} {t : Tok} {d : AV} {v : Value} (hx : σ.lookup x = some (true, .dict m)) (hl : m.length ≤ 1000) (rv : Rep W.P D d v) (hN : N (put σ x (true, .dict (dput m y d)))) :
    wpAny W.M A (setItem (.ref (oa x)) (.str y t) v) (fun _ s' => Post W env wr D₀ s₀ N Rt .next s') NoE s := by
  obtain ⟨hv, ⟨o, ho, es, k, rfl, r, hnd⟩, _⟩ := S.own x _ hx
  have e := r.length
  refine wpAny_setItem_pairs (knd := kd W) (k := y) (kvs := zipV m es) (by simp [PySem.strKind, Value.isStrOf]) (dictOf_rep ho r hnd) (fun h' hd' hs => ?_) (by rw [sizeLine_eq]; simp [zipV]; omega)
  obtain ⟨es', k', hg, r'⟩ := repE_of_dictOf hd' (stored_pairs r hnd rv)
  exact .inl ⟨rfl, _, D, oa, hN, S.mutate F hx hs hg ⟨es', k', rfl, r', dput_nodup _ _ hnd⟩⟩
theorem Tri.setL (Gd : Good W C lv) {x : Str} {px p pos : Pos} {i e : Expr} {l l' : List AV} {k : Int} {d : AV} (n : Nat) (hx : σ.lookup x = some (true, .list l)) (hn : okName x = true) (he : aeval C n sc σ e = some d) (hi : aeval C n sc σ i = some (.int k)) (hc : notComp e = true)
    (h : asetL l k d = some l') (hN : N (put σ x (true, .list l'))) : Tri W lv sc wr (exec (.Assign [.Subscript (.Name x px) i p] e pos)) σ N Rt := .mk fun R hsc S => by
  have HE := (all_ok Gd n).1
  refine wpAny_Assign_Subscript (wpAny_mono (HE _ _ _ _ he R hsc S) (fun v s₁ h₁ => ?_) fun _ _ x => x) (swaps_plain hc)
  obtain ⟨D₁, x₁, rv⟩ := h₁
  have S₁ := S.step x₁
  refine own_load S₁ hx hn (wpAny_mono (HE _ _ _ _ hi R hsc S₁) (fun iv s₂ h₂ => ?_) fun _ _ x => x)
  obtain ⟨D₂, x₂, ri⟩ := h₂
  obtain ⟨t, rfl⟩ := ri.int'
  exact setL_post Gd.firm (S₁.step x₂) hx h (rv.mono x₂.le) hN
theorem Tri.setD (Gd : Good W C lv) {x : Str} {px p pos : Pos} {i e : Expr} {m : List (Str × AV)} {y : Str} {d : AV} (n : Nat) (hx : σ.lookup x = some (true, .dict m)) (hn : okName x = true) (he : aeval C n sc σ e = some d) (hi : aeval C n sc σ i = some (.str y)) (hc : notComp e = true)
    (hl : m.length ≤ 1000) (hN : N (put σ x (true, .dict (dput m y d)))) : Tri W lv sc wr (exec (.Assign [.Subscript (.Name x px) i p] e pos)) σ N Rt := .mk fun R hsc S => by
  have HE := (all_ok Gd n).1
  refine wpAny_Assign_Subscript (wpAny_mono (HE _ _ _ _ he R hsc S) (fun v s₁ h₁ => ?_) fun _ _ x => x) (swaps_plain hc)
  obtain ⟨D₁, x₁, rv⟩ := h₁
  have S₁ := S.step x₁
  refine own_load S₁ hx hn (wpAny_mono (HE _ _ _ _ hi R hsc S₁) (fun iv s₂ h₂ => ?_) fun _ _ x => x)
  obtain ⟨D₂, x₂, ri⟩ := h₂
  obtain ⟨t, rfl⟩ := ri.str'
  exact setD_post Gd.firm (S₁.step x₂) hx hl (rv.mono x₂.le) hN
theorem augStore_plain {i : Expr} (h : isSlice i = false) : ∀ ov iv new, augStore i ov iv new = (do holding [new, ov, iv] (setItem ov iv new); release [new, ov, iv] []; pure .next) := by
  intro ov iv new
  cases i <;> first | rfl | cases h
theorem Tri.augL (Gd : Good W C lv) {x : Str} {px p pos : Pos} {i e : Expr} {op : Operator} {l l' : List AV} {k : Int} {d₀ d₁ d : AV} (n : Nat) (hx : σ.lookup x = some (true, .list l)) (hn : okName x = true) (hi : aeval C n sc σ i = some (.int k)) (his : isSlice i = false)
    (h0 : aidx l k = some d₀) (he : aeval C n sc σ e = some d₁) (ha : aaug op d₀ d₁ = some d) (h : asetL l k d = some l') (hN : N (put σ x (true, .list l'))) : Tri W lv sc wr (exec (.AugAssign (.Subscript (.Name x px) i p) op e pos)) σ N Rt := .mk fun R hsc S => by
  have HE := (all_ok Gd n).1
  refine wpAny_AugAssign_Subscript_any (own_load S hx hn (wpAny_mono (HE _ _ _ _ hi R hsc S) (fun iv s₂ h₂ => ?_) fun _ _ x => x)) (augStore_plain his)
  obtain ⟨D₂, x₂, ri⟩ := h₂
  obtain ⟨t, rfl⟩ := ri.int'
  have S₂ := S.step x₂
  obtain ⟨hv, ⟨o, ho, vs, k0, rfl, r⟩, _⟩ := S₂.own x _ hx
  have el := r.length
  have hle : l.length ≤ 1000 := (ite_some h).1.2.2
  obtain ⟨j, hj, h0⟩ := bind_some (x := seqIndex? k l.length) h0
  rw [el] at hj
  obtain ⟨v0, hv0, r0⟩ := paired_some r h0
  refine getItem_list_at ho (by omega) hj hv0 ?_
  refine wpAny_mono (HE _ _ _ _ he R hsc S₂) (fun v s₃ h₃ => ?_) fun _ _ x => x
  obtain ⟨D₃, x₃, rv⟩ := h₃
  refine wpAny_mono (aaug_sound ha (.ext x₃) (r0.mono x₃.le) rv) (fun v s₄ h₄ => ?_) fun _ _ x => x
  obtain ⟨D₄, x₄, rw⟩ := h₄
  exact setL_post Gd.firm ((S₂.step x₃).step x₄) hx h rw hN
theorem Tri.augD (Gd : Good W C lv) {x : Str} {px p pos : Pos} {i e : Expr} {op : Operator} {m : List (Str × AV)} {y : Str} {d₀ d₁ d : AV} (n : Nat) (hx : σ.lookup x = some (true, .dict m)) (hn : okName x = true) (hi : aeval C n sc σ i = some (.str y)) (his : isSlice i = false)
    (h0 : dget m y = some d₀) (he : aeval C n sc σ e = some d₁) (ha : aaug op d₀ d₁ = some d) (hl : m.length ≤ 1000) (hN : N (put σ x (true, .dict (dput m y d)))) : Tri W lv sc wr (exec (.AugAssign (.Subscript (.Name x px) i p) op e pos)) σ N Rt := .mk fun R hsc S => by
  have HE := (all_ok Gd n).1
  refine wpAny_AugAssign_Subscript_any (own_load S hx hn (wpAny_mono (HE _ _ _ _ hi R hsc S) (fun iv s₂ h₂ => ?_) fun _ _ x => x)) (augStore_plain his)
  obtain ⟨D₂, x₂, ri⟩ := h₂
  obtain ⟨t, rfl⟩ := ri.str'
  have S₂ := S.step x₂
  obtain ⟨hv, ⟨o, ho, es, k0, rfl, r, hnd⟩, _⟩ := S₂.own x _ hx
  obtain ⟨v0, hv0, r0⟩ := (valueAt_rep r y).1 d₀ h0
  refine wpAny_getItem_of (knd := kd W) (strKind_is _ _ _ _) (dictOf_rep ho r hnd).mapOf hv0 ?_
  have x₂' := S₂.ok.tok (s₂.toks + 1)
  refine wpAny_mono (HE _ _ _ _ he R hsc (S₂.step x₂')) (fun v s₃ h₃ => ?_) fun _ _ x => x
  obtain ⟨D₃, x₃, rv⟩ := h₃
  refine wpAny_mono (aaug_sound ha (.ext x₃) (r0.mono x₃.le) rv) (fun v s₄ h₄ => ?_) fun _ _ x => x
  obtain ⟨D₄, x₄, rw⟩ := h₄
  exact setD_post Gd.firm (((S₂.step x₂').step x₃).step x₄) hx hl rw hN
/-- a method of an own list, called for its effect -/
theorem Tri.appendS (Fm : W.Firm) {x : Str} {px apos cpos pos : Pos} {e : Expr} {l : List AV} {d : AV} (hx : σ.lookup x = some (true, .list l)) (hn : okName x = true) (hp : plainArg e = true) (hline : (apos.endLine == cpos.line) = true) (he : SEv W lv sc σ e d)
    (hl : l.length ≤ 1000) (hN : N (put σ x (true, .list (l ++ [d])))) : Tri W lv sc wr (exec (.Expr (.Call (.Attribute (.Name x px) "append" apos) [e] [] cpos) pos)) σ N Rt := .mk fun {A env D₀ s₀ D s oa} R hsc S => by
  have ha : SArgs W lv sc σ [e] [d] := .cons hp he .nil
  refine wpAny_Expr ?_ (by unfold interactive; rw [S.kind]; rfl)
  refine method_w rfl ha.plain (by simp) hline (own_load S hx hn ?_)
  obtain ⟨hv, ⟨o, ho, vs, k0, rfl, r⟩, _⟩ := S.own x _ hx
  refine ⟨"list", "list.append", F.plainAttrs_list, F.slot_list_append, F.type_list_append, ⟨_, ho, rfl⟩, fun b e => by cases e; exact ⟨_, ho, rfl⟩, ?_⟩
  refine wpAny_mono (ha.run R hsc S) (fun as s₁ h₁ => ?_) fun _ _ x => x
  obtain ⟨D₁, x₁, ra⟩ := h₁
  cases ra with | @cons _ v _ _ r1 ra =>
    cases ra
    have S₁ := S.step x₁
    obtain ⟨hv, ⟨o, ho, vs, k0, rfl, r⟩, _⟩ := S₁.own x _ hx
    refine append_w ho (by rw [← r.length]; omega) fun h' k' hg hs => ?_
    exact .inl ⟨rfl, _, D₁, oa, hN, S₁.mutate Fm hx hs hg ⟨_, k', rfl, r.snoc r1⟩⟩
theorem Tri.append (Gd : Good W C lv) {x : Str} {px apos cpos pos : Pos} {e : Expr} {l : List AV} {d : AV} (n : Nat) (hx : σ.lookup x = some (true, .list l)) (hn : okName x = true) (hp : plainArg e = true) (hline : (apos.endLine == cpos.line) = true) (he : aeval C n sc σ e = some d)
    (hl : l.length ≤ 1000) (hN : N (put σ x (true, .list (l ++ [d])))) : Tri W lv sc wr (exec (.Expr (.Call (.Attribute (.Name x px) "append" apos) [e] [] cpos) pos)) σ N Rt := .appendS Gd.firm hx hn hp hline (.of Gd n he) hl hN
theorem Tri.reverse (Gd : Good W C lv) {x : Str} {px apos cpos pos : Pos} {l : List AV} (hx : σ.lookup x = some (true, .list l)) (hn : okName x = true) (hline : (apos.endLine == cpos.line) = true)
    (hl : l.length ≤ 1000) (hN : N (put σ x (true, .list l.reverse))) : Tri W lv sc wr (exec (.Expr (.Call (.Attribute (.Name x px) "reverse" apos) [] [] cpos) pos)) σ N Rt := .mk fun {A env D₀ s₀ D s oa} R hsc S => by
  refine wpAny_Expr ?_ (by unfold interactive; rw [S.kind]; rfl)
  refine method_w rfl rfl (by simp) hline (own_load S hx hn ?_)
  obtain ⟨hv, ⟨o, ho, vs, k0, rfl, r⟩, _⟩ := S.own x _ hx
  refine ⟨"list", "list.reverse", F.plainAttrs_list, F.slot_list_reverse, F.type_list_reverse, ⟨_, ho, rfl⟩, fun b e => by cases e; exact ⟨_, ho, rfl⟩, wpAny_pure ?_⟩
  have e := r.length
  refine call_meets F.slot_list_reverse ⟨_, ho, rfl⟩ F.entry_list_reverse (F.args_list_reverse_1 _) (AutoSeq1.list_reverse_list_0 (oa x) vs.toArray k0 (by rw [sizeLine_eq]; simp; omega)) ⟨ho, ?_⟩
  obtain ⟨k', hk'⟩ : ∃ k', (Obj.mapSeq (fun y => y.reverse) (lObj vs k0)) = lObj vs.reverse k' := by
    obtain ⟨k', h1⟩ := Obj.data_mapSeq (o := lObj vs k0) rfl (fun y => y.reverse)
    refine ⟨k', ?_⟩
    simp only [Obj.mapSeq, lObj] at h1 ⊢
    simp only [Data.seq.injEq] at h1
    simp
    first | exact h1.2 | simp_all
  refine .inl ⟨rfl, _, D, oa, hN, S.mutate Gd.firm hx (Heap.SameBut.update ..) (o' := lObj vs.reverse k') ?_ ⟨_, k', rfl, paired_reverse r⟩⟩
  rw [← hk']; exact Heap.get?_update_self _ ho (by rw [hk']; rfl)
theorem Tri.del (Gd : Good W C lv) {x : Str} {px p pos : Pos} {i : Expr} {l : List AV} {k : Int} {j : Nat} (n : Nat) (hx : σ.lookup x = some (true, .list l)) (hn : okName x = true) (hi : aeval C n sc σ i = some (.int k)) (hj : seqIndex? k l.length = some j)
    (hl : l.length ≤ 1000) (hN : N (put σ x (true, .list (l.eraseIdx j)))) : Tri W lv sc wr (exec (.Delete [.Subscript (.Name x px) i p] pos)) σ N Rt := .mk fun {A env D₀ s₀ D s oa} R hsc S => by
  have HE := (all_ok Gd n).1
  refine wpAny_Delete (wpAny_deleteEach_cons (delete_Subscript (own_load S hx hn (wpAny_mono (HE _ _ _ _ hi R hsc S) (fun iv s₂ h₂ => ?_) fun _ _ x => x))))
  obtain ⟨D₂, x₂, ri⟩ := h₂
  obtain ⟨t, rfl⟩ := ri.int'
  have S₂ := S.step x₂
  obtain ⟨hv, ⟨o, ho, vs, k0, rfl, r⟩, _⟩ := S₂.own x _ hx
  have e := r.length
  obtain ⟨h1, h2⟩ := seqIndex_lt hj
  refine delItem_at ho (by simp [Builtin.List.listFitsIndex]; omega) (by rw [List.size_toArray, ← e]; exact hj) (fun h' hs hg => ?_) (by rw [sizeLine_eq]; simp; omega)
  refine wpAny_deleteEach_nil (.inl ⟨rfl, _, D₂, oa, hN, S₂.mutate Gd.firm hx hs hg ⟨_, _, rfl, paired_erase r j⟩⟩)
end
end Mine
set_option maxRecDepth 10000
set_option linter.unusedVariables false
namespace Mine
open PySem PyProof.Rows
section
variable {W : Wd} {C : Cfg} {lv n : Nat} {A : Around} {env : Env} {wr : List Str} {D₀ D D' : Fz} {s₀ s s' : Shared} {σ σ' : Sg} {oa : Str → Addr} {sc : NS} {N N' : Sg → Prop} {Rt Rt' : AV → Prop} {m : Env → Sem Flow}
noncomputable def Sub (σ' σ : Sg) : Prop := ∀ x u, σ'.lookup x = some u → σ.lookup x = some u
theorem St.notMut' (S : St W env wr D₀ s₀ σ D s oa) {b : Addr} {o : Obj} (hl : b ≠ env.locals) (ho : s.heap.get? b = some o) (hc : ∀ v, o.data ≠ .cell v) (hw : ∀ x d, σ.lookup x = some (true, d) → oa x ≠ b) : ¬ Mut env wr σ oa b := by
  rintro (h | ⟨x, hx, hk, hcl⟩ | ⟨x, d, hx, e⟩)
  · exact hl h
  · rcases S.wrt x hx with h | ⟨_, c, v, h1, ⟨o', h2, h3⟩, _⟩
    · rw [hk] at h; cases h
    · rw [hcl] at h1; cases h1
      rw [ho] at h2; cases h2
      exact hc _ h3
  · exact hw x d hx e
theorem Tri.forS (F : W.Firm) {tgt iter : Expr} {body : List Stmt} {pos : Pos} {items : List AV} (hI : SIt W lv sc σ tgt iter items) (Inv : Nat → Sg → Prop) (h0 : Inv 0 σ)
    (hb : ∀ k d σ₁, items[k]? = some d → Inv k σ₁ → ∃ σw σ₂, Sub σw σ₁ ∧ atgt wr σw tgt d = some σ₂ ∧ Tri W lv sc wr (execs body) σ₂ (Inv (k + 1)) Rt) (hN : ∀ σ₁, Inv items.length σ₁ → N σ₁) :
    Tri W lv sc wr (exec (.For tgt iter body [] pos)) σ N Rt := .mk fun {A env D₀ s₀ D s oa} R hsc S => by
  have HI := hI.run R hsc S
  refine wpAny_For (wpAny_mono HI.2 (fun x s₁ h₁ => wpAny_mono h₁ (fun it s₂ h₂ => ?_) fun _ _ x => x) fun _ _ x => x) HI.1
  obtain ⟨D₁, I, ms, fp, TT, X, rfl, x₁, iT, hx, hTT, hms⟩ := h₂
  have S₂ := S.step x₁
  -- the loop's invariant
  let J : Nat → Shared → Prop := fun r s => ∃ i σ₁ D oa₁, r = items.length - i ∧ i ≤ items.length ∧ Inv i σ₁ ∧ X i s.heap ∧ St W env wr D₀ s₀ σ₁ D s oa₁ ∧ (∀ b x, D₁ b = some x → D b = some x) ∧
    (∀ b ∈ ms, s₀.heap.get? b = none ∧ D b = none ∧ b ≠ env.locals ∧ ∀ x d, σ₁.lookup x = some (true, d) → oa₁ x ≠ b)
  refine codeAny_mono (codeAny_forLoop_any (R := fun r s' => match r with | .ok f => Post W env wr D₀ s₀ N Rt f s' | .error _ => False) J (fun r s hJ => ?_) items.length ?_) fun r s' hr => ?_
  · obtain ⟨i, σ₁, D, oa₁, rfl, hi, hinv, hx, S, le, hms⟩ := hJ
    have alive := iT.alive _ _ hx
    have cells : ∀ b ∈ ms, ∀ v, ¬ s.heap.IsCell b v := fun b hb v hv => by
      obtain ⟨x, h1, h2, h3⟩ := alive b hb
      obtain ⟨x', h4, h5⟩ := hv
      rw [h1] at h4; cases h4
      exact h3.1 _ h5
    cases q : items[i]? with
    | none =>
      have hi' : i = items.length := by
        rw [List.getElem?_eq_none_iff] at q; omega
      subst hi'
      refine wpAny_mono (iT.done D s _ hx S.ok (fun b hb => (hms b hb).2.1) fun s' pk => ?_) (fun _ _ x => x) fun _ _ x => x.elim
      refine wpAny_execs_nil (.inl ⟨rfl, σ₁, D, oa₁, hN _ hinv, S.ep (pk.ep F S.glob0 S.glob S.ext.keep (fun b hb => (hms b hb).1) (alive_nc alive)) (fun b hb => (hms b hb).1) (fun b hb => (hms b hb).2.2.1) cells fun b hb y d hy => (hms b hb).2.2.2 y d hy⟩)
    | some d =>
      have hlt : i < items.length := (List.getElem?_eq_some_iff.mp q).1
      obtain ⟨σw, σ₂, hsub, hσ₂, hbody⟩ := hb i d σ₁ q hinv
      refine wpAny_mono (iT.nextQ (Q := fun v s₂ => wpAny W.M A (PySem.assign tgt env v) (fun _ s₃ => wpAny W.M A (execs body env) (fun f s₃ => match f with
            | .next | .cont => ∃ m, m < items.length - i ∧ J m s₃
            | .brk => Post W env wr D₀ s₀ N Rt .next s₃
            | .ret v => Post W env wr D₀ s₀ N Rt (.ret v) s₃) NoE s₃) NoE s₂) (Q0 := fun _ => False) q hTT hx S.ok le (fun b hb => (hms b hb).2.1) fun v s₂ D₂ rv hx₂ pk => ?_) (fun r s₁ hr => ?_) fun _ _ x => x.elim
      rotate_left
      · cases r with
        | none => exact hr.elim
        | some v => exact wpAny_mono hr (fun _ s₂ h₂ => wpAny_mono h₂ (fun _ s₃ h₃ => wpAny_mono h₃ (fun f s₄ h₄ => by cases f <;> exact h₄) fun _ _ x => x.elim) fun _ _ x => x.elim) fun _ _ x => x.elim
      have S₂ : St W env wr D₀ s₀ σw D₂ s₂ oa₁ := St.weaken (h := hsub) <| S.ep (pk.ep F S.glob0 S.glob S.ext.keep (fun b hb => (hms b hb).1) (alive_nc alive)) (fun b hb => (hms b hb).1) (fun b hb => (hms b hb).2.2.1) cells fun b hb y d hy => (hms b hb).2.2.2 y d hy
      have pnew : ∀ {b : Addr} {x : Obj}, D b = none → s.heap.get? b = some x → D₂ b = none := fun {b x} h1 h2 => by
        cases q : D₂ b with
        | none => rfl
        | some y =>
          rcases pk.new _ _ q with h | h
          · rw [h1] at h; cases h
          · rw [h2] at h; cases h
      have hDms₂ : ∀ b ∈ ms, D₂ b = none := fun b hb => let ⟨x, h1, _⟩ := alive b hb; pnew (hms b hb).2.1 h1
      have alive₂ := iT.alive _ _ hx₂
      have hle₂ : ∀ b x, D₁ b = some x → D₂ b = some x := fun b x e => pk.le _ _ (le _ _ e)
      have msT : ∀ b ∈ ms, b ∉ W.T := fun b hb => let ⟨x, h1, h2, _⟩ := alive b hb; W.notT S.glob h1 h2
      -- the store, under a base that holds the iterator
      obtain ⟨sb, Sb, k1, k2, k3, backE, back⟩ := S₂.rebase F [] nofun nofun
      have kept : ∀ b ∈ ms, ∀ x, s₂.heap.get? b = some x → sb.heap.get? b = some x := fun b hb x e => by
        obtain ⟨y, h1, h2, h3⟩ := alive₂ b hb
        rw [e] at h1; cases h1
        exact k1 b x e (S₂.notMut' (hms b hb).2.2.1 e h3.1 fun y d hy => (hms b hb).2.2.2 y d (hsub _ _ hy)) (by simp)
      refine tgt_sound F R Sb hσ₂ rv fun s₃ oa₃ S₃ => ?_
      refine wpAny_mono (hbody.run R hsc S₃) (fun f s₄ h₄ => ?_) fun _ _ x => x
      rcases h₄ with ⟨rfl, σ₄, D₄, oa₄, hinv₄, S₄⟩ | ⟨v, d, D₄, rfl, h2, h3, h4⟩
      · refine ⟨items.length - (i + 1), by omega, i + 1, σ₄, D₄, oa₄, rfl, hlt, hinv₄, ?_, back S₄, fun b x e => S₄.ext.le _ _ (hle₂ _ _ e), fun b hb => ⟨(hms b hb).1, ?_, (hms b hb).2.2.1, fun x d hx e => ?_⟩⟩
        · exact iT.over hle₂ S₂.fz S₄.ext.le S₄.fz (fun b hb x e => S₄.ext.keep b x (msT b hb) (kept b hb x e)) hx₂
        · obtain ⟨x, h1, _⟩ := alive₂ b hb
          exact S₄.ext.none_of (hDms₂ b hb) (kept b hb x h1)
        · obtain ⟨y, h1, _⟩ := alive₂ b hb
          have := (S₄.own x d hx).2.2.2.1
          rw [e, kept b hb y h1] at this; cases this
      · exact .inr ⟨v, d, D₄, rfl, h2, backE h3, h4⟩
  · refine ⟨0, σ, D₁, oa, by omega, Nat.zero_le _, h0, hx, S₂, fun _ _ e => e, fun b hb => ⟨S.none0 (hms b hb).1, (hms b hb).2, ?_, fun x d hx e => ?_⟩⟩
    · rintro rfl
      obtain ⟨ol, hol⟩ := S.locAt
      have := (hms _ hb).1
      rw [hol] at this; cases this
    · obtain ⟨_, ⟨oy, hoy, _⟩, _⟩ := S.own x d hx
      rw [e, (hms b hb).1] at hoy; cases hoy
  · cases r with
    | ok f => exact hr
    | error e => exact hr.elim
theorem Tri.for_ (Gd : Good W C lv) {tgt iter : Expr} {body : List Stmt} {pos : Pos} {items : List AV} (n : Nat) (hI : aiter C n sc σ tgt iter = some items) (Inv : Nat → Sg → Prop) (h0 : Inv 0 σ)
    (hb : ∀ k d σ₁, items[k]? = some d → Inv k σ₁ → ∃ σw σ₂, Sub σw σ₁ ∧ atgt wr σw tgt d = some σ₂ ∧ Tri W lv sc wr (execs body) σ₂ (Inv (k + 1)) Rt) (hN : ∀ σ₁, Inv items.length σ₁ → N σ₁) :
    Tri W lv sc wr (exec (.For tgt iter body [] pos)) σ N Rt := .forS Gd.firm (.of Gd n hI) Inv h0 hb hN
theorem Tri.whileS {test : Expr} {body : List Stmt} {pos : Pos} (Inv : Nat → Sg → Prop) (k : Nat) (h0 : Inv k σ)
    (hb : ∀ k σ₁, Inv k σ₁ → ∃ σw, Sub σw σ₁ ∧ ((STe W lv sc σw test false ∧ N σw) ∨ (STe W lv sc σw test true ∧ Tri W lv sc wr (execs body) σw (fun σ₂ => ∃ k', k' < k ∧ Inv k' σ₂) Rt))) :
    Tri W lv sc wr (exec (.While test body [] pos)) σ N Rt := .mk fun {A env D₀ s₀ D s oa} R hsc S => by
  refine wpAny_While (codeAny_mono (codeAny_whileLoop (R := fun r s' => match r with | .ok f => Post W env wr D₀ s₀ N Rt f s' | .error _ => False) (fun k s => ∃ σ₁ D oa₁, Inv k σ₁ ∧ St W env wr D₀ s₀ σ₁ D s oa₁) (fun k s hJ => ?_) k ⟨σ, D, oa, h0, S⟩) fun r s' hr => ?_)
  · obtain ⟨σ₁, D, oa₁, hinv, S⟩ := hJ
    obtain ⟨σw, hsub, hw⟩ := hb k σ₁ hinv
    replace S := S.weaken hsub
    rcases hw with ⟨ht, hN⟩ | ⟨ht, hbody⟩
    · refine wpAny_mono (ht.run R hsc S) (fun c s₁ h₁ => ?_) fun _ _ x => x.elim
      obtain ⟨rfl, D₁, x₁⟩ := h₁
      rw [if_neg Bool.false_ne_true]
      exact wpAny_execs_nil (.inl ⟨rfl, σw, D₁, oa₁, hN, S.step x₁⟩)
    · refine wpAny_mono (ht.run R hsc S) (fun c s₁ h₁ => ?_) fun _ _ x => x.elim
      obtain ⟨rfl, D₁, x₁⟩ := h₁
      rw [if_pos rfl]
      refine wpAny_mono (hbody.run R hsc (S.step x₁)) (fun f s₂ h₂ => ?_) fun _ _ x => x.elim
      rcases h₂ with ⟨rfl, σ₄, D₄, oa₄, ⟨k', hk', hinv₄⟩, S₄⟩ | ⟨v, d, D₄, rfl, h2, h3, h4⟩
      · exact ⟨k', hk', σ₄, D₄, oa₄, hinv₄, S₄⟩
      · exact .inr ⟨v, d, D₄, rfl, h2, h3, h4⟩
  · cases r with
    | ok f => exact hr
    | error e => exact hr.elim
end
end Mine
set_option maxRecDepth 10000
set_option linter.unusedVariables false
namespace Mine
open PySem PyProof.Rows
/-- a def of the text, as it lies in the heap -/
structure Def (W : Wd) (f : Str) (names : NS) (body : List Stmt) (params : List Str) (a : Addr) (o : Obj) (fd : FuncData) : Prop where
  mg : W.mg f = some (.ref a)
  obj : ∀ h, W.G h → h.get? a = some o
  data : o.data = .func fd
  code : ∀ h, W.G h → h.CodeRec fd.code fd.qualname
  body : fd.body = .stmts body
  bind : ∀ vals : List Value, vals.length = params.length → bindArgs fd ⟨vals, []⟩ = pure (params.zip vals)
  clo : fd.closure = []
  glo : fd.globals = mainGlobals
  bui : fd.builtins = builtinsNs
  co : fd.scope.isCoroutine = false
  gen : fd.scope.isGenerator = false
  kind : fd.scope.kind = .function
  nd : (names.map (·.1)).Nodup
  pnd : params.Nodup
  par : ∀ x ∈ params, names.lookup x = some .local ∨ names.lookup x = some .cell
  names : fd.scope.names = names
noncomputable def Def.wr (names : NS) : List Str := (names.filter fun p => (p.2 == .local || p.2 == .cell)).map (·.1)
noncomputable def args0 (params : List Str) (args : List AV) : Sg := params.zip (args.map fun d => (false, d))
theorem bindL_other {kindOf : Str → Option NameKind} {x : Str} : ∀ {binds : List (Str × Value)} {m : Str → Option Value}, x ∉ binds.map (·.1) → bindL kindOf binds m x = m x
  | [], m, _ => rfl
  | (y, v) :: r, m, h => by
    simp only [List.map_cons, List.mem_cons, not_or] at h
    unfold bindL
    rw [bindL_other h.2]
    split
    · exact if_neg h.1
    · rfl
theorem bindC_other {kindOf : Str → Option NameKind} {x : Str} : ∀ {binds : List (Str × Value)} {m : Str → Option Value}, x ∉ binds.map (·.1) → bindC kindOf binds m x = m x
  | [], m, _ => rfl
  | (y, v) :: r, m, h => by
    simp only [List.map_cons, List.mem_cons, not_or] at h
    unfold bindC
    rw [bindC_other h.2]
    split
    · rfl
    · exact if_neg h.1
theorem bindL_at {kindOf : Str → Option NameKind} {x : Str} {v : Value} (hk : kindOf x = some .local) : ∀ {binds : List (Str × Value)} {m : Str → Option Value}, (binds.map (·.1)).Nodup → binds.lookup x = some v → bindL kindOf binds m x = some v
  | (y, w) :: r, m, hn, h => by
    rw [List.map_cons, List.nodup_cons] at hn
    unfold bindL
    rw [List.lookup_cons] at h
    cases q : x == y with
    | true =>
      have : x = y := by simpa using q
      subst this
      rw [q] at h
      cases h
      rw [bindL_other hn.1, if_pos hk]; exact if_pos rfl
    | false =>
      rw [q] at h
      exact bindL_at hk hn.2 h
theorem bindC_at {kindOf : Str → Option NameKind} {x : Str} {v : Value} (hk : kindOf x = some .cell) : ∀ {binds : List (Str × Value)} {m : Str → Option Value}, (binds.map (·.1)).Nodup → binds.lookup x = some v → bindC kindOf binds m x = some v
  | (y, w) :: r, m, hn, h => by
    rw [List.map_cons, List.nodup_cons] at hn
    unfold bindC
    rw [List.lookup_cons] at h
    cases q : x == y with
    | true =>
      have : x = y := by simpa using q
      subst this
      rw [q] at h
      cases h
      rw [bindC_other hn.1, if_neg (by rw [hk]; decide)]; exact if_pos rfl
    | false =>
      rw [q] at h
      exact bindC_at hk hn.2 h
theorem zip_lookup {P : Params} {D : Fz} {ds : List AV} {vs : List Value} (r : RepL P D ds vs) : ∀ {ps : List Str} {x : Str} {u : Bool × AV}, ps.length = ds.length → (ps.zip (ds.map fun d => (false, d))).lookup x = some u → ∃ v d, u = (false, d) ∧ x ∈ ps ∧ (ps.zip vs).lookup x = some v ∧ Rep P D d v := by
  induction r with
  | nil => intro ps x u hl h; cases ps <;> simp at h
  | @cons d v ds vs h1 h2 ih =>
    intro ps x u hl h
    cases ps with
    | nil => simp at hl
    | cons p ps =>
      simp only [List.map_cons, List.zip_cons_cons, List.lookup_cons] at h ⊢
      cases q : x == p with
      | true =>
        rw [q] at h
        cases h
        have : x = p := by simpa using q
        exact ⟨v, d, rfl, by simp [this], rfl, h1⟩
      | false =>
        rw [q] at h
        obtain ⟨v', d', e1, e2, e3, e4⟩ := ih (by simpa using hl) h
        exact ⟨v', d', e1, List.mem_cons_of_mem _ e2, e3, e4⟩
theorem zip_keys {ps : List Str} {vs : List Value} (h : vs.length = ps.length) : (ps.zip vs).map (·.1) = ps := by
  induction ps generalizing vs with
  | nil => rfl
  | cons p ps ih => cases vs with
    | nil => simp at h
    | cons v vs => simp [ih (by simpa using h)]
section
variable {W : Wd} {lv : Nat} {A : Around} {D : Fz} {s : Shared}
theorem call_st {f : Str} {names : NS} {body : List Stmt} {params : List Str} {a : Addr} {o : Obj} {fd : FuncData} (Df : Def W f names body params a o fd) {args : List AV} {vs : List Value} (ok : Ok W D s) (nt : NT W D) (r : RepL W.P D args vs) (hl : args.length = params.length) {s₁ : Shared}
    (x : InCallC s (callEnvC fd s.heap.objs.size a).locals (bindL (callEnvC fd s.heap.objs.size a).kindOf (params.zip vs) fun _ => none) (callEnvC fd s.heap.objs.size a).cells (bindC (callEnvC fd s.heap.objs.size a).kindOf (params.zip vs) fun _ => none) s₁) :
    St W (callEnvC fd s.heap.objs.size a) (Def.wr names) D s (args0 params args) D s₁ (fun _ => 0) := by
  obtain ⟨⟨⟨h', tk, e⟩, ns, keep, fresh⟩, cell, apart, above⟩ := x
  have hvl : vs.length = params.length := by rw [← r.length, hl]
  have hx : Ext W D D s s₁ := .of_keeps ok.glob ok.fz (by rw [e]) (by rw [e]) (by rw [e]) keep
  have hkof : ∀ y, (callEnvC fd s.heap.objs.size a).kindOf y = names.lookup y := fun y => by rw [← Df.names]; rfl
  have hloc : (callEnvC fd s.heap.objs.size a).locals = s.heap.objs.size := rfl
  have hcells : (callEnvC fd s.heap.objs.size a).cells = cellsFrom (s.heap.objs.size + 1) fd.scope.names [] := rfl
  refine ⟨hx, ok.glob, nt, Df.kind, Df.glo, Df.bui, ⟨_, ns⟩, ok.none_size, get_size _, ?_, ?_, ?_, ?_⟩
  · intro y hy
    obtain ⟨⟨y', k⟩, hm, rfl⟩ := List.mem_map.mp hy
    obtain ⟨hm, hk⟩ := List.mem_filter.mp hm
    have hl := lookup_of_mem Df.nd hm
    simp only [Bool.or_eq_true, beq_iff_eq] at hk
    rcases hk with rfl | rfl
    · exact .inl (by rw [hkof]; exact hl)
    · refine .inr ⟨by rw [hkof]; exact hl, ?_⟩
      obtain ⟨c0, hc0⟩ := cellsFrom_has fd.scope.names (s.heap.objs.size + 1) y' (by rw [Df.names]; exact hm)
      obtain ⟨c, hc⟩ := lookup_some_of_mem hc0
      have hab := above y' c (mem_of_lookup hc)
      rw [hloc] at hab
      exact ⟨c, _, hc, cell y' c hc, ok.none_of (no_from (Nat.le_of_lt hab)), no_from (Nat.le_of_lt hab), fun z c' hz hc' e => hz (name_of_addr apart (mem_of_lookup hc') (e ▸ mem_of_lookup hc))⟩
  · intro y d hy
    obtain ⟨v, d', e1, hmem, e2, rv⟩ := zip_lookup r hl.symm hy
    cases e1
    refine ⟨v, ?_, rv⟩
    have hnd : ((params.zip vs).map (·.1)).Nodup := by rw [zip_keys hvl]; exact Df.pnd
    rcases Df.par y hmem with hk | hk
    · exact .inl ⟨by rw [hkof]; exact hk, _, ns, bindL_at (by rw [hkof]; exact hk) hnd e2⟩
    · obtain ⟨c0, hc0⟩ := cellsFrom_has fd.scope.names (s.heap.objs.size + 1) y (by rw [Df.names]; exact mem_of_lookup hk)
      obtain ⟨c, hc⟩ := lookup_some_of_mem hc0
      have q := cell y c hc
      rw [bindC_at (by rw [hkof]; exact hk) hnd e2] at q
      exact .inr ⟨.inl (by rw [hkof]; exact hk), c, hc, q⟩
  · intro y d hy
    obtain ⟨v, d', e1, _⟩ := zip_lookup r hl.symm hy
    cases e1
  · intro y z d d' hy
    obtain ⟨v, d', e1, _⟩ := zip_lookup r hl.symm hy
    cases e1
theorem call_enter {f : Str} {names : NS} {body : List Stmt} {params : List Str} {a : Addr} {o : Obj} {fd : FuncData} (Df : Def W f names body params a o fd) {args : List AV} {vs : List Value} (hroom : A.depth < recursionLimit) (ok : Ok W D s) (nt : NT W D) (r : RepL W.P D args vs) (hl : args.length = params.length)
    {Q : Value → Shared → Prop}
    (h : ∀ s₁, St W (callEnvC fd s.heap.objs.size a) (Def.wr names) D s (args0 params args) D s₁ (fun _ => 0) →
      wpAny W.M (A.deeper (callEnvC fd s.heap.objs.size a)) (execs body (callEnvC fd s.heap.objs.size a)) (fun fl s' => ∃ v, fl = .ret v ∧ Q v s') NoE s₁) : wpAny W.M A (call (.ref a) vs) Q NoE s := by
  have hvl : vs.length = params.length := by rw [← r.length, hl]
  refine wpAny_call (codeAny_call_cells hroom (Df.obj _ ok.glob) Df.data (W.nol _ ok.glob) (Df.code _ ok.glob) Df.body (Df.bind vs hvl) Df.clo (fun x hx => ?_) (fun s₁ x => ?_) Df.co Df.gen Df.kind)
  · have hm : x.1 ∈ params := by
      have : x.1 ∈ (params.zip vs).map (·.1) := List.mem_map.mpr ⟨x, hx, rfl⟩
      rw [zip_keys hvl] at this
      exact this
    rcases Df.par _ hm with hk | hk
    · exact .inl (by rw [Df.names]; exact hk)
    · obtain ⟨c0, hc0⟩ := cellsFrom_has fd.scope.names (s.heap.objs.size + 1) x.1 (by rw [Df.names]; exact mem_of_lookup hk)
      obtain ⟨c, hc⟩ := lookup_some_of_mem hc0
      exact .inr ⟨by rw [Df.names]; exact hk, by rw [hc]; rfl⟩
  · refine wpAny_mono (h s₁ (call_st Df ok nt r hl x)) (fun fl s' h' => ?_) fun _ _ x => x.elim
    obtain ⟨v, rfl, hq⟩ := h'
    exact hq
theorem contract_of {f : Str} {names : NS} {body : List Stmt} {params : List Str} {a : Addr} {o : Obj} {fd : FuncData} (Df : Def W f names body params a o fd) {args : List AV} {d : AV} (hl : args.length = params.length)
    (h : Tri W lv names (Def.wr names) (execs body) (args0 params args) (fun _ => False) (fun d' => d' = d)) : Contract W (lv + 1) f args d := by
  refine ⟨a, o, fd, Df.mg, Df.data, Df.obj, fun A D s vs R ok nt r => ?_⟩
  refine call_enter Df (by have := R.depth; omega) ok nt r hl fun s₁ S => ?_
  refine wpAny_mono (h.run (R.deeper _) Df.names S) (fun fl s' h' => ?_) fun _ _ x => x
  rcases h' with ⟨_, _, _, _, hf, _⟩ | ⟨v, d', D', rfl, rfl, h3, h4⟩
  · exact hf.elim
  · exact ⟨v, rfl, D', h3, h4⟩
end
end Mine
set_option maxRecDepth 10000
set_option linter.unusedVariables false
namespace Mine
open PySem PyProof.Rows
section
variable {W : Wd} {C : Cfg} {lv n : Nat} {A : Around} {env : Env} {wr : List Str} {D₀ D D' : Fz} {s₀ s s' : Shared} {σ σ' : Sg} {oa : Str → Addr} {sc : NS} {N N' : Sg → Prop} {Rt Rt' : AV → Prop} {m : Env → Sem Flow}
theorem Tri.assign2 (Gd : Good W C lv) {x y : Str} {px py p p' pos : Pos} {k k' : Nat} {e1 e2 : Expr} {d1 d2 : AV} (n : Nat) (he : aeval C n sc σ (.Tuple [e1, e2] k' p') = some (.tuple [d1, d2]))
    (hx : wr.contains x = true) (hy : wr.contains y = true)
    (hw : ∀ env : Env, env.scope.names = sc → env.scope.kind = .function → swappedStores [.Tuple [.Name x px, .Name y py] k p] (.Tuple [e1, e2] k' p') env = pure (some [x, y])) (hN : N (put (put σ y (false, d2)) x (false, d1))) :
    Tri W lv sc wr (exec (.Assign [.Tuple [.Name x px, .Name y py] k p] (.Tuple [e1, e2] k' p') pos)) σ N Rt := .mk fun {A env D₀ s₀ D s oa} R hsc S => by
  refine Assign_Tuple_swapped (wpAny_mono ((all_ok Gd n).1 _ _ _ _ he R hsc S) (fun v s₁ h₁ => ?_) fun _ _ x => x) sole_tuple (hw env hsc S.kind)
  obtain ⟨D₁, x₁, rv⟩ := h₁
  have S₁ := S.step x₁
  obtain ⟨a, vs, n1, rfl, h1, r1⟩ := rv.tuple'
  cases r1 with | @cons _ v1 _ _ q1 r1 => cases r1 with | @cons _ v2 _ _ q2 r1 =>
    cases r1
    refine unpackItems_tuple (items := #[v1, v2]) R.handled ⟨_, S₁.fz _ _ h1, rfl, _, rfl⟩ fun h' hx' => ?_
    have S₂ := S₁.step (keep_ext S₁.ok (tk := s₁.toks) (extBut_keep hx'))
    have e : assignInOrder (([x, y] : List Str).reverse.map fun n => bindName env n) [v1, v2].reverse = (holding [v1] (bindName env y v2) >>= fun _ => (holding [] (bindName env x v1) >>= fun _ => pure ())) := rfl
    show wpAny _ _ (assignInOrder (([x, y] : List Str).reverse.map fun n => bindName env n) [v1, v2].reverse) _ _ _
    rw [e]
    refine wpAny_bind (wpAny_holding (wpAny_bindName (S₂.store Gd.firm (u := (false, d2)) (by simpa using hy) (fun _ => q2) (fun h => by cases h) fun s₃ oa₃ S₃ _ => ?_)))
    refine wpAny_bind (wpAny_holding (wpAny_bindName (S₃.store Gd.firm (u := (false, d1)) (by simpa using hx) (fun _ => q1) (fun h => by cases h) fun s₄ oa₄ S₄ _ => ?_)))
    exact wpAny_pure (.inl ⟨rfl, _, _, _, hN, S₄⟩)
theorem strs_rep {P : Params} : ∀ (t : Nat) (ps : List Str), RepL P D (ps.map .str) (strsFrom t ps)
  | t, [] => .nil
  | t, x :: r => .cons (.str _ _) (strs_rep (t + 1) r)
open Builtin.Str in
theorem Tri.assignSplit (Gd : Good W C lv) {x : Str} {px apos cpos pos : Pos} {o a : Expr} {s1 s2 : Str} {ps : List Str} (n : Nat) (ho : aeval C n sc σ o = some (.str s1)) (ha : aeval C n sc σ a = some (.str s2)) (hb : plainBase o = true) (hp : plainArg a = true)
    (hline : (apos.endLine == cpos.line) = true) (h1 : (decide (s1.length < s2.length) || decide (Builtin.Str.strKind s1 < Builtin.Str.strKind s2)) = false) (hy : (s2.length == 0) = false) (hf : (occurrences s1 s2 0 s1.length (s1.length + 1)).isEmpty = false) (hs1 : s1.length ≤ 1000)
    (hps : partsBetween s1 (occurrences s1 s2 0 s1.length (s1.length + 1)) s2.length = ps) (hpl : ps.length ≤ 1000) (hx : wr.contains x = true) (hN : N (put σ x (true, .list (ps.map .str)))) :
    Tri W lv sc wr (exec (.Assign [.Name x px] (.Call (.Attribute o "split" apos) [a] [] cpos) pos)) σ N Rt := .mk fun {A env D₀ s₀ D s oa} R hsc S => by
  have HE := (all_ok Gd n).1
  have hpl' : allPlain [a] = true := by simp [allPlain, hp]
  refine wpAny_Assign_Name (method_w hb hpl' (by simp) hline (wpAny_mono (HE _ _ _ _ ho R hsc S) (fun ov s₁ h₁ => ?_) fun _ _ x => x)) rfl
  obtain ⟨D₁, x₁, rv⟩ := h₁
  obtain ⟨t, rfl⟩ := rv.str'
  refine ⟨"str", "str.split", F.plainAttrs_str, F.slot_str_split, F.type_str_split, typeIs_str _ _ _, nofun, ?_⟩
  refine wpAny_mono ((SArgs.cons hp (HE.sev ha) .nil).run R hsc (S.step x₁)) (fun as s₂ h₂ => ?_) fun _ _ x => x
  obtain ⟨D₂, x₂, ra⟩ := h₂
  cases ra with | @cons _ v _ _ r1 ra =>
    cases ra
    obtain ⟨u, rfl⟩ := r1.str'
    subst hps
    refine call_meets F.slot_str_split (typeIs_str _ _ _) F.entry_str_split (F.args_str_split_2 _ _) (meets_str_split_sep s1 s2 t u h1 hy hf (by rw [sizeLine_eq]; omega) (by rw [sizeLine_eq]; omega)) ?_
    have x12 := x₁.trans S.glob x₂
    have ok₂ : Ok W D₂ s₂ := .ext x12
    refine store_own (d := .list ((partsBetween s1 (occurrences s1 s2 0 s1.length (s1.length + 1)) s2.length).map .str)) Gd.firm S (by simpa using hx) (x12.trans S.glob (ok₂.push _ _)) (o := lObj (strsFrom s₂.toks (partsBetween s1 (occurrences s1 s2 0 s1.length (s1.length + 1)) s2.length)) 0) (Heap.get?_push_size _ rfl) ⟨_, 0, rfl, strs_rep _ _⟩ (x12.back (get_size _)) ok₂.none_size fun s'' oa' S' => .inl ⟨rfl, _, _, _, hN, S'⟩
end
end Mine
set_option maxRecDepth 10000
set_option linter.unusedVariables false
namespace Mine
open PySem PyProof.Rows
theorem omap_all {α β : Type} {f : α → Option β} {g : α → β} {l : List α} (h : ∀ a ∈ l, f a = some (g a)) : omap f l = some (l.map g) := by
  induction l with
  | nil => rfl
  | cons a l ih =>
    show ((f a).bind fun b => (omap f l).map fun bs => b :: bs) = _
    rw [h a List.mem_cons_self, ih fun b hb => h b (List.mem_cons_of_mem _ hb)]
    rfl
theorem bsel (b : Bool) : ((some b).bind fun b => if b = true then some true else some false) = some b := by cases b <;> rfl
theorem flatten_ite {α β : Type} (b : α → Bool) (v : α → β) : ∀ (l : List α), (l.map fun d => if b d = true then [v d] else []).flatten = (l.filter b).map v
  | [] => rfl
  | a :: l => by
    rw [List.map_cons, List.flatten_cons, flatten_ite b v l, List.filter_cons]
    cases b a <;> simp
section
variable {β : Type} {te : TeT} {it : ItT} {ev : EvT} {sc : NS} {wr : List Str} {emit : Sg → Option β} {σ : Sg}
theorem agen_one {g : Comprehension} {items : List AV} (σ₁ : AV → Sg) (b : AV → Bool) (v : AV → β) (hf : freshT σ g.target = true) (h1 : ∀ d ∈ items, atgt wr σ g.target d = some (σ₁ d)) (h2 : ∀ d ∈ items, atests (te sc (σ₁ d)) g.ifs = some (b d))
    (h3 : ∀ d ∈ items, b d = true → emit (σ₁ d) = some (v d)) : agen te it sc wr emit [g] items σ = some ((items.filter b).map v) := by
  unfold agen
  rw [if_pos hf, omap_all (g := fun d => if b d = true then [v d] else []) (fun d hd => ?_)]
  · rw [Option.map_some, flatten_ite]
  · dsimp only
    rw [h1 d hd, Option.bind_some, h2 d hd, Option.bind_some]
    cases q : b d with
    | false => rfl
    | true => rw [h3 d hd q]; rfl
theorem agen_two {g g' : Comprehension} {items : List AV} (σ₁ : AV → Sg) (items' : AV → List AV) (r : AV → List β) (hf : freshT σ g.target = true) (h1 : ∀ d ∈ items, atgt wr σ g.target d = some (σ₁ d)) (h2 : g.ifs = [])
    (h3 : ∀ d ∈ items, it sc (σ₁ d) g'.target g'.iter = some (items' d)) (h4 : ∀ d ∈ items, agen te it sc wr emit [g'] (items' d) (σ₁ d) = some (r d)) : agen te it sc wr emit [g, g'] items σ = some (items.map r).flatten := by
  unfold agen
  rw [if_pos hf, omap_all (g := r) (fun d hd => ?_)]
  · rfl
  · dsimp only
    rw [h1 d hd, Option.bind_some, h2]
    show ((it sc (σ₁ d) g'.target g'.iter).bind fun items' => agen te it sc wr emit [g'] items' (σ₁ d)) = some (r d)
    rw [h3 d hd]
    exact h4 d hd
theorem acomp_of {outer : NS} {scope : Scope} {g : Comprehension} {gs : List Comprehension} {items : List AV} {rs : List β} (h0 : (compOk scope outer σ && syncOk (g :: gs)) = true) (hit : it outer σ g.target g.iter = some items)
    (hag : agen te it (relNames scope outer) (ownNames scope) emit (g :: gs) items (compSg scope σ) = some rs) (hlen : rs.length ≤ 1000000) : acomp ev te it outer σ scope (g :: gs) emit = some rs := by
  unfold acomp
  dsimp only
  rw [if_pos h0, hit, Option.bind_some, hag]
  exact if_pos hlen
end
section
variable {C : Cfg} {n : Nat} {sc : NS} {σ : Sg}
theorem aeval_listcomp {elt : Expr} {gens : List Comprehension} {scope : Scope} {p : Pos} {rs : List AV} (h : acomp (aeval C n) (atest C n) (aiter C n) sc σ scope gens (fun σ₁ => aeval C n (relNames scope sc) σ₁ elt) = some rs) :
    aeval C (n + 1) sc σ (.ListComp elt gens scope p) = some (.list rs) := by
  show (acomp (aeval C n) (atest C n) (aiter C n) sc σ scope gens (fun σ₁ => aeval C n (relNames scope sc) σ₁ elt)).map AV.list = _
  rw [h]; rfl
theorem aeval_one {f : Str} {e : Expr} {p pos : Pos} {a d : AV} (hb : abor C (aeval C n sc σ) sc σ e = aeval C n sc σ e) (he : aeval C n sc σ e = some a) (hp : plainArg e = true) (hi : isInst sc f [e] = false) (hf : (f == ("len" : Str) || f == ("sum" : Str)) = true) (h : acall C sc f [a] = some d) :
    aeval C (n + 1) sc σ (.Call (.Name f p) [e] [] pos) = some d := by
  show acallN C (aeval C n sc σ) sc σ f [e] = some d
  unfold acallN
  rw [hi, if_neg Bool.false_ne_true, if_pos hf]
  show (if plainArg e = true then (abor C (aeval C n sc σ) sc σ e).bind fun a => acall C sc f [a] else none) = some d
  rw [if_pos hp, hb, he]
  exact h
theorem aeval_sum {e : Expr} {p pos : Pos} {l : List AV} {r : Int} (he : aeval C n sc σ e = some (.list l)) (hb : abor C (aeval C n sc σ) sc σ e = aeval C n sc σ e) (hp : plainArg e = true) (hs : asum l = some r) (hl : l.length ≤ 1000000) (hk : List.lookup ("sum" : Str) sc = some .globalImplicit) :
    aeval C (n + 1) sc σ (.Call (.Name "sum" p) [e] [] pos) = some (.int r) :=
  aeval_one (f := "sum") hb he hp rfl rfl ((if_pos (by rw [hk]; rfl)).trans (show asumv (.list l) = _ from (if_pos hl).trans (by rw [hs]; rfl)))
theorem aeval_len {e : Expr} {p pos : Pos} {l : List AV} (he : aeval C n sc σ e = some (.list l)) (hb : abor C (aeval C n sc σ) sc σ e = aeval C n sc σ e) (hp : plainArg e = true) (hl : l.length ≤ 1000000) (hk : List.lookup ("len" : Str) sc = some .globalImplicit) :
    aeval C (n + 1) sc σ (.Call (.Name "len" p) [e] [] pos) = some (.int l.length) :=
  aeval_one (f := "len") hb he hp rfl rfl ((if_pos (by rw [hk]; rfl)).trans (if_pos hl))
end
end Mine
set_option Elab.async false
set_option maxRecDepth 100000
set_option maxHeartbeats 8000000
namespace Mine
open PySem PySem.W PyProof.Rows
noncomputable section
noncomputable def isNameSt : Stmt → Bool
  | .Assign [.Name x _] _ _ => x == ("__name__" : Str)
  | _ => false
noncomputable def view : Program := { PySem.Challenge.pw_pe0190_01 with main := { PySem.Challenge.pw_pe0190_01.main with body := PySem.Challenge.pw_pe0190_01.main.body.filter fun s => !isNameSt s } }
noncomputable abbrev theRow : OpenRow := PySem.Challenge.rw_pe0190_01.row
end
theorem left0 : LeftO PySem.Challenge.pw_pe0190_01 view [] (fun s => recOk theRow.records s) (fun _ => ()) (fun _ => ()) 1274 := fun w => by kernel_rfl
theorem law_found : (defOf view "law").isSome = true := by kernel_rfl
noncomputable def lawRec : DefRec := ((defOf view "law").get law_found).1
theorem saidRow : theRow.wellSaid = true := by
  delta OpenRow.wellSaid OpenRow.partSaid looksOpen
  repeat' (with_reducible refine look_both ?_ ?_)
  all_goals decide +kernel
theorem saidLaw : PySem.Challenge.rw_pe0190_01.wellSaid = true := by
  delta OpenLaw.wellSaid
  repeat' (with_reducible refine look_both ?_ ?_)
  · exact saidRow
  all_goals decide +kernel
theorem hdN (call : WalkO view [] (fun _ _ => True) (fun _ _ => True) theRow.toRowW lawRec [] fun f vs => PySem.call f vs) : PySem.Challenge.rw_pe0190_01.Holds := by
  refine holds_law saidLaw fun said => ?_
  refine holds_open (q := view) (loose := []) (Xt := fun s => recOk theRow.records s) (XP := fun _ _ => True) (Yf := fun _ => ()) (Ya := fun _ => ()) (YP := fun _ _ => True) (d := lawRec) (kwd := []) (N := 1274) left0 (fun _ _ _ => trivial) (fun _ _ _ _ _ => trivial) (fun _ _ => trivial) (fun _ _ _ _ _ => trivial)
    (by kernel_rfl) (by kernel_rfl) (by kernel_rfl) (fun s e => recFacts_of e) (by rfl) said (by decide +kernel) ⟨rfl, rfl, rfl, rfl, rfl, by decide +kernel⟩ (by exact ⟨[.list []], by decide +kernel, by decide +kernel⟩) call
end Mine
set_option maxRecDepth 100000
set_option linter.unusedVariables false
namespace Mine
open PySem PyProof.Rows
noncomputable section
/-- where a def stands in the text -/
noncomputable def ixOf : Addr → Nat
  | 21 => 2
  | 35 => 4
  | 42 => 5
  | 49 => 6
  | 56 => 7
  | 63 => 10
  | 70 => 12
  | 77 => 13
  | 84 => 14
  | 91 => 15
  | 96 => 17
  | 103 => 18
  | 108 => 19
  | 113 => 20
  | 118 => 21
  | _ => 0
noncomputable def stOf (a : Addr) : Stmt := (PySem.Challenge.pw_pe0190_01.main.body[ixOf a]?).getD (.Pass ⟨0, 0, 0, 0⟩)
noncomputable def bd (P : Params) (a : Addr) : List Stmt := match stOf a with
  | .FunctionDef _ _ b _ _ _ _ _ _ _ => b
  | _ => []
noncomputable def scp (a : Addr) : Scope := match stOf a with
  | .FunctionDef _ _ _ _ _ _ sc _ _ _ => sc
  | _ => { kind := .module, names := [], isGenerator := false, isCoroutine := false }
noncomputable def prm (a : Addr) : Arguments := match stOf a with
  | .FunctionDef _ p _ _ _ _ _ _ _ _ => p
  | _ => ⟨[], [], none, [], [], none, []⟩
noncomputable def dnm (a : Addr) : Str := match stOf a with
  | .FunctionDef x _ _ _ _ _ _ _ _ _ => x
  | _ => ""
noncomputable def nm (P : Params) (a : Addr) : NS := (scp a).names
end
noncomputable def subL : Sg → Sg → Prop
  | [], _ => True
  | (x, u) :: r, σ => σ.lookup x = some u ∧ subL r σ
theorem sub_of {L σ : Sg} (h : subL L σ) : Sub L σ := by
  induction L with
  | nil => intro x u e; cases e
  | cons p r ih =>
    obtain ⟨y, v⟩ := p
    intro x u e
    rw [List.lookup_cons] at e
    cases q : x == y with
    | true =>
      rw [q] at e
      have : x = y := by simpa using q
      subst this
      cases e
      exact h.1
    | false =>
      rw [q] at e
      exact ih h.2 x u e
theorem Sub.refl {σ : Sg} : Sub σ σ := fun _ _ e => e
section
variable {W : Wd} {C : Cfg} {lv n : Nat} {P : Params}
theorem tri_count (Gd : Good W C lv) (m : List (Str × AV)) (is : List Int) (h : m.map (·.2) = is.map .int) (hl : m.length ≤ 1000) :
    Tri W lv (nm P 91) (Def.wr (nm P 91)) (execs (bd P 91)) (args0 ["callers"] [.dict m]) (fun _ => False) (fun d => d = .int is.sum) := by
  refine Tri.seq (Tri.assign Gd 5 (d := .int 0) (by kernel_rfl) (by kernel_rfl) rfl ?_)
  refine Tri.seq (Tri.for_ Gd 5 (items := is.map .int) ?_ (fun k σ₁ => Sub [("nc", (false, .int (is.take k).sum))] σ₁) ?_ ?_ ?_)
  · refine Eq.trans (b := if m.length ≤ 1000 then some (m.map (·.2)) else none) (by kernel_rfl) ?_
    rw [if_pos hl, h]
  · exact sub_of ⟨by kernel_rfl, trivial⟩
  · intro k d σ₁ hk hI
    obtain ⟨i, hi, rfl⟩ : ∃ i, is[k]? = some i ∧ d = .int i := by
      rw [List.getElem?_map] at hk
      cases q : is[k]? with
      | none => rw [q] at hk; cases hk
      | some i => rw [q] at hk; cases hk; exact ⟨i, rfl, rfl⟩
    refine ⟨[("nc", (false, .int (is.take k).sum))], [("nc", (false, .int (is.take k).sum)), ("calls", (false, .int i))], hI, by kernel_rfl, ?_⟩
    refine Tri.seq (Tri.aug Gd 5 (d₀ := .int (is.take k).sum) (d₁ := .int i) (d := .int ((is.take k).sum + i)) (by kernel_rfl) (by kernel_rfl) (by kernel_rfl) rfl (by kernel_rfl) ?_)
    refine Tri.nil (sub_of ⟨?_, trivial⟩)
    have e : (is.take (k + 1)).sum = (is.take k).sum + i := by rw [List.take_add_one, hi]; simp
    rw [e]
    kernel_rfl
  · intro σ₁ hI
    refine Tri.weaken hI (Tri.seq (Tri.ret Gd 5 (d := .int (is.take (is.map AV.int).length).sum) (by kernel_rfl) ?_))
    rw [List.length_map, List.take_length]
end
end Mine
set_option maxRecDepth 100000
set_option linter.unusedVariables false
namespace Mine
open PySem PyProof.Rows
noncomputable def addc (t : List (Str × AV)) (k : Str) (c : Int) : List (Str × AV) := match dget t k with
  | some (.int v) => dput t k (.int (v + c))
  | _ => dput t k (.int c)
theorem dput_new {m : List (Str × AV)} {a : Str} {v : AV} (h : a ∉ m.map (·.1)) : dput m a v = m ++ [(a, v)] := by
  induction m with
  | nil => rfl
  | cons p r ih =>
    obtain ⟨k, d⟩ := p
    simp only [List.map_cons, List.mem_cons, not_or] at h
    unfold dput
    rw [if_neg h.1, ih h.2]; rfl
theorem take_put {t : List (Str × AV)} (hn : (t.map (·.1)).Nodup) {j : Nat} {p : Str × AV} (h : t[j]? = some p) : dput (t.take j) p.1 p.2 = t.take (j + 1) := by
  rw [dput_new, List.take_add_one, h]
  · rfl
  · intro hm
    obtain ⟨hj, e⟩ := List.getElem?_eq_some_iff.mp h
    rw [List.map_take] at hm
    obtain ⟨i, hi, ei⟩ := List.mem_iff_getElem.mp hm
    have hi' : i < j := by simp at hi; omega
    have := List.nodup_iff_pairwise_ne.mp hn
    rw [List.pairwise_iff_getElem] at this
    refine this i j (by simp; omega) (by simpa using hj) hi' ?_
    simp at ei ⊢
    rw [ei, e]
section
variable {W : Wd} {C : Cfg} {lv n : Nat} {P : Params}
theorem tri_addc (Gd : Good W C lv) (t : List (Str × AV)) (k : Str) (c : Int) (hn : (t.map (·.1)).Nodup) (hl : t.length ≤ 900) (hi : ∀ d, dget t k = some d → ∃ v, d = .int v) :
    Tri W lv (nm P 84) (Def.wr (nm P 84)) (execs (bd P 84)) (args0 ["target", "source"] [.dict t, .dict [(k, .int c)]]) (fun _ => False) (fun d => d = .dict (addc t k c)) := by
  refine Tri.seq (Tri.assignO Gd 5 (d := .dict []) (by kernel_rfl) (by kernel_rfl) ?_)
  refine Tri.seq (Tri.for_ Gd 5 (items := t.map fun p => .tuple [.str p.1, p.2]) ?_ (fun j σ₁ => Sub [("source", (false, .dict [(k, .int c)])), ("new_callers", (true, .dict (t.take j)))] σ₁) ?_ ?_ ?_)
  · refine Eq.trans (b := if t.length ≤ 1000 then some (t.map fun p => .tuple [.str p.1, p.2]) else none) (by kernel_rfl) ?_
    rw [if_pos (by omega)]
  · exact sub_of ⟨by kernel_rfl, by kernel_rfl, trivial⟩
  · intro j d σ₁ hj hI
    obtain ⟨p, hp, rfl⟩ : ∃ p, t[j]? = some p ∧ d = .tuple [.str p.1, p.2] := by
      rw [List.getElem?_map] at hj
      cases q : t[j]? with
      | none => rw [q] at hj; cases hj
      | some p => rw [q] at hj; cases hj; exact ⟨p, rfl, rfl⟩
    refine ⟨_, [("source", (false, .dict [(k, .int c)])), ("new_callers", (true, .dict (t.take j))), ("func", (false, .str p.1)), ("caller", (false, p.2))], hI, by kernel_rfl, ?_⟩
    refine Tri.seq (Tri.setD Gd 5 (m := t.take j) (y := p.1) (d := p.2) (by kernel_rfl) (by kernel_rfl) (by kernel_rfl) (by kernel_rfl) rfl (by simp; omega) ?_)
    rw [take_put hn hp]
    exact Tri.nil (sub_of ⟨by kernel_rfl, by kernel_rfl, trivial⟩)
  · intro σ₁ hI
    rw [List.length_map, List.take_length] at hI
    refine Tri.weaken hI ?_
    refine Tri.seq (Tri.for_ Gd 5 (items := [.tuple [.str k, .int c]]) (by kernel_rfl) (fun j σ₁ => Sub [("new_callers", (true, .dict (if j = 0 then t else addc t k c)))] σ₁) ?_ ?_ ?_)
    · exact sub_of ⟨by kernel_rfl, trivial⟩
    · intro j d σ₁ hj hI
      cases j with
      | succ j => simp at hj
      | zero =>
        cases hj
        refine ⟨_, [("new_callers", (true, .dict t)), ("func", (false, .str k)), ("caller", (false, .int c))], hI, by kernel_rfl, ?_⟩
        refine Tri.seq (Tri.ite Gd 5 (b := (dget t k).isSome) (by kernel_rfl) (fun hb => ?_) fun hb => ?_)
        · obtain ⟨d, hd⟩ := Option.isSome_iff_exists.mp hb
          obtain ⟨v, rfl⟩ := hi d hd
          refine Tri.seq (Tri.ite Gd 5 (b := false) (by kernel_rfl) (fun h => by cases h) fun _ => ?_)
          refine Tri.seq (Tri.augD Gd 5 (m := t) (y := k) (d₀ := .int v) (d₁ := .int c) (d := .int (v + c)) (by kernel_rfl) (by kernel_rfl) (by kernel_rfl) rfl hd (by kernel_rfl) (by kernel_rfl) (by omega) ?_)
          have e : addc t k c = dput t k (.int (v + c)) := by unfold addc; rw [hd]
          rw [← e]
          exact Tri.nil (Tri.nil (Tri.nil (sub_of ⟨by kernel_rfl, trivial⟩)))
        · have hd : dget t k = none := by
            cases q : dget t k with
            | none => rfl
            | some d => rw [q] at hb; cases hb
          refine Tri.seq (Tri.setD Gd 5 (m := t) (y := k) (d := .int c) (by kernel_rfl) (by kernel_rfl) (by kernel_rfl) (by kernel_rfl) rfl (by omega) ?_)
          have e : addc t k c = dput t k (.int c) := by unfold addc; rw [hd]
          rw [← e]
          exact Tri.nil (Tri.nil (sub_of ⟨by kernel_rfl, trivial⟩))
    · intro σ₁ hI
      refine Tri.weaken hI (Tri.freeze ["new_callers"] (Tri.seq (Tri.ret Gd 5 (d := .dict (addc t k c)) (by kernel_rfl) rfl)))
end
end Mine
set_option maxRecDepth 100000
set_option linter.unusedVariables false
namespace Mine
open PySem PyProof.Rows
section
variable {W : Wd} {C : Cfg} {lv n : Nat} {P : Params}
theorem tri_stats (Gd : Good W C lv) (a1 a2 a3 a4 b1 b2 b3 b4 : Int) (s t : List (Str × AV)) (r : AV) (hΦ : C.Φ "add_callers" [.dict t, .dict s] = some r) :
    Tri W lv (nm P 77) (Def.wr (nm P 77)) (execs (bd P 77)) (args0 ["target", "source"] [.tuple [.int b1, .int b2, .int b3, .int b4, .dict t], .tuple [.int a1, .int a2, .int a3, .int a4, .dict s]]) (fun _ => False)
      (fun d => d = .tuple [.int (a1 + b1), .int (a2 + b2), .int (a3 + b3), .int (a4 + b4), r]) := by
  refine Tri.seq (Tri.assignT Gd 5 (d := .tuple [.int a1, .int a2, .int a3, .int a4, .dict s]) (σ' := args0 ["target", "source", "cc", "nc", "tt", "ct", "callers"] [.tuple [.int b1, .int b2, .int b3, .int b4, .dict t], .tuple [.int a1, .int a2, .int a3, .int a4, .dict s], .int a1, .int a2, .int a3, .int a4, .dict s])
    (by kernel_rfl) rfl (by kernel_rfl) ?_)
  refine Tri.seq (Tri.assignT Gd 5 (d := .tuple [.int b1, .int b2, .int b3, .int b4, .dict t]) (σ' := args0 ["target", "source", "cc", "nc", "tt", "ct", "callers", "t_cc", "t_nc", "t_tt", "t_ct", "t_callers"] [.tuple [.int b1, .int b2, .int b3, .int b4, .dict t], .tuple [.int a1, .int a2, .int a3, .int a4, .dict s], .int a1, .int a2, .int a3, .int a4, .dict s, .int b1, .int b2, .int b3, .int b4, .dict t])
    (by kernel_rfl) rfl (by kernel_rfl) ?_)
  refine Tri.seq (Tri.ret Gd 6 (d := .tuple [.int (a1 + b1), .int (a2 + b2), .int (a3 + b3), .int (a4 + b4), r]) ?_ rfl)
  refine Eq.trans (b := (omap id [some (AV.int (a1 + b1)), some (.int (a2 + b2)), some (.int (a3 + b3)), some (.int (a4 + b4)), C.Φ "add_callers" [.dict t, .dict s]]).map .tuple) (by kernel_rfl) ?_
  rw [hΦ]; rfl
end
/-! ## the book -/
noncomputable def nA : Str := "a:1(f)"
noncomputable def nB : Str := "a:12(g)"
noncomputable def nC : Str := "b:1(g)"
noncomputable def nD : Str := "{f}"
noncomputable def nam : Nat → Str
  | 0 => nA
  | 1 => nB
  | 2 => nC
  | _ => nD
noncomputable def namesV : List AV := [.str nA, .str nB, .str nC, .str nD]
/-- an entry: primitive calls, calls, callers -/
structure Ent where
  cc : Int
  nc : Int
  t : List (Str × AV)
noncomputable def Ent.av (e : Ent) : AV := .tuple [.int e.cc, .int e.nc, .int 0, .int 0, .dict e.t]
noncomputable def bookV (e : Nat → Ent) : List (Str × AV) := [(nA, (e 0).av), (nB, (e 1).av), (nC, (e 2).av), (nD, (e 3).av)]
/-- one call entered -/
noncomputable def Ent.add (e : Ent) (i j : Nat) (c : Int) : Ent := ⟨(if i = j then 0 else c) + e.cc, c + e.nc, addc e.t (nam j) c⟩
noncomputable def enter (e : Nat → Ent) (i j : Nat) (c : Int) : Nat → Ent := fun k => if k = i then (e i).add i j c else e k
structure Cal where
  p : Nat
  q : Nat
  c : Int
noncomputable def Cal.av (x : Cal) : AV := .tuple [.int x.p, .int x.q, .int x.c]
noncomputable def Cal.ok (x : Cal) : Prop := x.p < 4 ∧ x.q < 4
noncomputable def enterAll (e : Nat → Ent) : List Cal → Nat → Ent
  | [] => e
  | x :: r => enterAll (enter e x.p x.q x.c) r
noncomputable def ent0 : Nat → Ent := fun _ => ⟨0, 0, []⟩
section
variable {W : Wd} {C : Cfg} {lv n : Nat} {P : Params}
/-- what add_func_stats must give at each step -/
noncomputable def StatsOk (C : Cfg) (e : Nat → Ent) (x : Cal) : Prop :=
  C.Φ "add_func_stats" [(e x.p).av, .tuple [.int (if x.p = x.q then 0 else x.c), .int x.c, .int 0, .int 0, .dict [(nam x.q, .int x.c)]]] = some ((e x.p).add x.p x.q x.c).av
noncomputable def AllStats (C : Cfg) : (Nat → Ent) → List Cal → Prop
  | _, [] => True
  | e, x :: r => StatsOk C e x ∧ AllStats C (enter e x.p x.q x.c) r
theorem nat4 {p : Nat} (h : p < 4) : p = 0 ∨ p = 1 ∨ p = 2 ∨ p = 3 := by omega
theorem tri_book (Gd : Good W C lv) (cs : List Cal) (hc : ∀ x ∈ cs, x.ok) (hl : cs.length ≤ 1000) (hs : AllStats C ent0 cs) :
    Tri W lv (nm P 96) (Def.wr (nm P 96)) (execs (bd P 96)) (args0 ["calls", "texts"] [.list (cs.map Cal.av), .list namesV]) (fun _ => False) (fun d => d = .dict (bookV (enterAll ent0 cs))) := by
  refine Tri.seq (Tri.assignD Gd true 6 (rs := bookV ent0) (by kernel_rfl) (by kernel_rfl) ?_)
  refine Tri.seq (Tri.for_ Gd 5 (items := cs.map Cal.av) ?_ (fun k σ₁ => ∃ e, Sub [("texts", (false, .list namesV)), ("book", (true, .dict (bookV e)))] σ₁ ∧ AllStats C e (cs.drop k) ∧ enterAll e (cs.drop k) = enterAll ent0 cs) ?_ ?_ ?_)
  · refine Eq.trans (b := if (cs.map Cal.av).length ≤ 1000 then some (cs.map Cal.av) else none) (by kernel_rfl) ?_
    rw [if_pos (by simpa using hl)]
  · exact ⟨ent0, sub_of ⟨by kernel_rfl, by kernel_rfl, trivial⟩, hs, rfl⟩
  · intro k d σ₁ hk hI
    obtain ⟨e, hsub, hst, hen⟩ := hI
    obtain ⟨x, hx, rfl⟩ : ∃ x, cs[k]? = some x ∧ d = x.av := by
      rw [List.getElem?_map] at hk
      cases q : cs[k]? with
      | none => rw [q] at hk; cases hk
      | some p => rw [q] at hk; cases hk; exact ⟨p, rfl, rfl⟩
    have hdrop : cs.drop k = x :: cs.drop (k + 1) := by
      obtain ⟨hlt, hx'⟩ := List.getElem?_eq_some_iff.mp hx
      rw [List.drop_eq_getElem_cons hlt, hx']
    rw [hdrop] at hst hen
    obtain ⟨p, q, c⟩ := x
    have hok := hc _ (List.mem_of_getElem? hx)
    obtain ⟨hp, hq⟩ := hok
    obtain ⟨h1, h2⟩ := hst
    refine ⟨_, [("texts", (false, .list namesV)), ("book", (true, .dict (bookV e))), ("callee", (false, .int p)), ("caller", (false, .int q)), ("count", (false, .int c))], hsub, by kernel_rfl, ?_⟩
    refine Tri.seq (Tri.assign Gd 7 (d := .tuple [.int (if p = q then 0 else c), .int c, .int 0, .int 0, .dict [(nam q, .int c)]]) ?_ (by kernel_rfl) rfl ?_)
    · rcases nat4 hp with rfl | rfl | rfl | rfl <;> rcases nat4 hq with rfl | rfl | rfl | rfl <;> kernel_rfl
    refine Tri.seq (Tri.setD Gd 7 (m := bookV e) (y := nam p) (d := ((e p).add p q c).av) (by kernel_rfl) (by kernel_rfl) ?_ ?_ rfl (by simp [bookV]) ?_)
    · refine Eq.trans (b := C.Φ "add_func_stats" [(e p).av, .tuple [.int (if p = q then 0 else c), .int c, .int 0, .int 0, .dict [(nam q, .int c)]]]) ?_ h1
      rcases nat4 hp with rfl | rfl | rfl | rfl <;> kernel_rfl
    · rcases nat4 hp with rfl | rfl | rfl | rfl <;> kernel_rfl
    · refine Tri.nil ⟨enter e p q c, sub_of ⟨by kernel_rfl, ?_, trivial⟩, h2, hen⟩
      rcases nat4 hp with rfl | rfl | rfl | rfl <;> kernel_rfl
  · intro σ₁ hI
    obtain ⟨e, hsub, hst, hen⟩ := hI
    rw [List.length_map, List.drop_length] at hen
    have hen' : e = enterAll ent0 cs := hen
    refine Tri.weaken hsub (Tri.freeze ["book"] (Tri.seq (Tri.ret Gd 5 (d := .dict (bookV e)) (by kernel_rfl) (by rw [hen']))))
end
end Mine
set_option maxRecDepth 100000
set_option linter.unusedVariables false
namespace Mine
open PySem PyProof.Rows
section
variable {W : Wd} {C : Cfg} {lv n : Nat} {P : Params}
theorem tri_div2 (Gd : Good W C lv) (a b n : Int) (hG : C.Γ "_DIV_LIMIT" = some (.int 4000)) (h1 : (Builtin.Int.intBits a : Int) - n ≤ 4000) (hb : b ≠ 0 ∧ b.natAbs < big) :
    Tri W lv (nm P 21) (Def.wr (nm P 21)) (execs (bd P 21)) (args0 ["a", "b", "n"] [.int a, .int b, .int n]) (fun _ => False) (fun d => d = .tuple [.int (a.fdiv b), .int (a.fmod b)]) := by
  refine Tri.seq (Tri.iteS (b := true) (STe.cmp (a := .int ((Builtin.Int.intBits a : Int) - n)) (b := .int 4000) (SEv.of Gd 6 (by kernel_rfl)) (SEv.name Gd (Eq.trans (b := C.Γ "_DIV_LIMIT") (by kernel_rfl) hG)) ?_ rfl) (fun _ => ?_) fun h => by cases h)
  · show some (decide _) = _
    rw [decide_eq_true h1]
  · refine Tri.seq (Tri.ret Gd 6 (d := .tuple [.int (a.fdiv b), .int (a.fmod b)]) ?_ rfl)
    refine Eq.trans (b := if b ≠ 0 ∧ b.natAbs < big then some (.tuple [.int (a.fdiv b), .int (a.fmod b)]) else none) (by kernel_rfl) ?_
    rw [if_pos hb]
/-- a number by its figures, the lowest first -/
noncomputable def numOf (B : Int) : List Int → Int
  | [] => 0
  | d :: r => d + B * numOf B r
/-- long division from the top: figures (highest first), the quotients, the rest -/
noncomputable def longQ (B b : Int) : Int → List Int → List Int × Int
  | r, [] => ([], r)
  | r, d :: l => ((r * B + d).fdiv b :: (longQ B b ((r * B + d).fmod b) l).1, (longQ B b ((r * B + d).fmod b) l).2)
/-- the state after some figures -/
noncomputable def longR (B b : Int) : Int → List Int → Int
  | r, [] => r
  | r, d :: l => longR B b ((r * B + d).fmod b) l
theorem tri_divpos (Gd : Good W C lv) (a b : Int) (ds : List Int) (q : Int) (hb : 0 < b ∧ b.natAbs < big) (hds : C.Φ "_int2digits" [.int a, .int (Builtin.Int.intBits b)] = some (.list (ds.map .int))) (hl : ds.length ≤ 900)
    (hd2 : ∀ r d, 0 ≤ r → r < b → d ∈ ds → C.Φ "_div2n1n" [.int (r * 2 ^ (Builtin.Int.intBits b) + d), .int b, .int (Builtin.Int.intBits b)] = some (.tuple [.int ((r * 2 ^ (Builtin.Int.intBits b) + d).fdiv b), .int ((r * 2 ^ (Builtin.Int.intBits b) + d).fmod b)]))
    (hq : C.Φ "_digits2int" [.list ((longQ (2 ^ (Builtin.Int.intBits b)) b 0 ds.reverse).1.reverse.map .int), .int (Builtin.Int.intBits b)] = some (.int q)) :
    Tri W lv (nm P 49) (Def.wr (nm P 49)) (execs (bd P 49)) (args0 ["a", "b"] [.int a, .int b]) (fun _ => False) (fun d => d = .tuple [.int q, .int (longQ (2 ^ (Builtin.Int.intBits b)) b 0 ds.reverse).2]) := by
  generalize hn : Builtin.Int.intBits b = k at *
  have hk : k ≤ 64 := by rw [← hn]; exact intBits_small hb.2
  refine Tri.seq (Tri.assign Gd 6 (d := .int (Builtin.Int.intBits b)) (by kernel_rfl) (by kernel_rfl) rfl ?_)
  rw [hn]
  refine Tri.seq (Tri.assign Gd 6 (d := .list (ds.map .int)) ?_ (by kernel_rfl) rfl ?_)
  · exact Eq.trans (b := C.Φ "_int2digits" [.int a, .int k]) (by kernel_rfl) hds
  refine Tri.seq (Tri.assign Gd 6 (d := .int 0) (by kernel_rfl) (by kernel_rfl) rfl ?_)
  refine Tri.seq (Tri.assignO Gd 6 (d := .list []) (by kernel_rfl) (by kernel_rfl) ?_)
  refine Tri.seq (Tri.for_ Gd 6 (items := (ds.map AV.int).reverse) ?_ (fun j σ₁ => ∃ qs r, 0 ≤ r ∧ r < b ∧ qs.length = j ∧ qs ++ (longQ (2 ^ k) b r (ds.reverse.drop j)).1 = (longQ (2 ^ k) b 0 ds.reverse).1 ∧ (longQ (2 ^ k) b r (ds.reverse.drop j)).2 = (longQ (2 ^ k) b 0 ds.reverse).2 ∧
    Sub [("b", (false, .int b)), ("n", (false, .int k)), ("r", (false, .int r)), ("q_digits", (true, .list (qs.map .int)))] σ₁) ?_ ?_ ?_)
  · refine Eq.trans (b := if (ds.map AV.int).length ≤ 1000 then some (ds.map AV.int).reverse else none) (by kernel_rfl) ?_
    rw [if_pos (by simp; omega)]
  · exact ⟨[], 0, Int.le_refl _, hb.1, rfl, rfl, rfl, sub_of ⟨by kernel_rfl, by kernel_rfl, by kernel_rfl, by kernel_rfl, trivial⟩⟩
  · intro j d σ₁ hj hI
    obtain ⟨qs, r, hr0, hrb, hql, hq1, hq2, hsub⟩ := hI
    obtain ⟨x, hx, rfl⟩ : ∃ x, ds.reverse[j]? = some x ∧ d = .int x := by
      rw [← List.map_reverse, List.getElem?_map] at hj
      cases q : ds.reverse[j]? with
      | none => rw [q] at hj; cases hj
      | some p => rw [q] at hj; cases hj; exact ⟨p, rfl, rfl⟩
    have hdrop : ds.reverse.drop j = x :: ds.reverse.drop (j + 1) := by
      obtain ⟨hlt, hx'⟩ := List.getElem?_eq_some_iff.mp hx
      rw [List.drop_eq_getElem_cons hlt, hx']
    have hjl : j < ds.length := by
      have := (List.getElem?_eq_some_iff.mp hx).1
      simpa using this
    have hmem : x ∈ ds := by
      have := List.mem_of_getElem? hx
      simpa using this
    rw [hdrop] at hq1 hq2
    refine ⟨_, [("b", (false, .int b)), ("n", (false, .int k)), ("r", (false, .int r)), ("q_digits", (true, .list (qs.map .int))), ("a_digit", (false, .int x))], hsub, by kernel_rfl, ?_⟩
    refine Tri.seq (Tri.assignTS Gd.firm (d := .tuple [.int ((r * 2 ^ k + x).fdiv b), .int ((r * 2 ^ k + x).fmod b)])
      (σ' := [("b", (false, .int b)), ("n", (false, .int k)), ("r", (false, .int ((r * 2 ^ k + x).fmod b))), ("q_digits", (true, .list (qs.map .int))), ("a_digit", (false, .int x)), ("q_digit", (false, .int ((r * 2 ^ k + x).fdiv b)))])
      (SEv.call Gd (ds := [.int (r * 2 ^ k + x), .int b, .int k]) (.cons rfl (SEv.bin (a := .int (r * 2 ^ k)) (b := .int x) (SEv.bin (a := .int r) (b := .int k) (SEv.of Gd 3 (by kernel_rfl)) (SEv.of Gd 3 (by kernel_rfl)) ?_) (SEv.of Gd 3 (by kernel_rfl)) rfl)
        (.cons rfl (SEv.of Gd 3 (by kernel_rfl)) (.cons rfl (SEv.of Gd 3 (by kernel_rfl)) .nil))) (hd2 r x hr0 hrb hmem) (by kernel_rfl) (by kernel_rfl)) rfl (by kernel_rfl) ?_)
    · show (if 0 ≤ (k : Int) ∧ (k : Int) ≤ 1000000 ∧ r.natAbs < big then some (AV.int (r * 2 ^ (k : Int).toNat)) else none) = some (.int (r * 2 ^ k))
      rw [if_pos ⟨by omega, by omega, by have := hb.2; omega⟩]; rfl
    · refine Tri.seq (Tri.append Gd 6 (l := qs.map .int) (d := .int ((r * 2 ^ k + x).fdiv b)) (by kernel_rfl) (by kernel_rfl) rfl rfl (by kernel_rfl) (by simp; omega) ?_)
      refine Tri.nil ⟨qs ++ [(r * 2 ^ k + x).fdiv b], (r * 2 ^ k + x).fmod b, Int.fmod_nonneg_of_pos _ hb.1, Int.fmod_lt_of_pos _ hb.1, by simp [hql], ?_, ?_, ?_⟩
      · rw [← hq1]; simp [longQ]
      · rw [← hq2]; simp [longQ]
      · refine sub_of ⟨by kernel_rfl, by kernel_rfl, by kernel_rfl, ?_, trivial⟩
        rw [List.map_append]
        kernel_rfl
  · intro σ₁ hI
    obtain ⟨qs, r, hr0, hrb, hql, hq1, hq2, hsub⟩ := hI
    have hlen : ((ds.map AV.int).reverse).length = ds.reverse.length := by simp
    rw [hlen, List.drop_length] at hq1 hq2
    have e1 : qs = (longQ (2 ^ k) b 0 ds.reverse).1 := by simpa [longQ] using hq1
    have e2 : r = (longQ (2 ^ k) b 0 ds.reverse).2 := by simpa [longQ] using hq2
    have hqle : qs.length ≤ 1000 := by rw [hql]; simp; omega
    rw [← e1] at hq
    refine Tri.weaken hsub ?_
    refine Tri.seq (Tri.reverse Gd (l := qs.map .int) (by kernel_rfl) (by kernel_rfl) rfl (by simpa using hqle) ?_)
    refine Tri.freeze ["q_digits"] ?_
    refine Tri.seq (Tri.assign Gd 6 (d := .int q) ?_ (by kernel_rfl) rfl ?_)
    · exact Eq.trans (b := C.Φ "_digits2int" [.list (qs.map AV.int).reverse, .int k]) (by kernel_rfl) (by rw [← List.map_reverse]; exact hq)
    · rw [← e2]
      exact Tri.seq (Tri.ret Gd 6 (by kernel_rfl) rfl)
end
end Mine
set_option maxRecDepth 100000
set_option linter.unusedVariables false
namespace Mine
open PySem PyProof.Rows
section
variable {W : Wd} {C : Cfg} {lv n : Nat} {P : Params}
theorem tri_divmod_nn (Gd : Good W C lv) (a b q r : Int) (ha : 0 ≤ a) (hb : 0 < b) (h : C.Φ "_divmod_pos" [.int a, .int b] = some (.tuple [.int q, .int r])) :
    Tri W lv (nm P 56) (Def.wr (nm P 56)) (execs (bd P 56)) (args0 ["a", "b"] [.int a, .int b]) (fun _ => False) (fun d => d = .tuple [.int q, .int r]) := by
  refine Tri.seq (Tri.ite Gd 6 (b := false) ?_ (fun h => by cases h) fun _ => ?_)
  · refine Eq.trans (b := some (b == 0)) (by kernel_rfl) ?_
    rw [beq_eq_false_iff_ne.mpr (by omega)]
  refine Tri.seq (Tri.ite Gd 6 (b := false) ?_ (fun h => by cases h) fun _ => ?_)
  · refine Eq.trans (b := some (decide (b < 0))) (by kernel_rfl) ?_
    rw [decide_eq_false (by omega)]
  refine Tri.seq (Tri.ite Gd 6 (b := false) ?_ (fun h => by cases h) fun _ => ?_)
  · refine Eq.trans (b := some (decide (a < 0))) (by kernel_rfl) ?_
    rw [decide_eq_false (by omega)]
  exact Tri.seq (Tri.ret Gd 6 (Eq.trans (b := C.Φ "_divmod_pos" [.int a, .int b]) (by kernel_rfl) h) rfl)
theorem tri_divmod_neg (Gd : Good W C lv) (a b q r : Int) (ha : a < 0) (hb : 0 < b) (h : C.Φ "int_divmod" [.int (-a - 1), .int b] = some (.tuple [.int q, .int r])) :
    Tri W lv (nm P 56) (Def.wr (nm P 56)) (execs (bd P 56)) (args0 ["a", "b"] [.int a, .int b]) (fun _ => False) (fun d => d = .tuple [.int (-q - 1), .int (b + (-r - 1))]) := by
  refine Tri.seq (Tri.ite Gd 6 (b := false) ?_ (fun h => by cases h) fun _ => ?_)
  · refine Eq.trans (b := some (b == 0)) (by kernel_rfl) ?_
    rw [beq_eq_false_iff_ne.mpr (by omega)]
  refine Tri.seq (Tri.ite Gd 6 (b := false) ?_ (fun h => by cases h) fun _ => ?_)
  · refine Eq.trans (b := some (decide (b < 0))) (by kernel_rfl) ?_
    rw [decide_eq_false (by omega)]
  refine Tri.seq (Tri.ite Gd 6 (b := true) ?_ (fun _ => ?_) fun h => by cases h)
  · refine Eq.trans (b := some (decide (a < 0))) (by kernel_rfl) ?_
    rw [decide_eq_true (by omega)]
  refine Tri.seq (Tri.assignT Gd 6 (d := .tuple [.int q, .int r]) (σ' := args0 ["a", "b", "q", "r"] [.int a, .int b, .int q, .int r]) (Eq.trans (b := C.Φ "int_divmod" [.int (-a - 1), .int b]) (by kernel_rfl) h) rfl (by kernel_rfl) ?_)
  exact Tri.seq (Tri.ret Gd 6 (by kernel_rfl) rfl)
end
/-! ## the law of long division -/
theorem longQ_spec {B b : Int} (hb : 0 < b) : ∀ (l : List Int) (r : Int), numOf B l.reverse + r * B ^ l.length = numOf B (longQ B b r l).1.reverse * b + (longQ B b r l).2 := by
  have app : ∀ (l : List Int) (d : Int), numOf B (l ++ [d]) = numOf B l + B ^ l.length * d := by
    intro l d
    induction l with
    | nil => simp [numOf]
    | cons x l ih => simp only [List.cons_append, numOf, ih, List.length_cons, Int.pow_succ]; grind
  have len : ∀ (l : List Int) (r : Int), (longQ B b r l).1.length = l.length := by
    intro l
    induction l with
    | nil => intro r; rfl
    | cons d l ih => intro r; simp [longQ, ih]
  intro l
  induction l with
  | nil => intro r; simp [longQ, numOf]
  | cons d l ih =>
    intro r
    simp only [longQ, List.reverse_cons, app, List.length_reverse, List.length_cons, len]
    have h1 := ih ((r * B + d).fmod b)
    have h2 : b * (r * B + d).fdiv b + (r * B + d).fmod b = r * B + d := Int.mul_fdiv_add_fmod _ _
    generalize (r * B + d).fdiv b = q at *
    generalize (r * B + d).fmod b = m at *
    have : B ^ (l.length + 1) = B ^ l.length * B := Int.pow_succ ..
    rw [this]
    generalize B ^ l.length = X at *
    generalize numOf B (longQ B b m l).1.reverse = Y at *
    generalize (longQ B b m l).2 = Z at *
    generalize numOf B l.reverse = V at *
    have e : X * d + r * (X * B) = X * (b * q + m) := by rw [h2]; grind
    grind
theorem longQ_rest {B b : Int} (hb : 0 < b) : ∀ (l : List Int) (r : Int), 0 ≤ r → r < b → 0 ≤ (longQ B b r l).2 ∧ (longQ B b r l).2 < b := by
  intro l
  induction l with
  | nil => intro r h1 h2; exact ⟨h1, h2⟩
  | cons d l ih => intro r h1 h2; exact ih _ (Int.fmod_nonneg_of_pos _ hb) (Int.fmod_lt_of_pos _ hb)
end Mine
set_option maxRecDepth 100000
set_option linter.unusedVariables false
namespace Mine
open PySem PyProof.Rows
noncomputable def rowV (r : List Int) : AV := .list (r.map .int)
noncomputable def rowsV (rows : List (List Int)) : AV := .list (rows.map rowV)
noncomputable def CellOk (C : Cfg) (c z q : Int) : Prop := (1 < c ∧ C.Φ "int_divmod" [.int z, .int c] = some (.tuple [.int q, .int 0])) ∨ (¬ 1 < c ∧ q = z)
structure RowOk (C : Cfg) (c : Int) (top row line : List Int) : Prop where
  len : row.length = top.length
  lenl : line.length + 1 = row.length
  cell : ∀ (j : Nat) x q t0 r0 tj, row[j + 1]? = some x → top[j + 1]? = some tj → line[j]? = some q → top[0]? = some t0 → row[0]? = some r0 → CellOk C c (t0 * x - r0 * tj) q
  small : ∀ r0, row[0]? = some r0 → r0.natAbs < big
inductive Elim (C : Cfg) : Int → List (List Int) → Int → Prop
  | nil (c : Int) : Elim C c [] c
  | cons {c t0 f : Int} {top : List Int} {rest lower : List (List Int)} : top[0]? = some t0 → t0.natAbs < big → top.length ≤ 100 → rest.length ≤ 100 → Paired (RowOk C c top) rest lower → Elim C t0 lower f → Elim C c (top :: rest) f
theorem apick_tail (l : List AV) : apick l (some 1) none none = l.tail := by
  have h := slicePick_from (List.replicate l.length (Value.none)).toArray 1
  cases l with
  | nil => rfl
  | cons a l =>
    unfold apick
    have e : sliceBounds (some (1 : Int)) none none (a :: l).length = ((1 : Int), ((a :: l).length : Int), 1) := by
      simp only [sliceBounds, Option.getD_none, List.length_cons]
      have h1 : ¬ ((1 : Int) < 0) := by omega
      simp only [h1, if_false, show (1 : Int) > 0 by decide, if_true]
      congr 1
      omega
    rw [e]
    have := pick_run (a :: l).toArray 1 l.length
    simp only [List.length_cons]
    rw [show ((1 : Int)) = ((1 : Nat) : Int) from rfl, show (((l.length + 1 : Nat) : Int)) = ((l.length + 1 : Nat) : Int) from rfl]
    have e2 : sliceRange ((1 : Nat) : Int) ((l.length + 1 : Nat) : Int) ((1 : Nat) : Int) = (List.range l.length).map (1 + ·) := by
      have := sliceRange_one 1 (l.length + 1)
      simpa using this
    rw [e2]
    have h3 : (fun (x : Nat) => (a :: l).toArray[x]?) = fun x => (a :: l)[x]? := by funext x; simp
    rw [h3] at this
    rw [this]
    simp
section
variable {W : Wd} {C : Cfg} {lv n : Nat} {P : Params}
theorem rangeList_get {b k : Nat} {d : AV} (h : (rangeList 1 (b : Int))[k]? = some d) : d = .int ((k + 1 : Nat) : Int) ∧ k + 1 < b := by
  unfold rangeList at h
  rw [List.getElem?_map] at h
  cases q : (List.range ((b : Int) - 1).toNat)[k]? with
  | none => rw [q] at h; cases h
  | some j =>
    rw [q] at h
    cases h
    obtain ⟨h1, h2⟩ := List.getElem?_eq_some_iff.mp q
    simp at h1 h2
    subst h2
    refine ⟨?_, by omega⟩
    show AV.int (1 + _) = _
    rw [Int.add_comm]; rfl
theorem tri_figures (Gd : Good W C lv) (rows : List (List Int)) (f : Int) (res : AV) (hE : Elim C 1 rows f) (hres : C.Φ "_int2digits" [.int f, .int 12] = some res) :
    Tri W lv (nm P 103) (Def.wr (nm P 103)) (execs (bd P 103)) (args0 ["rows"] [rowsV rows]) (fun _ => False) (fun d => d = res) := by
  refine Tri.seq (Tri.assign Gd 5 (d := .int 1) (by kernel_rfl) (by kernel_rfl) rfl ?_)
  refine Tri.seq (Tri.whileS (fun k σ₁ => ∃ c rows, rows.length = k ∧ Elim C c rows f ∧ Sub [("rows", (false, rowsV rows)), ("corner", (false, .int c))] σ₁) rows.length ?_ ?_)
  · exact ⟨1, rows, rfl, hE, sub_of ⟨by kernel_rfl, by kernel_rfl, trivial⟩⟩
  · intro k σ₁ hI
    obtain ⟨c, rows, hk, hE, hsub⟩ := hI
    refine ⟨_, hsub, ?_⟩
    cases hE with
    | nil =>
      refine .inl ⟨STe.of Gd 5 (by kernel_rfl), Tri.seq (Tri.ret Gd 5 (d := res) (Eq.trans (b := C.Φ "_int2digits" [.int f, .int 12]) (by kernel_rfl) hres) rfl)⟩
    | @cons _ t0 _ top rest lower ht0 hs0 htl hrl hp hE' =>
      right
      have hlow : rest.length = lower.length := hp.length
      refine ⟨STe.cmp (a := rowsV (top :: rest)) (b := .list []) (SEv.of Gd 5 (by kernel_rfl)) (SEv.of Gd 5 (by kernel_rfl)) ?_ rfl, ?_⟩
      · show (aeq (.list ((top :: rest).map rowV)) (.list [])).map (!·) = some true
        show (if ((top :: rest).map rowV).length ≤ 1000 ∧ ([] : List AV).length ≤ 1000 then some false else none).map (!·) = some true
        rw [if_pos ⟨by simp; omega, by simp⟩]; rfl
      refine Tri.seq (Tri.assignS Gd.firm (d := rowV top) (SEv.sub (a := rowsV (top :: rest)) (k := .int 0) (SEv.of Gd 5 (by kernel_rfl)) (SEv.of Gd 5 (by kernel_rfl)) (asub_nat (k := 0) rfl (by simp; omega)) rfl) (by kernel_rfl) rfl ?_)
      refine Tri.seq (Tri.assignO Gd 5 (d := .list []) (by kernel_rfl) (by kernel_rfl) ?_)
      refine Tri.seq (Tri.forS Gd.firm (items := rest.map rowV) (SIt.list (SEv.of Gd 5 ?_) rfl) (fun j σ₁ => Sub [("corner", (false, .int c)), ("top", (false, rowV top)), ("lower", (true, rowsV (lower.take j)))] σ₁) ?_ ?_ ?_)
      · refine Eq.trans (b := if (none : Option Int) ≠ some 0 ∧ ((top :: rest).map rowV).length ≤ 1000000 then some (.list (apick ((top :: rest).map rowV) (some 1) none none)) else none) (by kernel_rfl) ?_
        rw [if_pos ⟨by simp, by simp; omega⟩, apick_tail]; rfl
      · exact sub_of ⟨by kernel_rfl, by kernel_rfl, by kernel_rfl, trivial⟩
      · intro j d σ₁ hj hsub
        obtain ⟨row, hrow, rfl⟩ : ∃ row, rest[j]? = some row ∧ d = rowV row := by
          rw [List.getElem?_map] at hj
          cases q : rest[j]? with
          | none => rw [q] at hj; cases hj
          | some p => rw [q] at hj; cases hj; exact ⟨p, rfl, rfl⟩
        obtain ⟨line, hline, hrk⟩ := paired_some hp hrow
        have hjl : j < lower.length := (List.getElem?_eq_some_iff.mp hline).1
        refine ⟨_, [("corner", (false, .int c)), ("top", (false, rowV top)), ("lower", (true, rowsV (lower.take j))), ("row", (false, rowV row))], hsub, by kernel_rfl, ?_⟩
        refine Tri.seq (Tri.assignO Gd 5 (d := .list []) (by kernel_rfl) (by kernel_rfl) ?_)
        have hrlen := hrk.len
        have hll := hrk.lenl
        refine Tri.seq (Tri.forS Gd.firm (items := rangeList 1 (row.length : Int)) (SIt.range2 Gd (a := 1) (b := row.length) (SEv.of Gd 5 (by kernel_rfl)) ?_ rfl rfl (by omega) (by omega) (by kernel_rfl))
          (fun i σ₁ => Sub [("corner", (false, .int c)), ("top", (false, rowV top)), ("lower", (true, rowsV (lower.take j))), ("row", (false, rowV row)), ("line", (true, rowV (line.take i)))] σ₁) ?_ ?_ ?_)
        · have e : (row.length : Int) = ((row.map AV.int).length : Int) := by simp
          rw [e]
          exact SEv.len Gd (SEv.of Gd 5 (by kernel_rfl)) rfl (by simp; omega) (by kernel_rfl)
        · exact sub_of ⟨by kernel_rfl, by kernel_rfl, by kernel_rfl, by kernel_rfl, by kernel_rfl, trivial⟩
        · intro i d σ₁ hi hsub
          obtain ⟨rfl, hib⟩ := rangeList_get hi
          obtain ⟨r0, hr0⟩ : ∃ r0, row[0]? = some r0 := ⟨row[0], List.getElem?_eq_getElem (by omega)⟩
          obtain ⟨x, hx⟩ : ∃ x, row[i + 1]? = some x := ⟨row[i + 1], List.getElem?_eq_getElem (by omega)⟩
          obtain ⟨tj, htj⟩ : ∃ x, top[i + 1]? = some x := ⟨top[i + 1], List.getElem?_eq_getElem (by omega)⟩
          obtain ⟨q, hq⟩ : ∃ x, line[i]? = some x := ⟨line[i], List.getElem?_eq_getElem (by omega)⟩
          have hc := hrk.cell i x q t0 r0 tj hx htj hq ht0 hr0
          have hsm := hrk.small r0 hr0
          have ix : ∀ {l : List Int} {k : Nat} {v : Int}, l[k]? = some v → l.length ≤ 100 → asub (rowV l) (.int k) = some (.int v) := fun {l k v} h hl => asub_nat (by rw [List.getElem?_map, h]; rfl) (by simp; omega)
          refine ⟨_, [("corner", (false, .int c)), ("top", (false, rowV top)), ("lower", (true, rowsV (lower.take j))), ("row", (false, rowV row)), ("line", (true, rowV (line.take i))), ("column", (false, .int ((i + 1 : Nat) : Int)))], hsub, by kernel_rfl, ?_⟩
          refine Tri.seq (Tri.assignS Gd.firm (d := .int (t0 * x - r0 * tj)) (SEv.bin (a := .int (t0 * x)) (b := .int (r0 * tj))
            (SEv.bin (a := .int t0) (b := .int x) (SEv.sub (a := rowV top) (k := .int ((0 : Nat) : Int)) (SEv.of Gd 5 (by kernel_rfl)) (SEv.of Gd 5 (by kernel_rfl)) (ix ht0 (by omega)) rfl) (SEv.sub (a := rowV row) (k := .int ((i + 1 : Nat) : Int)) (SEv.of Gd 5 (by kernel_rfl)) (SEv.of Gd 5 (by kernel_rfl)) (ix hx (by omega)) rfl) ?_)
            (SEv.bin (a := .int r0) (b := .int tj) (SEv.sub (a := rowV row) (k := .int ((0 : Nat) : Int)) (SEv.of Gd 5 (by kernel_rfl)) (SEv.of Gd 5 (by kernel_rfl)) (ix hr0 (by omega)) rfl) (SEv.sub (a := rowV top) (k := .int ((i + 1 : Nat) : Int)) (SEv.of Gd 5 (by kernel_rfl)) (SEv.of Gd 5 (by kernel_rfl)) (ix htj (by omega)) rfl) ?_) rfl) (by kernel_rfl) rfl ?_)
          · show (if t0.natAbs < big then some (AV.int (t0 * x)) else none) = _
            rw [if_pos hs0]
          · show (if r0.natAbs < big then some (AV.int (r0 * tj)) else none) = _
            rw [if_pos hsm]
          refine Tri.seq (Tri.assignTS Gd.firm (d := .tuple [.int q, .int 0])
            (σ' := [("corner", (false, .int c)), ("top", (false, rowV top)), ("lower", (true, rowsV (lower.take j))), ("row", (false, rowV row)), ("line", (true, rowV (line.take i))), ("column", (false, .int ((i + 1 : Nat) : Int))), ("crossed", (false, .int (t0 * x - r0 * tj))), ("quotient", (false, .int q)), ("rest", (false, .int 0))])
            (SEv.ife (c := decide (1 < c)) (STe.of Gd 5 (by kernel_rfl)) (fun hc1 => ?_) fun hc1 => ?_) rfl (by kernel_rfl) ?_)
          · rcases hc with ⟨_, h⟩ | ⟨h, _⟩
            · exact SEv.of Gd 5 (Eq.trans (b := C.Φ "int_divmod" [.int (t0 * x - r0 * tj), .int c]) (by kernel_rfl) h)
            · exact absurd (of_decide_eq_true hc1) h
          · rcases hc with ⟨h, _⟩ | ⟨_, rfl⟩
            · exact absurd h (of_decide_eq_false hc1)
            · exact SEv.of Gd 5 (by kernel_rfl)
          refine Tri.seq (Tri.ite Gd 5 (b := false) (by kernel_rfl) (fun h => by cases h) fun _ => Tri.nil ?_)
          refine Tri.seq (Tri.appendS Gd.firm (l := (line.take i).map .int) (d := .int q) (by kernel_rfl) (by kernel_rfl) rfl rfl (SEv.of Gd 5 (by kernel_rfl)) (by simp; omega) ?_)
          have e : (line.take i).map AV.int ++ [.int q] = (line.take (i + 1)).map .int := by rw [List.take_add_one, hq]; simp
          rw [e]
          exact Tri.nil (sub_of ⟨by kernel_rfl, by kernel_rfl, by kernel_rfl, by kernel_rfl, by kernel_rfl, trivial⟩)
        · intro σ₁ hsub
          have hle : (rangeList 1 (row.length : Int)).length = line.length := by simp [rangeList]; omega
          rw [hle, List.take_length] at hsub
          refine Tri.weaken hsub (Tri.freeze ["line"] ?_)
          refine Tri.seq (Tri.appendS Gd.firm (l := (lower.take j).map rowV) (d := rowV line) (by kernel_rfl) (by kernel_rfl) rfl rfl (SEv.of Gd 5 (by kernel_rfl)) (by simp; omega) ?_)
          have e : (lower.take j).map rowV ++ [rowV line] = (lower.take (j + 1)).map rowV := by rw [List.take_add_one, hline]; simp
          rw [e]
          exact Tri.nil (sub_of ⟨by kernel_rfl, by kernel_rfl, by kernel_rfl, trivial⟩)
      · intro σ₁ hsub
        have hle : (rest.map rowV).length = lower.length := by simp [hlow]
        rw [hle, List.take_length] at hsub
        refine Tri.weaken hsub ?_
        refine Tri.seq (Tri.assignS Gd.firm (d := .int t0) (SEv.sub (a := rowV top) (k := .int ((0 : Nat) : Int)) (SEv.of Gd 5 (by kernel_rfl)) (SEv.of Gd 5 (by kernel_rfl)) (asub_nat (by rw [List.getElem?_map, ht0]; rfl) (by simp; omega)) rfl) (by kernel_rfl) rfl ?_)
        refine Tri.freeze ["lower"] ?_
        refine Tri.seq (Tri.assign Gd 5 (d := rowsV lower) (by kernel_rfl) (by kernel_rfl) rfl ?_)
        refine Tri.nil ⟨lower.length, ?_, t0, lower, rfl, hE', sub_of ⟨by kernel_rfl, by kernel_rfl, trivial⟩⟩
        rw [← hk, ← hlow]; simp
end
end Mine
set_option maxRecDepth 100000
set_option linter.unusedVariables false
namespace Mine
open PySem PyProof.Rows
noncomputable def callsV (cs : List Cal) : AV := .list (cs.map Cal.av)
noncomputable def wt (cs : List Cal) (i j : Int) : Int := ((cs.filter fun x => ((x.p : Int) == i) && ((x.q : Int) == j)).map (·.c)).sum
noncomputable def selB (i j : Int) : AV → Bool
  | .tuple [.int p, .int q, _] => (p == i) && (q == j)
  | _ => false
noncomputable def third : AV → AV
  | .tuple [_, _, c] => c
  | _ => .none
theorem asum_sel (cs : List Cal) (i j : Int) : asum (((cs.map Cal.av).filter (selB i j)).map third) = some (wt cs i j) := by
  induction cs with
  | nil => rfl
  | cons x cs ih =>
    obtain ⟨p, q, c⟩ := x
    unfold wt at ih ⊢
    rw [List.map_cons, List.filter_cons, List.filter_cons]
    have e : selB i j (Cal.av ⟨p, q, c⟩) = (((p : Int) == i) && ((q : Int) == j)) := rfl
    rw [e]
    cases ((p : Int) == i) && ((q : Int) == j) with
    | false => exact ih
    | true =>
      rw [if_pos rfl, if_pos rfl, List.map_cons, List.map_cons, List.sum_cons]
      show (asum _).map (c + ·) = _
      rw [ih]; rfl
section
variable {W : Wd} {C : Cfg} {lv n : Nat} {P : Params}
noncomputable def stmtAt (b : List Stmt) (k : Nat) : Stmt := (b[k]?).getD (.Pass ⟨0, 0, 0, 0⟩)
noncomputable def loopBody : Stmt → List Stmt
  | .For _ _ b _ _ => b
  | _ => []
noncomputable def fσ (cs : List Cal) (left : List Int) (ws : AV) (i : Int) : Sg := [("calls", (false, callsV cs)), ("left", (false, rowV left)), ("ways", (false, ws)), ("place", (false, .int i))]
theorem tri_forests0 (Gd : Good W C lv) (cs : List Cal) (hcs : cs.length ≤ 900) (left : List Int) (ws : AV) (i : Int) (N : Sg → Prop) (Rt : AV → Prop) 
    (hN : N (put (fσ cs left ws i) "heavy" (true, .list [.int (wt cs i 0), .int (wt cs i 1), .int (wt cs i 2), .int (wt cs i 3)]))) :
    Tri W lv (nm P 108) (Def.wr (nm P 108)) (exec (stmtAt (loopBody (stmtAt (bd P 108) 1)) 0)) (fσ cs left ws i) N Rt := by
  refine Tri.assignL Gd true 9 (rs := [.int (wt cs i 0), .int (wt cs i 1), .int (wt cs i 2), .int (wt cs i 3)]) ?_ (by kernel_rfl) hN
  refine acomp_of (items := [.int 0, .int 1, .int 2, .int 3]) (by kernel_rfl) (by kernel_rfl) ?_ (by simp)
  refine Eq.trans (agen_one (fun d => [("calls", (false, callsV cs)), ("place", (false, .int i)), ("up", (false, d))]) (fun _ => true) (fun d => match d with | .int j => .int (wt cs i j) | _ => .none) (by kernel_rfl) (fun d hd => by kernel_rfl) (fun d hd => by kernel_rfl) (fun d hd _ => ?_)) rfl
  obtain ⟨j, rfl⟩ : ∃ j, d = .int j := by
    simp only [List.mem_cons, List.not_mem_nil, or_false] at hd
    rcases hd with rfl | rfl | rfl | rfl <;> exact ⟨_, rfl⟩
  refine aeval_sum (l := ((cs.map Cal.av).filter (selB i j)).map third) (aeval_listcomp ?_) rfl rfl (asum_sel cs i j) (by have := List.length_filter_le (selB i j) (cs.map Cal.av); simp at this ⊢; omega) (by kernel_rfl)
  refine acomp_of (items := cs.map Cal.av) (by kernel_rfl) ?_ ?_ (by have := List.length_filter_le (selB i j) (cs.map Cal.av); simp at this ⊢; omega)
  · refine Eq.trans (b := if (cs.map Cal.av).length ≤ 1000 then some (cs.map Cal.av) else none) (by kernel_rfl) ?_
    rw [if_pos (by simp; omega)]
  · refine agen_one (fun d => match d with | .tuple [a, b, c] => [("place", (false, .int i)), ("up", (false, .int j)), ("callee", (false, a)), ("caller", (false, b)), ("count", (false, c))] | _ => []) (selB i j) third (by kernel_rfl) (fun d hd => ?_) (fun d hd => ?_) (fun d hd _ => ?_)
    · obtain ⟨x, _, rfl⟩ := List.mem_map.mp hd
      kernel_rfl
    · obtain ⟨x, _, rfl⟩ := List.mem_map.mp hd
      obtain ⟨p, q, c⟩ := x
      refine Eq.trans (b := (if (((p : Int) == i) == true) = true then some ((q : Int) == j) else some ((p : Int) == i)).bind fun b => if b = true then some true else some false) (by kernel_rfl) ?_
      show _ = some (((p : Int) == i) && ((q : Int) == j))
      cases ((p : Int) == i) <;> cases ((q : Int) == j) <;> rfl
    · obtain ⟨x, _, rfl⟩ := List.mem_map.mp hd
      kernel_rfl
end
end Mine
set_option maxRecDepth 100000
set_option linter.unusedVariables false
namespace Mine
open PySem PyProof.Rows
theorem omap_aint (l : List Int) : omap aint (l.map .int) = some l := by
  induction l with
  | nil => rfl
  | cons a l ih => show ((omap aint (l.map .int)).map fun bs => a :: bs) = _; rw [ih]; rfl
noncomputable def pick4 (h0 h1 h2 h3 : Int) : Int → Int
  | 0 => h0
  | 1 => h1
  | 2 => h2
  | _ => h3
noncomputable def upsOf (h0 h1 h2 h3 : Int) (left : List Int) (i : Int) : List Int := if left.contains i then ([0, 1, 2, 3] : List Int).filter (fun j => decide (0 < pick4 h0 h1 h2 h3 j)) else [i]
noncomputable def posB (h0 h1 h2 h3 : Int) : AV → Bool
  | .int j => decide (0 < pick4 h0 h1 h2 h3 j)
  | _ => false
noncomputable abbrev Way := List Int × Int
noncomputable def Way.av (w : Way) : AV := .tuple [rowV w.1, .int w.2]
noncomputable def waysV (ws : List Way) : AV := .list (ws.map Way.av)
noncomputable def step4 (h0 h1 h2 h3 : Int) (us : List Int) (ws : List Way) : List Way := (ws.map fun w => us.map fun u => ((w.1 ++ [u], w.2 * pick4 h0 h1 h2 h3 u) : Way)).flatten
section
variable {W : Wd} {C : Cfg} {lv n : Nat} {P : Params}
theorem filter_ints (h0 h1 h2 h3 : Int) (l : List Int) : ((l.map AV.int).filter (posB h0 h1 h2 h3)).map id = (l.filter fun j => decide (0 < pick4 h0 h1 h2 h3 j)).map AV.int := by
  induction l with
  | nil => rfl
  | cons a l ih =>
    rw [List.map_cons, List.filter_cons, List.filter_cons]
    have e : posB h0 h1 h2 h3 (.int a) = decide (0 < pick4 h0 h1 h2 h3 a) := rfl
    rw [e]
    cases decide (0 < pick4 h0 h1 h2 h3 a) with
    | false => exact ih
    | true => rw [if_pos rfl, if_pos rfl, List.map_cons, List.map_cons, ih]; rfl
theorem tri_ups (Gd : Good W C lv) (left : List Int) (hl : left.length ≤ 900) (ws : AV) (i h0 h1 h2 h3 : Int) (cv : AV) (N : Sg → Prop) (Rt : AV → Prop)
    (hN : N [("calls", (false, cv)), ("left", (false, rowV left)), ("ways", (false, ws)), ("place", (false, .int i)), ("heavy", (false, rowV [h0, h1, h2, h3])), ("ups", (false, rowV (upsOf h0 h1 h2 h3 left i)))]) :
    Tri W lv (nm P 108) (Def.wr (nm P 108)) (exec (stmtAt (loopBody (stmtAt (bd P 108) 1)) 2)) [("calls", (false, cv)), ("left", (false, rowV left)), ("ways", (false, ws)), ("place", (false, .int i)), ("heavy", (false, rowV [h0, h1, h2, h3]))] N Rt := by
  refine Tri.assignS Gd.firm (d := rowV (upsOf h0 h1 h2 h3 left i)) (SEv.ife (c := left.contains i) (STe.cmp (a := .int i) (b := rowV left) (SEv.of Gd 5 (by kernel_rfl)) (SEv.of Gd 5 (by kernel_rfl)) ?_ rfl) (fun hc => ?_) fun hc => ?_) (by kernel_rfl) rfl hN
  · show (omap aint (left.map .int)).map (fun l => l.contains i) = some (left.contains i)
    rw [omap_aint]; rfl
  · unfold upsOf
    rw [hc, if_pos rfl]
    refine SEv.of Gd 9 (aeval_listcomp ?_)
    refine acomp_of (items := [.int 0, .int 1, .int 2, .int 3]) (by kernel_rfl) (by kernel_rfl) ?_ (by have := List.length_filter_le (fun j => decide (0 < pick4 h0 h1 h2 h3 j)) ([0, 1, 2, 3] : List Int); simp only [List.length_map]; simp only [List.length_cons, List.length_nil] at this; omega)
    refine Eq.trans (agen_one (fun d => [("heavy", (false, rowV [h0, h1, h2, h3])), ("up", (false, d))]) (posB h0 h1 h2 h3) id (by kernel_rfl) (fun d hd => by kernel_rfl) (fun d hd => ?_) (fun d hd _ => by kernel_rfl)) ?_
    · have key := bsel
      simp only [List.mem_cons, List.not_mem_nil, or_false] at hd
      rcases hd with rfl | rfl | rfl | rfl
      · exact Eq.trans (by kernel_rfl) (key (decide (0 < h0)))
      · exact Eq.trans (by kernel_rfl) (key (decide (0 < h1)))
      · exact Eq.trans (by kernel_rfl) (key (decide (0 < h2)))
      · exact Eq.trans (by kernel_rfl) (key (decide (0 < h3)))
    · exact congrArg some (filter_ints h0 h1 h2 h3 [0, 1, 2, 3])
  · unfold upsOf
    rw [hc, if_neg Bool.false_ne_true]
    exact SEv.of Gd 5 (by kernel_rfl)
theorem tri_ways (Gd : Good W C lv) (us : List Int) (hu : ∀ u ∈ us, u = 0 ∨ u = 1 ∨ u = 2 ∨ u = 3) (hul : us.length ≤ 4) (ws : List Way) (hws : ∀ w ∈ ws, w.1.length ≤ 4 ∧ w.2.natAbs < big) (hwl : ws.length ≤ 900) (h0 h1 h2 h3 i : Int) (cv lv' : AV) (N : Sg → Prop) (Rt : AV → Prop)
    (hN : N (put [("calls", (false, cv)), ("left", (false, lv')), ("ways", (false, waysV ws)), ("place", (false, .int i)), ("heavy", (false, rowV [h0, h1, h2, h3])), ("ups", (false, rowV us))] "ways" (false, waysV (step4 h0 h1 h2 h3 us ws)))) :
    Tri W lv (nm P 108) (Def.wr (nm P 108)) (exec (stmtAt (loopBody (stmtAt (bd P 108) 1)) 3)) [("calls", (false, cv)), ("left", (false, lv')), ("ways", (false, waysV ws)), ("place", (false, .int i)), ("heavy", (false, rowV [h0, h1, h2, h3])), ("ups", (false, rowV us))] N Rt := by
  have hst : step4 h0 h1 h2 h3 us ws = (ws.map fun w => us.map fun u => ((w.1 ++ [u], w.2 * pick4 h0 h1 h2 h3 u) : Way)).flatten := rfl
  have hlen : (step4 h0 h1 h2 h3 us ws).length ≤ 1000000 := by
    rw [hst, List.length_flatten, List.map_map]
    have : (ws.map (List.length ∘ fun w => us.map fun u => ((w.1 ++ [u], w.2 * pick4 h0 h1 h2 h3 u) : Way))).sum ≤ ws.length * 4 := by
      clear hst hwl hN
      induction ws with
      | nil => simp
      | cons w ws ih =>
        have := ih (fun w' hw' => hws w' (List.mem_cons_of_mem _ hw'))
        simp only [List.map_cons, List.sum_cons, Function.comp, List.length_map, List.length_cons] at this ⊢
        omega
    omega
  refine Tri.assignL Gd false 9 (rs := (step4 h0 h1 h2 h3 us ws).map Way.av) ?_ (by kernel_rfl) hN
  refine acomp_of (items := ws.map Way.av) (by kernel_rfl) ?_ ?_ (by simpa using hlen)
  · refine Eq.trans (b := if (ws.map Way.av).length ≤ 1000 then some (ws.map Way.av) else none) (by kernel_rfl) ?_
    rw [if_pos (by simp; omega)]
  · refine Eq.trans (agen_two (fun d => match d with | .tuple [a, b] => [("heavy", (false, rowV [h0, h1, h2, h3])), ("ups", (false, rowV us)), ("way", (false, a)), ("weight", (false, b))] | _ => []) (fun _ => us.map .int)
      (fun d => match d with | .tuple [.list w, .int x] => us.map fun u => .tuple [.list (w ++ [.int u]), .int (x * pick4 h0 h1 h2 h3 u)] | _ => []) (by kernel_rfl) (fun d hd => ?_) rfl (fun d hd => ?_) (fun d hd => ?_)) ?_
    · obtain ⟨w, _, rfl⟩ := List.mem_map.mp hd
      kernel_rfl
    · obtain ⟨w, _, rfl⟩ := List.mem_map.mp hd
      refine Eq.trans (b := if (us.map AV.int).length ≤ 1000 then some (us.map AV.int) else none) (by kernel_rfl) ?_
      rw [if_pos (by simp; omega)]
    · obtain ⟨w, hw, rfl⟩ := List.mem_map.mp hd
      obtain ⟨w, x⟩ := w
      obtain ⟨hw1, hw2⟩ := hws _ hw
      refine Eq.trans (agen_one (fun d => [("heavy", (false, rowV [h0, h1, h2, h3])), ("ups", (false, rowV us)), ("way", (false, rowV w)), ("weight", (false, .int x)), ("up", (false, d))]) (fun _ => true) (fun d => match d with | .int u => .tuple [.list (w.map .int ++ [.int u]), .int (x * pick4 h0 h1 h2 h3 u)] | _ => .none) (by kernel_rfl) (fun d hd => by kernel_rfl) (fun d hd => by kernel_rfl) (fun d hd _ => ?_)) ?_
      · obtain ⟨u, hu', rfl⟩ := List.mem_map.mp hd
        have g1 : (w.map AV.int).length + ([AV.int u]).length ≤ 10000 := by simp at hw1 ⊢; omega
        have key : ∀ h : Int, (omap id [(if (w.map AV.int).length + ([AV.int u]).length ≤ 10000 then some (AV.list (w.map AV.int ++ [.int u])) else none), (if x.natAbs < big then some (AV.int (x * h)) else none)]).map AV.tuple = some (.tuple [.list (w.map .int ++ [.int u]), .int (x * h)]) := by
          intro h; rw [if_pos g1, if_pos hw2]; rfl
        rcases hu u hu' with rfl | rfl | rfl | rfl
        · exact Eq.trans (by kernel_rfl) (key h0)
        · exact Eq.trans (by kernel_rfl) (key h1)
        · exact Eq.trans (by kernel_rfl) (key h2)
        · exact Eq.trans (by kernel_rfl) (key h3)
      · refine congrArg some ?_
        have ef : (us.map AV.int).filter (fun _ => true) = us.map AV.int := List.filter_eq_self.mpr fun _ _ => rfl
        rw [ef, List.map_map]
        rfl
    · rw [hst, List.map_flatten, List.map_map, List.map_map]
      congr 2
      refine List.map_congr_left fun w _ => ?_
      simp [Way.av, rowV, Function.comp_def]
end
end Mine
set_option maxRecDepth 100000
set_option linter.unusedVariables false
namespace Mine
open PySem PyProof.Rows
noncomputable def Hv (cs : List Cal) (i j : Int) : Int := if i = j then 1 else wt cs i j
noncomputable def waysAt (cs : List Cal) (left : List Int) : Nat → List Way
  | 0 => [([], 1)]
  | k + 1 => step4 (Hv cs k 0) (Hv cs k 1) (Hv cs k 2) (Hv cs k 3) (upsOf (Hv cs k 0) (Hv cs k 1) (Hv cs k 2) (Hv cs k 3) left k) (waysAt cs left k)
theorem upsOf_mem {h0 h1 h2 h3 : Int} {left : List Int} {i : Int} (hi : i = 0 ∨ i = 1 ∨ i = 2 ∨ i = 3) : ∀ u ∈ upsOf h0 h1 h2 h3 left i, u = 0 ∨ u = 1 ∨ u = 2 ∨ u = 3 := by
  intro u hu
  unfold upsOf at hu
  split at hu
  · have := (List.mem_filter.mp hu).1
    simpa using this
  · rw [List.mem_singleton.mp hu]; exact hi
theorem upsOf_len {h0 h1 h2 h3 : Int} {left : List Int} {i : Int} : (upsOf h0 h1 h2 h3 left i).length ≤ 4 := by
  unfold upsOf
  split
  · exact List.length_filter_le ..
  · simp
theorem step4_mem {h0 h1 h2 h3 : Int} {us : List Int} {ws : List Way} {w : Way} (h : w ∈ step4 h0 h1 h2 h3 us ws) : ∃ v ∈ ws, ∃ u ∈ us, w = (v.1 ++ [u], v.2 * pick4 h0 h1 h2 h3 u) := by
  unfold step4 at h
  obtain ⟨l, hl, hw⟩ := List.mem_flatten.mp h
  obtain ⟨v, hv, rfl⟩ := List.mem_map.mp hl
  obtain ⟨u, hu, rfl⟩ := List.mem_map.mp hw
  exact ⟨v, hv, u, hu, rfl⟩
theorem step4_len {h0 h1 h2 h3 : Int} {us : List Int} (hu : us.length ≤ 4) : ∀ (ws : List Way), (step4 h0 h1 h2 h3 us ws).length ≤ 4 * ws.length
  | [] => by simp [step4]
  | w :: ws => by
    have ih := step4_len (h0 := h0) (h1 := h1) (h2 := h2) (h3 := h3) hu ws
    unfold step4 at ih ⊢
    simp only [List.map_cons, List.flatten_cons, List.length_append, List.length_map, List.length_cons] at ih ⊢
    omega
structure WtOk (cs : List Cal) : Prop where
  lo : ∀ i j, 0 ≤ wt cs i j
  hi : ∀ i j, wt cs i j ≤ 24
theorem Hv_ok {cs : List Cal} (h : WtOk cs) (i j : Int) : 0 ≤ Hv cs i j ∧ Hv cs i j ≤ 24 := by
  unfold Hv
  split
  · omega
  · exact ⟨h.lo i j, h.hi i j⟩
theorem pick4_ok {h0 h1 h2 h3 : Int} (H0 : 0 ≤ h0 ∧ h0 ≤ 24) (H1 : 0 ≤ h1 ∧ h1 ≤ 24) (H2 : 0 ≤ h2 ∧ h2 ≤ 24) (H3 : 0 ≤ h3 ∧ h3 ≤ 24) (u : Int) : 0 ≤ pick4 h0 h1 h2 h3 u ∧ pick4 h0 h1 h2 h3 u ≤ 24 := by
  unfold pick4
  split <;> assumption
theorem waysAt_ok {cs : List Cal} (h : WtOk cs) (left : List Int) : ∀ k, k ≤ 4 → (waysAt cs left k).length ≤ 4 ^ k ∧ ∀ w ∈ waysAt cs left k, w.1.length = k ∧ 0 ≤ w.2 ∧ w.2 ≤ 24 ^ k ∧ ∀ u ∈ w.1, u = 0 ∨ u = 1 ∨ u = 2 ∨ u = 3
  | 0, _ => ⟨by simp [waysAt], fun w hw => by simp [waysAt] at hw; subst hw; simp⟩
  | k + 1, hk => by
    obtain ⟨ih1, ih2⟩ := waysAt_ok h left k (by omega)
    have hk' : (k : Int) = 0 ∨ (k : Int) = 1 ∨ (k : Int) = 2 ∨ (k : Int) = 3 := by omega
    refine ⟨?_, fun w hw => ?_⟩
    · have := step4_len (h0 := Hv cs k 0) (h1 := Hv cs k 1) (h2 := Hv cs k 2) (h3 := Hv cs k 3) (us := upsOf (Hv cs k 0) (Hv cs k 1) (Hv cs k 2) (Hv cs k 3) left k) upsOf_len (waysAt cs left k)
      unfold waysAt
      have e : 4 ^ (k + 1) = 4 ^ k * 4 := Nat.pow_succ _ _
      omega
    · obtain ⟨v, hv, u, hu, rfl⟩ := step4_mem hw
      obtain ⟨a1, a2, a3, a4⟩ := ih2 v hv
      have hp := pick4_ok (Hv_ok h k 0) (Hv_ok h k 1) (Hv_ok h k 2) (Hv_ok h k 3) u
      refine ⟨by simp [a1], Int.mul_nonneg a2 hp.1, ?_, fun x hx => ?_⟩
      · have e : (24 : Int) ^ (k + 1) = 24 ^ k * 24 := Int.pow_succ ..
        rw [e]
        exact Int.mul_le_mul a3 hp.2 hp.1 (Int.le_trans a2 a3)
      · rcases List.mem_append.mp hx with hx | hx
        · exact a4 x hx
        · rw [List.mem_singleton.mp hx]; exact upsOf_mem hk' u hu
section
variable {W : Wd} {C : Cfg} {lv n : Nat} {P : Params}
theorem tri_forest_loop (Gd : Good W C lv) (cs : List Cal) (hcs : cs.length ≤ 900) (hw : WtOk cs) (left : List Int) (hl : left.length ≤ 900) (N : Sg → Prop) (Rt : AV → Prop)
    (hN : ∀ σ, Sub [("calls", (false, callsV cs)), ("left", (false, rowV left)), ("ways", (false, waysV (waysAt cs left 4)))] σ → N σ) :
    Tri W lv (nm P 108) (Def.wr (nm P 108)) (exec (stmtAt (bd P 108) 1)) [("calls", (false, callsV cs)), ("left", (false, rowV left)), ("ways", (false, waysV [([], 1)]))] N Rt := by
  refine Tri.for_ Gd 5 (items := [.int 0, .int 1, .int 2, .int 3]) (by kernel_rfl) (fun k σ₁ => Sub [("calls", (false, callsV cs)), ("left", (false, rowV left)), ("ways", (false, waysV (waysAt cs left k)))] σ₁) ?_ ?_ hN
  · exact sub_of ⟨by kernel_rfl, by kernel_rfl, by kernel_rfl, trivial⟩
  · intro k d σ₁ hk hsub
    obtain ⟨hk4, rfl⟩ : k < 4 ∧ d = .int (k : Int) := by
      rcases k with _ | _ | _ | _ | k
      · cases hk; exact ⟨by omega, rfl⟩
      · cases hk; exact ⟨by omega, rfl⟩
      · cases hk; exact ⟨by omega, rfl⟩
      · cases hk; exact ⟨by omega, rfl⟩
      · simp at hk
    refine ⟨_, fσ cs left (waysV (waysAt cs left k)) k, hsub, by kernel_rfl, ?_⟩
    obtain ⟨o1, o2⟩ := waysAt_ok hw left k (by omega)
    have hki : (k : Int) = 0 ∨ (k : Int) = 1 ∨ (k : Int) = 2 ∨ (k : Int) = 3 := by omega
    refine Tri.seq (tri_forests0 Gd cs hcs left _ k _ _ ?_)
    have hset : asetL [.int (wt cs k 0), .int (wt cs k 1), .int (wt cs k 2), .int (wt cs k 3)] k (.int 1) = some ([Hv cs k 0, Hv cs k 1, Hv cs k 2, Hv cs k 3].map .int) := by
      have : k = 0 ∨ k = 1 ∨ k = 2 ∨ k = 3 := by omega
      rcases this with rfl | rfl | rfl | rfl <;> rfl
    refine Tri.seq (Tri.setL Gd 5 (k := k) (d := .int 1) (by kernel_rfl) (by kernel_rfl) (by kernel_rfl) (by kernel_rfl) rfl hset ?_)
    refine Tri.freeze ["heavy"] ?_
    refine Tri.weaken (σ' := [("calls", (false, callsV cs)), ("left", (false, rowV left)), ("ways", (false, waysV (waysAt cs left k))), ("place", (false, .int k)), ("heavy", (false, rowV [Hv cs k 0, Hv cs k 1, Hv cs k 2, Hv cs k 3]))]) (sub_of ⟨by kernel_rfl, by kernel_rfl, by kernel_rfl, by kernel_rfl, by kernel_rfl, trivial⟩) ?_
    refine Tri.seq (tri_ups Gd left hl _ k _ _ _ _ _ _ _ ?_)
    have hpow : 4 ^ k ≤ 256 := by
      have : k = 0 ∨ k = 1 ∨ k = 2 ∨ k = 3 := by omega
      rcases this with rfl | rfl | rfl | rfl <;> decide
    have hpow2 : (24 : Int) ^ k ≤ 13824 := by
      have : k = 0 ∨ k = 1 ∨ k = 2 ∨ k = 3 := by omega
      rcases this with rfl | rfl | rfl | rfl <;> decide
    refine Tri.seq (tri_ways Gd _ (upsOf_mem hki) upsOf_len (waysAt cs left k) (fun w hw' => ?_) (by omega) _ _ _ _ k _ _ _ _ ?_)
    · obtain ⟨a1, a2, a3, a4⟩ := o2 w hw'
      refine ⟨by omega, ?_⟩
      show w.2.natAbs < 2 ^ 64
      omega
    · exact Tri.nil (sub_of ⟨by kernel_rfl, by kernel_rfl, by kernel_rfl, trivial⟩)
end
end Mine
set_option maxRecDepth 100000
set_option linter.unusedVariables false
namespace Mine
open PySem PyProof.Rows
noncomputable def In4 (x : Int) : Prop := x = 0 ∨ x = 1 ∨ x = 2 ∨ x = 3
theorem pick4_in {a b c d : Int} (ha : In4 a) (hb : In4 b) (hc : In4 c) (hd : In4 d) (x : Int) : In4 (pick4 a b c d x) := by
  unfold pick4
  split <;> assumption
section
variable {W : Wd} {C : Cfg} {lv n : Nat} {P : Params} {sc : NS} {σ : Sg}
theorem aeval_pick {v i : Expr} {p : Pos} {a b c d x : Int} (hv : abor C (aeval C n sc σ) sc σ v = some (rowV [a, b, c, d])) (hi : aeval C n sc σ i = some (.int x)) (hx : In4 x) (hs : isSlice i = false) : aeval C (n + 1) sc σ (.Subscript v i p) = some (.int (pick4 a b c d x)) := by
  show asubs C (aeval C n sc σ) sc σ v i = _
  have hs' : sliceOf i = none := by
    unfold isSlice at hs
    cases q : sliceOf i with
    | none => rfl
    | some _ => rw [q] at hs; cases hs
  unfold asubs
  rw [hv, hs', hi]
  rcases hx with rfl | rfl | rfl | rfl <;> rfl
noncomputable def rootsOf (a b c d : Int) (left : List Int) : Nat := (left.filter fun j => pick4 a b c d j == j).length
noncomputable def fff (a b c d u : Int) : Int := pick4 a b c d (pick4 a b c d (pick4 a b c d u))
noncomputable def acyc (a b c d : Int) : Bool := pick4 a b c d (fff a b c d a) == fff a b c d a && (pick4 a b c d (fff a b c d b) == fff a b c d b && (pick4 a b c d (fff a b c d c) == fff a b c d c && (pick4 a b c d (fff a b c d d) == fff a b c d d && true)))
noncomputable def totStep (left : List Int) (tot : List Int) (w : Way) : List Int := match w with
  | ([a, b, c, d], x) => if acyc a b c d then tot.set (rootsOf a b c d left) ((tot[rootsOf a b c d left]?).getD 0 + x) else tot
  | _ => tot
noncomputable def rootB (a b c d : Int) : AV → Bool
  | .int j => pick4 a b c d j == j
  | _ => false
theorem roots_len (a b c d : Int) (left : List Int) : (((left.map AV.int).filter (rootB a b c d)).map id).length = rootsOf a b c d left := by
  unfold rootsOf
  induction left with
  | nil => rfl
  | cons j l ih =>
    rw [List.map_cons, List.filter_cons, List.filter_cons]
    have e : rootB a b c d (.int j) = (pick4 a b c d j == j) := rfl
    rw [e]
    cases pick4 a b c d j == j with
    | false => exact ih
    | true => rw [if_pos rfl, if_pos rfl, List.map_cons, List.length_cons, List.length_cons, ih]
theorem tri_totals (Gd : Good W C lv) (left : List Int) (hl : left.length ≤ 90) (hin : ∀ j ∈ left, In4 j) (a b c d x : Int) (ha : In4 a) (hb : In4 b) (hc : In4 c) (hd : In4 d) (tot : List Int) (ht : tot.length = left.length + 1) (N : Sg → Prop) (Rt : AV → Prop)
    (hN : ∀ σ, Sub [("left", (false, rowV left)), ("totals", (true, rowV (totStep left tot ([a, b, c, d], x))))] σ → N σ) :
    Tri W lv (nm P 108) (Def.wr (nm P 108)) (execs (loopBody (stmtAt (bd P 108) 3))) [("left", (false, rowV left)), ("totals", (true, rowV tot)), ("way", (false, rowV [a, b, c, d])), ("weight", (false, .int x))] N Rt := by
  refine Tri.seq (Tri.assignL Gd false 9 (rs := [.int (fff a b c d a), .int (fff a b c d b), .int (fff a b c d c), .int (fff a b c d d)]) ?_ (by kernel_rfl) ?_)
  · refine acomp_of (items := [.int a, .int b, .int c, .int d]) (by kernel_rfl) (by kernel_rfl) ?_ (by simp)
    refine Eq.trans (agen_one (fun e => [("way", (false, rowV [a, b, c, d])), ("up", (false, e))]) (fun _ => true) (fun e => match e with | .int u => .int (fff a b c d u) | _ => .none) (by kernel_rfl) (fun e he => by kernel_rfl) (fun e he => by kernel_rfl) (fun e he _ => ?_)) rfl
    obtain ⟨u, rfl, hu⟩ : ∃ u, e = .int u ∧ In4 u := by
      simp only [List.mem_cons, List.not_mem_nil, or_false] at he
      rcases he with rfl | rfl | rfl | rfl
      · exact ⟨_, rfl, ha⟩
      · exact ⟨_, rfl, hb⟩
      · exact ⟨_, rfl, hc⟩
      · exact ⟨_, rfl, hd⟩
    exact aeval_pick (by kernel_rfl) (aeval_pick (by kernel_rfl) (aeval_pick (by kernel_rfl) (by kernel_rfl) hu rfl) (pick4_in ha hb hc hd _) rfl) (pick4_in ha hb hc hd _) rfl
  refine Tri.seq (Tri.iteS (b := acyc a b c d) (STe.cmp (a := rowV [pick4 a b c d (fff a b c d a), pick4 a b c d (fff a b c d b), pick4 a b c d (fff a b c d c), pick4 a b c d (fff a b c d d)]) (b := rowV [fff a b c d a, fff a b c d b, fff a b c d c, fff a b c d d]) (SEv.of Gd 9 (aeval_listcomp ?_)) (SEv.of Gd 9 (by kernel_rfl)) (by kernel_rfl) rfl) (fun hac => ?_) fun hac => ?_)
  · refine acomp_of (items := [.int (fff a b c d a), .int (fff a b c d b), .int (fff a b c d c), .int (fff a b c d d)]) (by kernel_rfl) (by kernel_rfl) ?_ (by simp)
    refine Eq.trans (agen_one (fun e => [("way", (false, rowV [a, b, c, d])), ("end", (false, e))]) (fun _ => true) (fun e => match e with | .int u => .int (pick4 a b c d u) | _ => .none) (by kernel_rfl) (fun e he => by kernel_rfl) (fun e he => by kernel_rfl) (fun e he _ => ?_)) rfl
    obtain ⟨u, rfl, hu⟩ : ∃ u, e = .int u ∧ In4 u := by
      simp only [List.mem_cons, List.not_mem_nil, or_false] at he
      rcases he with rfl | rfl | rfl | rfl <;> exact ⟨_, rfl, pick4_in ha hb hc hd _⟩
    exact aeval_pick (by kernel_rfl) (by kernel_rfl) hu rfl
  · have hr : rootsOf a b c d left ≤ left.length := List.length_filter_le ..
    obtain ⟨t0, ht0⟩ : ∃ t0, tot[rootsOf a b c d left]? = some t0 := ⟨_, List.getElem?_eq_getElem (by omega)⟩
    refine Tri.seq (Tri.augL Gd 9 (l := tot.map .int) (l' := (tot.set (rootsOf a b c d left) (t0 + x)).map .int) (k := rootsOf a b c d left) (d₀ := .int t0) (d₁ := .int x) (d := .int (t0 + x)) (by kernel_rfl) (by kernel_rfl) ?_ rfl ?_ (by kernel_rfl) rfl ?_ ?_)
    · rw [← roots_len]
      refine aeval_len (aeval_listcomp ?_) rfl rfl ?_ (by kernel_rfl)
      · refine acomp_of (items := left.map .int) (by kernel_rfl) ?_ ?_ ?_
        · refine Eq.trans (b := if (left.map AV.int).length ≤ 1000 then some (left.map AV.int) else none) (by kernel_rfl) ?_
          rw [if_pos (by simp; omega)]
        · refine agen_one (fun e => [("way", (false, rowV [a, b, c, d])), ("place", (false, e))]) (rootB a b c d) id (by kernel_rfl) (fun e he => by kernel_rfl) (fun e he => ?_) (fun e he _ => by kernel_rfl)
          obtain ⟨j, hj, rfl⟩ := List.mem_map.mp he
          have key := bsel
          rcases hin j hj with rfl | rfl | rfl | rfl
          · exact Eq.trans (by kernel_rfl) (key (a == 0))
          · exact Eq.trans (by kernel_rfl) (key (b == 1))
          · exact Eq.trans (by kernel_rfl) (key (c == 2))
          · exact Eq.trans (by kernel_rfl) (key (d == 3))
        · rw [roots_len]; omega
      · rw [roots_len]; omega
    · unfold aidx
      rw [seqIndex_nat (by rw [List.length_map]; omega), Option.bind_some, List.getElem?_map, ht0]; rfl
    · unfold asetL
      rw [if_pos ⟨by omega, by simp; omega, by simp; omega⟩, List.map_set]; rfl
    · refine Tri.nil (Tri.nil (hN _ (sub_of ⟨by kernel_rfl, ?_, trivial⟩)))
      have e : totStep left tot ([a, b, c, d], x) = tot.set (rootsOf a b c d left) (t0 + x) := by
        show (if acyc a b c d = true then tot.set (rootsOf a b c d left) ((tot[rootsOf a b c d left]?).getD 0 + x) else tot) = _
        rw [if_pos hac, ht0]; rfl
      rw [e]
      kernel_rfl
  · refine Tri.nil (Tri.nil (hN _ (sub_of ⟨by kernel_rfl, ?_, trivial⟩)))
    have e : totStep left tot ([a, b, c, d], x) = tot := by
      show (if acyc a b c d = true then tot.set (rootsOf a b c d left) ((tot[rootsOf a b c d left]?).getD 0 + x) else tot) = _
      rw [hac, if_neg Bool.false_ne_true]
    rw [e]
    kernel_rfl
end
end Mine
set_option maxRecDepth 100000
set_option linter.unusedVariables false
namespace Mine
open PySem PyProof.Rows
theorem totStep_len (left tot : List Int) (w : Way) : (totStep left tot w).length = tot.length := by
  unfold totStep
  split
  · split
    · simp
    · rfl
  · rfl
theorem len4 {w : List Int} (h : w.length = 4) : ∃ a b c d, w = [a, b, c, d] := by
  rcases w with _ | ⟨a, _ | ⟨b, _ | ⟨c, _ | ⟨d, _ | ⟨e, w⟩⟩⟩⟩⟩ <;> simp at h
  exact ⟨a, b, c, d, rfl⟩
noncomputable def forestTotals (cs : List Cal) (left : List Int) : List Int := (waysAt cs left 4).foldl (totStep left) (List.replicate (left.length + 1) 0)
section
variable {W : Wd} {C : Cfg} {lv n : Nat} {P : Params}
theorem tri_forests (Gd : Good W C lv) (cs : List Cal) (hcs : cs.length ≤ 900) (hw : WtOk cs) (left : List Int) (hl : left.length ≤ 90) (hin : ∀ j ∈ left, In4 j) :
    Tri W lv (nm P 108) (Def.wr (nm P 108)) (execs (bd P 108)) (args0 ["calls", "left"] [callsV cs, rowV left]) (fun _ => False) (fun d => d = rowV (forestTotals cs left)) := by
  refine Tri.seq (Tri.assign Gd 6 (d := waysV [([], 1)]) (by kernel_rfl) (by kernel_rfl) rfl ?_)
  refine Tri.weaken (σ' := [("calls", (false, callsV cs)), ("left", (false, rowV left)), ("ways", (false, waysV [([], 1)]))]) (sub_of ⟨by kernel_rfl, by kernel_rfl, by kernel_rfl, trivial⟩) ?_
  refine Tri.seq (tri_forest_loop Gd cs hcs hw left (by omega) _ _ fun σ hsub => Tri.weaken hsub ?_)
  obtain ⟨o1, o2⟩ := waysAt_ok hw left 4 (by omega)
  have ho1 : (waysAt cs left 4).length ≤ 256 := o1
  generalize hws : waysAt cs left 4 = ws at *
  refine Tri.seq (Tri.assignO Gd 6 (d := .list (List.replicate (left.length + 1) (.int 0))) ?_ (by kernel_rfl) ?_)
  · have key : ∀ o : Option AV, o = some (.int (left.length : Int)) → ((abinop C .Add o (some (.int 1))).bind fun b => arep (.list [.int 0]) b) = some (.list (List.replicate (left.length + 1) (.int 0))) := by
      intro o ho
      subst ho
      exact if_pos ⟨by omega, by omega⟩
    refine Eq.trans (by kernel_rfl) (key (if (left.map AV.int).length ≤ 1000000 then some (.int ((left.map AV.int).length : Int)) else none) ?_)
    rw [if_pos (by simp; omega), List.length_map]
  refine Tri.seq (Tri.for_ Gd 6 (items := ws.map Way.av) ?_ (fun k σ₁ => Sub [("left", (false, rowV left)), ("totals", (true, rowV ((ws.take k).foldl (totStep left) (List.replicate (left.length + 1) 0))))] σ₁) ?_ ?_ ?_)
  · refine Eq.trans (b := if (ws.map Way.av).length ≤ 1000 then some (ws.map Way.av) else none) (by kernel_rfl) ?_
    rw [if_pos (by simp; omega)]
  · refine sub_of ⟨by kernel_rfl, ?_, trivial⟩
    have : rowV (List.replicate (left.length + 1) 0) = .list (List.replicate (left.length + 1) (.int 0)) := by simp [rowV, List.map_replicate]
    show _ = some (true, rowV (List.replicate (left.length + 1) 0))
    rw [this]
    kernel_rfl
  · intro k d σ₁ hk hsub
    obtain ⟨w, hwk, rfl⟩ : ∃ w, ws[k]? = some w ∧ d = w.av := by
      rw [List.getElem?_map] at hk
      cases q : ws[k]? with
      | none => rw [q] at hk; cases hk
      | some p => rw [q] at hk; cases hk; exact ⟨p, rfl, rfl⟩
    obtain ⟨w, x⟩ := w
    obtain ⟨a1, _, _, a4⟩ := o2 _ (List.mem_of_getElem? hwk)
    obtain ⟨a, b, c, d, rfl⟩ := len4 a1
    have hlen : ∀ (l : List Way) (t : List Int), (l.foldl (totStep left) t).length = t.length := by
      intro l
      induction l with
      | nil => intro t; rfl
      | cons y l ih => intro t; rw [List.foldl_cons, ih, totStep_len]
    refine ⟨_, [("left", (false, rowV left)), ("totals", (true, rowV ((ws.take k).foldl (totStep left) (List.replicate (left.length + 1) 0)))), ("way", (false, rowV [a, b, c, d])), ("weight", (false, .int x))], hsub, by kernel_rfl, ?_⟩
    refine tri_totals Gd left hl hin a b c d x (a4 a (by simp)) (a4 b (by simp)) (a4 c (by simp)) (a4 d (by simp)) _ (by rw [hlen]; simp) _ _ fun σ hs => ?_
    rw [List.take_add_one, hwk]
    simpa using hs
  · intro σ₁ hsub
    rw [List.length_map, List.take_length] at hsub
    refine Tri.weaken hsub (Tri.freeze ["totals"] (Tri.seq (Tri.ret Gd 6 (d := rowV (ws.foldl (totStep left) (List.replicate (left.length + 1) 0))) (by kernel_rfl) ?_)))
    unfold forestTotals
    rw [hws]
end
end Mine
set_option maxRecDepth 100000
set_option linter.unusedVariables false
namespace Mine
open PySem PyProof.Rows
noncomputable def getI (t : List (Str × AV)) (k : Str) : Int := match dget t k with
  | some (.int v) => v
  | _ => 0
noncomputable def matE (e : Nat → Ent) (i j : Int) : Int := if j = i then 4096 + (e i.toNat).cc else -(getI (e i.toNat).t (nam j.toNat))
noncomputable def matV (e : Nat → Ent) (left : List Int) : List (List Int) := left.map fun i => left.map fun j => matE e i j
noncomputable def mB (m : Int → Bool) : AV → Bool
  | .int j => m j
  | _ => false
section
variable {W : Wd} {C : Cfg} {lv n : Nat} {P : Params}
theorem filter_mB (m : Int → Bool) (l : List Int) : ((l.map AV.int).filter (mB m)).map id = (l.filter m).map AV.int := by
  induction l with
  | nil => rfl
  | cons a l ih =>
    rw [List.map_cons, List.filter_cons, List.filter_cons]
    have e : mB m (.int a) = m a := rfl
    rw [e]
    cases m a with
    | false => exact ih
    | true => rw [if_pos rfl, if_pos rfl, List.map_cons, List.map_cons, ih]; rfl
noncomputable def cσ (bk : AV) (cv : AV) (w : Str) (dv : AV) : Sg := args0 ["book", "names", "calls", "want", "due"] [bk, .list namesV, cv, .str w, dv]
theorem tri_picked (Gd : Good W C lv) (bk cv dv : AV) (w : Str) (m : Int → Bool) (hm : ∀ j : Nat, j < 4 → C.Φ "_ellipsis_match" [.str w, .str (nam j)] = some (.bool (m j))) (N : Sg → Prop) (Rt : AV → Prop)
    (hN : N (put (cσ bk cv w dv) "picked" (false, rowV (([0, 1, 2, 3] : List Int).filter m)))) :
    Tri W lv (nm P 113) (Def.wr (nm P 113)) (exec (stmtAt (bd P 113) 0)) (cσ bk cv w dv) N Rt := by
  refine Tri.assignL Gd false 9 (rs := (([0, 1, 2, 3] : List Int).filter m).map .int) ?_ (by kernel_rfl) hN
  refine acomp_of (items := [.int 0, .int 1, .int 2, .int 3]) (by kernel_rfl) (by kernel_rfl) ?_ (by have := List.length_filter_le m ([0, 1, 2, 3] : List Int); simp only [List.length_map]; simp only [List.length_cons, List.length_nil] at this; omega)
  refine Eq.trans (agen_one (fun d => [("names", (false, .list namesV)), ("want", (false, .str w)), ("place", (false, d))]) (mB m) id (by kernel_rfl) (fun d hd => by kernel_rfl) (fun d hd => ?_) (fun d hd _ => by kernel_rfl)) (congrArg some (filter_mB m [0, 1, 2, 3]))
  have key : ∀ (o : Option AV) (b : Bool), o = some (.bool b) → ((o.bind atru).bind fun b => if b = true then some true else some false) = some b := by
    intro o b ho
    subst ho
    exact bsel b
  simp only [List.mem_cons, List.not_mem_nil, or_false] at hd
  rcases hd with rfl | rfl | rfl | rfl
  · exact Eq.trans (by kernel_rfl) (key _ _ (hm 0 (by omega)))
  · exact Eq.trans (by kernel_rfl) (key _ _ (hm 1 (by omega)))
  · exact Eq.trans (by kernel_rfl) (key _ _ (hm 2 (by omega)))
  · exact Eq.trans (by kernel_rfl) (key _ _ (hm 3 (by omega)))
end
end Mine
set_option maxRecDepth 100000
set_option linter.unusedVariables false
namespace Mine
open PySem PyProof.Rows
theorem aeqs_self (p : List Int) : aeqs (p.map .int) (p.map .int) = some true := by
  induction p with
  | nil => rfl
  | cons a p ih =>
    show ((some (a == a)).bind fun c => (aeqs (p.map .int) (p.map .int)).map fun r => c && r) = some true
    rw [ih, beq_self_eq_true]; rfl
theorem aeq_self (p : List Int) (h : p.length ≤ 1000) : aeq (rowV p) (rowV p) = some true := by
  exact (if_pos (by simp [h])).trans (aeqs_self p)
noncomputable def notB (p : List Int) : AV → Bool
  | .int j => !p.contains j
  | _ => false
noncomputable def leftOf (p : List Int) : List Int := ([0, 1, 2, 3] : List Int).filter fun j => !p.contains j
structure EntOk (e : Ent) : Prop where
  intv : ∀ k d, dget e.t k = some d → ∃ v, d = .int v
section
variable {W : Wd} {C : Cfg} {lv n : Nat} {P : Params}
theorem tri_left (Gd : Good W C lv) (bk cv dv : AV) (w : Str) (p : List Int) (N : Sg → Prop) (Rt : AV → Prop) (hN : N (put (put (cσ bk cv w dv) "picked" (false, rowV p)) "left" (false, rowV (leftOf p)))) :
    Tri W lv (nm P 113) (Def.wr (nm P 113)) (exec (stmtAt (bd P 113) 2)) (put (cσ bk cv w dv) "picked" (false, rowV p)) N Rt := by
  refine Tri.assignL Gd false 9 (rs := (leftOf p).map .int) ?_ (by kernel_rfl) hN
  refine acomp_of (items := [.int 0, .int 1, .int 2, .int 3]) (by kernel_rfl) (by kernel_rfl) ?_ (by have := List.length_filter_le (fun j => !p.contains j) ([0, 1, 2, 3] : List Int); simp only [List.length_map, leftOf]; simp only [List.length_cons, List.length_nil] at this; omega)
  refine Eq.trans (agen_one (fun d => [("picked", (false, rowV p)), ("place", (false, d))]) (mB fun j => !p.contains j) id (by kernel_rfl) (fun d hd => by kernel_rfl) (fun d hd => ?_) (fun d hd _ => by kernel_rfl)) (congrArg some (filter_mB (fun j => !p.contains j) [0, 1, 2, 3]))
  have key : ∀ j : Int, ((((omap aint (p.map .int)).map fun l => l.contains j).map (!·)).bind fun b => if b = true then some true else some false) = some (!p.contains j) := by
    intro j
    rw [omap_aint]
    exact bsel _
  simp only [List.mem_cons, List.not_mem_nil, or_false] at hd
  rcases hd with rfl | rfl | rfl | rfl
  · exact Eq.trans (by kernel_rfl) (key 0)
  · exact Eq.trans (by kernel_rfl) (key 1)
  · exact Eq.trans (by kernel_rfl) (key 2)
  · exact Eq.trans (by kernel_rfl) (key 3)
noncomputable def rowF (e : Ent) (i : Int) : AV → AV
  | .int j => .int (if j = i then 4096 + e.cc else -(getI e.t (nam j.toNat)))
  | _ => .none
theorem get_neg {t : List (Str × AV)} {k : Str} (h : ∀ d, dget t k = some d → ∃ v, d = .int v) : (match some ((dget t k).getD (.int 0)) with | some a => aun .USub a | none => none) = some (.int (-(getI t k))) := by
  unfold getI
  cases q : dget t k with
  | none => rfl
  | some d => obtain ⟨v, rfl⟩ := h d q; rfl
/-- one row of the square -/
theorem row_eval (sc : NS) (hsc : sc = nm P 113) (bk cv : AV) (e : Ent) (he : EntOk e) (i : Int) (hi : In4 i) (left : List Int) (hin : ∀ j ∈ left, In4 j) (hl : left.length ≤ 90) (rv : Bool × AV) (elt : Expr) (gens : List Comprehension) (scope : Scope) (p : Pos)
    (hst : (match stmtAt (loopBody (stmtAt (bd P 113) 4)) 1 with | .Expr (.Call _ [.ListComp elt gens scope p] _ _) _ => some (elt, gens, scope, p) | _ => none) = some (elt, gens, scope, p)) :
    aeval C 10 sc [("names", (false, .list namesV)), ("calls", (false, cv)), ("left", (false, rowV left)), ("book", (false, bk)), ("rows", rv), ("place", (false, .int i)), ("entry", (false, e.av))] (.ListComp elt gens scope p) = some (.list ((left.map AV.int).map (rowF e i))) := by
  subst hsc
  cases hst
  refine aeval_listcomp (acomp_of (items := left.map .int) (by kernel_rfl) ?_ ?_ (by simp; omega))
  · refine Eq.trans (b := if (left.map AV.int).length ≤ 1000 then some (left.map AV.int) else none) (by kernel_rfl) ?_
    rw [if_pos (by simp; omega)]
  · refine Eq.trans (agen_one (fun d => [("names", (false, .list namesV)), ("place", (false, .int i)), ("entry", (false, e.av)), ("up", (false, d))]) (fun _ => true) (rowF e i) (by kernel_rfl) (fun d hd => by kernel_rfl) (fun d hd => by kernel_rfl) (fun d hd _ => ?_)) ?_
    · obtain ⟨j, hj, rfl⟩ := List.mem_map.mp hd
      by_cases hij : j = i
      · subst hij
        rcases hi with rfl | rfl | rfl | rfl <;> kernel_rfl
      · rcases hi with rfl | rfl | rfl | rfl <;> rcases hin j hj with rfl | rfl | rfl | rfl <;> first | exact absurd rfl hij | exact Eq.trans (by kernel_rfl) (get_neg (fun d => he.intv _ d))
    · rw [List.filter_eq_self.mpr (fun _ _ => rfl)]
end
end Mine
set_option maxRecDepth 100000
set_option linter.unusedVariables false
namespace Mine
open PySem PyProof.Rows
section
variable {W : Wd} {C : Cfg} {lv n : Nat} {P : Params}
theorem tri_counted (Gd : Good W C lv) (e : Nat → Ent) (he : ∀ i, EntOk (e i)) (cv : AV) (w : Str) (m : Int → Bool) (hm : ∀ j : Nat, j < 4 → C.Φ "_ellipsis_match" [.str w, .str (nam j)] = some (.bool (m j)))
    (r : List Int) (hr : r.length ≤ 1000) (h1 : C.Φ "_law_figures" [rowsV (matV e (leftOf (([0, 1, 2, 3] : List Int).filter m)))] = some (rowV r)) (h2 : C.Φ "_law_forests" [cv, rowV (leftOf (([0, 1, 2, 3] : List Int).filter m))] = some (rowV r)) :
    Tri W lv (nm P 113) (Def.wr (nm P 113)) (execs (bd P 113)) (cσ (.dict (bookV e)) cv w (rowV (([0, 1, 2, 3] : List Int).filter m))) (fun _ => False) (fun d => d = .bool true) := by
  have hp : (([0, 1, 2, 3] : List Int).filter m).length ≤ 4 := List.length_filter_le ..
  refine Tri.seq (tri_picked Gd _ _ _ w m hm _ _ ?_)
  generalize ([0, 1, 2, 3] : List Int).filter m = p at *
  refine Tri.seq (Tri.iteS (b := false) (STe.cmp (a := rowV p) (b := rowV p) (SEv.of Gd 5 (by kernel_rfl)) (SEv.of Gd 5 (by kernel_rfl)) ?_ rfl) (fun h => by cases h) fun _ => Tri.nil ?_)
  · show (aeq (rowV p) (rowV p)).map (!·) = some false
    rw [aeq_self p (by omega)]; rfl
  refine Tri.seq (tri_left Gd _ _ _ w p _ _ ?_)
  have hin : ∀ j ∈ leftOf p, In4 j := fun j hj => by
    have := (List.mem_filter.mp hj).1
    simpa [In4] using this
  have hl : (leftOf p).length ≤ 4 := List.length_filter_le ..
  generalize leftOf p = left at *
  refine Tri.seq (Tri.assignO Gd 5 (d := .list []) (by kernel_rfl) (by kernel_rfl) ?_)
  refine Tri.seq (Tri.for_ Gd 5 (items := left.map .int) ?_ (fun k σ₁ => Sub [("names", (false, .list namesV)), ("calls", (false, cv)), ("left", (false, rowV left)), ("book", (false, .dict (bookV e))), ("rows", (true, rowsV ((left.take k).map fun i => left.map fun j => matE e i j)))] σ₁) ?_ ?_ ?_)
  · refine Eq.trans (b := if (left.map AV.int).length ≤ 1000 then some (left.map AV.int) else none) (by kernel_rfl) ?_
    rw [if_pos (by simp; omega)]
  · exact sub_of ⟨by kernel_rfl, by kernel_rfl, by kernel_rfl, by kernel_rfl, by kernel_rfl, trivial⟩
  · intro k d σ₁ hk hsub
    obtain ⟨i, hik, rfl⟩ : ∃ i, left[k]? = some i ∧ d = .int i := by
      rw [List.getElem?_map] at hk
      cases q : left[k]? with
      | none => rw [q] at hk; cases hk
      | some p => rw [q] at hk; cases hk; exact ⟨p, rfl, rfl⟩
    have hi := hin i (List.mem_of_getElem? hik)
    refine ⟨_, [("names", (false, .list namesV)), ("calls", (false, cv)), ("left", (false, rowV left)), ("book", (false, .dict (bookV e))), ("rows", (true, rowsV ((left.take k).map fun i => left.map fun j => matE e i j))), ("place", (false, .int i))], hsub, by kernel_rfl, ?_⟩
    refine Tri.seq (Tri.assign Gd 6 (d := (e i.toNat).av) ?_ (by kernel_rfl) rfl ?_)
    · rcases hi with rfl | rfl | rfl | rfl <;> kernel_rfl
    refine Tri.seq (Tri.appendS Gd.firm (l := ((left.take k).map fun i => left.map fun j => matE e i j).map rowV) (d := rowV (left.map fun j => matE e i j)) (by kernel_rfl) (by kernel_rfl) rfl rfl (SEv.of Gd 10 ?_) (by simp; omega) ?_)
    · refine Eq.trans (row_eval (P := P) (nm P 113) rfl (.dict (bookV e)) cv (e i.toNat) (he _) i hi left hin (by omega) _ _ _ _ _ (by kernel_rfl)) ?_
      refine congrArg (fun l => some (AV.list l)) ?_
      rw [List.map_map, List.map_map]
      rfl
    · refine Tri.nil (sub_of ⟨by kernel_rfl, by kernel_rfl, by kernel_rfl, by kernel_rfl, ?_, trivial⟩)
      have e1 : (left.take (k + 1)).map (fun i => left.map fun j => matE e i j) = (left.take k).map (fun i => left.map fun j => matE e i j) ++ [left.map fun j => matE e i j] := by rw [List.take_add_one, hik]; simp
      rw [e1]
      unfold rowsV
      rw [List.map_append]
      kernel_rfl
  · intro σ₁ hsub
    rw [List.length_map, List.take_length] at hsub
    refine Tri.weaken hsub (Tri.freeze ["rows"] (Tri.seq (Tri.retS (d := .bool true) (SEv.cmp (a := rowV r) (b := rowV r) (SEv.of Gd 6 (Eq.trans (b := C.Φ "_law_figures" [rowsV (matV e left)]) (by kernel_rfl) h1)) (SEv.of Gd 6 (Eq.trans (b := C.Φ "_law_forests" [cv, rowV left]) (by kernel_rfl) h2)) (aeq_self r hr) rfl) rfl)))
end
end Mine
set_option maxRecDepth 100000
set_option linter.unusedVariables false
namespace Mine
open PySem PyProof.Rows
theorem asum_ints : ∀ (l : List Int), asum (l.map .int) = some l.sum
  | [] => rfl
  | a :: l => by
    show (asum (l.map .int)).map (a + ·) = _
    rw [asum_ints l]; simp
theorem apick_map {α β : Type} (f : α → β) (l : List α) (lo hi st : Option Int) : apick (l.map f) lo hi st = (apick l lo hi st).map f := by
  unfold apick
  rw [List.length_map]
  generalize sliceRange _ _ _ = is
  induction is with
  | nil => rfl
  | cons i is ih =>
    rw [List.filterMap_cons, List.filterMap_cons, List.getElem?_map]
    cases l[i]? with
    | none => exact ih
    | some a => show f a :: _ = f a :: _; rw [ih]
noncomputable def drawOf (script : List Int) (k own : Int) : Int := own + (apick script (some k) (some 20) (some 10)).sum
theorem apick_len {α : Type} (l : List α) (lo hi st : Option Int) : (apick l lo hi st).length ≤ (sliceRange (sliceBounds lo hi st l.length).1 (sliceBounds lo hi st l.length).2.1 (sliceBounds lo hi st l.length).2.2).length := by
  unfold apick
  exact List.length_filterMap_le ..
end Mine
set_option maxRecDepth 100000
set_option linter.unusedVariables false
namespace Mine
open PySem PyProof.Rows
theorem aeval_bin {C : Cfg} {n : Nat} {sc : NS} {σ : Sg} {l r : Expr} {op : Operator} {p : Pos} {a b d : AV} (h1 : aeval C n sc σ l = some a) (h2 : aeval C n sc σ r = some b) (hp : isPct op a = false) (h : abin op a b = some d) : aeval C (n + 1) sc σ (.BinOp l op r p) = some d := by
  show abinop C op (aeval C n sc σ l) (aeval C n sc σ r) = some d
  rw [h1, h2]
  show (if isPct op a = true then C.Pc a b else abin op a b) = some d
  rw [hp, if_neg Bool.false_ne_true]
  exact h
noncomputable def owns : List Int := [17, 2, 38, 9, 1, 11, 31, 12, 5, 0]
noncomputable def drawsOf (script : List Int) : List Int := [drawOf script 0 17, drawOf script 1 2, drawOf script 2 38, drawOf script 3 9, drawOf script 4 1, drawOf script 5 11, drawOf script 6 31, drawOf script 7 12, drawOf script 8 5, drawOf script 9 0]
noncomputable def drawF (script : List Int) : AV → AV
  | .tuple [.int k, .int own] => .int (drawOf script k own)
  | _ => .none
section
variable {W : Wd} {C : Cfg} {lv n : Nat} {P : Params}
theorem tri_draws (Gd : Good W C lv) (script : List Int) (hs : script.length ≤ 63) (N : Sg → Prop) (Rt : AV → Prop) (hN : N (put (args0 ["script"] [rowV script]) "draws" (false, rowV (drawsOf script)))) :
    Tri W lv (nm P 118) (Def.wr (nm P 118)) (exec (stmtAt (bd P 118) 0)) (args0 ["script"] [rowV script]) N Rt := by
  refine Tri.assignL Gd false 9 (rs := (drawsOf script).map .int) ?_ (by kernel_rfl) hN
  refine acomp_of (items := [.tuple [.int 0, .int 17], .tuple [.int 1, .int 2], .tuple [.int 2, .int 38], .tuple [.int 3, .int 9], .tuple [.int 4, .int 1], .tuple [.int 5, .int 11], .tuple [.int 6, .int 31], .tuple [.int 7, .int 12], .tuple [.int 8, .int 5], .tuple [.int 9, .int 0]]) (by kernel_rfl) (by kernel_rfl) ?_ (by simp [drawsOf])
  refine Eq.trans (agen_one (fun d => match d with | .tuple [a, b] => [("script", (false, rowV script)), ("k", (false, a)), ("own", (false, b))] | _ => []) (fun _ => true) (drawF script) (by kernel_rfl) (fun d hd => ?_) (fun d hd => ?_) (fun d hd _ => ?_)) rfl
  · obtain ⟨k, o, rfl⟩ : ∃ k o, d = .tuple [.int k, .int o] := by
      simp only [List.mem_cons, List.not_mem_nil, or_false] at hd
      rcases hd with rfl | rfl | rfl | rfl | rfl | rfl | rfl | rfl | rfl | rfl <;> exact ⟨_, _, rfl⟩
    kernel_rfl
  · rfl
  · obtain ⟨k, o, rfl⟩ : ∃ k o, d = .tuple [.int k, .int o] := by
      simp only [List.mem_cons, List.not_mem_nil, or_false] at hd
      rcases hd with rfl | rfl | rfl | rfl | rfl | rfl | rfl | rfl | rfl | rfl <;> exact ⟨_, _, rfl⟩
    have hlen : (apick (script.map AV.int) (some k) (some 20) (some 10)).length ≤ 1000000 := by
      refine Nat.le_trans (apick_len _ _ _ _) ?_
      simp only [sliceBounds, sliceRange, Option.getD_some, List.length_map, List.length_range]
      simp only [show ((10 : Int) > 0) from by decide, if_true]
      split <;> omega
    refine aeval_bin (a := .int o) (b := .int (apick script (some k) (some 20) (some 10)).sum) (by kernel_rfl) (aeval_sum (l := apick (script.map AV.int) (some k) (some 20) (some 10)) ?_ rfl rfl ?_ hlen (by kernel_rfl)) rfl rfl
    · refine Eq.trans (b := if (some (10 : Int)) ≠ some 0 ∧ (script.map AV.int).length ≤ 1000000 then some (.list (apick (script.map AV.int) (some k) (some 20) (some 10))) else none) (by kernel_rfl) ?_
      rw [if_pos ⟨by decide, by simp; omega⟩]
    · rw [apick_map, asum_ints]
end
end Mine
set_option maxRecDepth 100000
set_option linter.unusedVariables false
namespace Mine
open PySem PyProof.Rows
noncomputable def calOf (d : Int) : Cal := ⟨(d.fmod 4).toNat, ((d.fdiv 4).fmod 4).toNat, (d.fdiv 16).fmod 3 + 1⟩
noncomputable def calAV (d : Int) : AV := .tuple [.int (d.fmod 4), .int ((d.fdiv 4).fmod 4), .int ((d.fdiv 16).fmod 3 + 1)]
theorem calAV_eq (d : Int) : calAV d = (calOf d).av := by
  have h1 := Int.fmod_nonneg_of_pos d (show (0 : Int) < 4 by decide)
  have h2 := Int.fmod_nonneg_of_pos (d.fdiv 4) (show (0 : Int) < 4 by decide)
  unfold calAV calOf Cal.av
  dsimp only
  rw [Int.toNat_of_nonneg h1, Int.toNat_of_nonneg h2]
theorem calOf_ok (d : Int) : (calOf d).ok := by
  have h1 := Int.fmod_lt_of_pos d (show (0 : Int) < 4 by decide)
  have h2 := Int.fmod_lt_of_pos (d.fdiv 4) (show (0 : Int) < 4 by decide)
  have h3 := Int.fmod_nonneg_of_pos d (show (0 : Int) < 4 by decide)
  have h4 := Int.fmod_nonneg_of_pos (d.fdiv 4) (show (0 : Int) < 4 by decide)
  constructor
  · show (d.fmod 4).toNat < 4; omega
  · show ((d.fdiv 4).fmod 4).toNat < 4; omega
theorem calOf_c (d : Int) : 1 ≤ (calOf d).c ∧ (calOf d).c ≤ 3 := by
  have h1 := Int.fmod_lt_of_pos (d.fdiv 16) (show (0 : Int) < 3 by decide)
  have h2 := Int.fmod_nonneg_of_pos (d.fdiv 16) (show (0 : Int) < 3 by decide)
  show 1 ≤ (d.fdiv 16).fmod 3 + 1 ∧ (d.fdiv 16).fmod 3 + 1 ≤ 3
  omega
section
variable {W : Wd} {C : Cfg} {lv n : Nat} {P : Params}
theorem tri_calls (Gd : Good W C lv) (sv : AV) (d0 d1 d2 d3 d4 d5 d6 d7 d8 d9 : Int) (N : Sg → Prop) (Rt : AV → Prop)
    (hN : N (put (put (args0 ["script"] [sv]) "draws" (false, rowV [d0, d1, d2, d3, d4, d5, d6, d7, d8, d9])) "calls" (false, callsV [calOf d0, calOf d1, calOf d2, calOf d3, calOf d4, calOf d5, calOf d6, calOf d7]))) :
    Tri W lv (nm P 118) (Def.wr (nm P 118)) (exec (stmtAt (bd P 118) 1)) (put (args0 ["script"] [sv]) "draws" (false, rowV [d0, d1, d2, d3, d4, d5, d6, d7, d8, d9])) N Rt := by
  have e : callsV [calOf d0, calOf d1, calOf d2, calOf d3, calOf d4, calOf d5, calOf d6, calOf d7] = .list [calAV d0, calAV d1, calAV d2, calAV d3, calAV d4, calAV d5, calAV d6, calAV d7] := by
    simp only [callsV, List.map_cons, List.map_nil, calAV_eq]
  rw [e] at hN
  exact Tri.assignL Gd false 9 (rs := [calAV d0, calAV d1, calAV d2, calAV d3, calAV d4, calAV d5, calAV d6, calAV d7]) (by kernel_rfl) (by kernel_rfl) hN
end
end Mine
set_option maxRecDepth 100000
set_option linter.unusedVariables false
namespace Mine
open PySem PyProof.Rows
noncomputable def fn0 : AV := .tuple [.str "a", .int 1, .str "f"]
noncomputable def fn1 : AV := .tuple [.str "a", .int 12, .str "g"]
noncomputable def fn2 : AV := .tuple [.str "b", .int 1, .str "g"]
noncomputable def fn3 : AV := .tuple [.str "~", .int 0, .str "<f>"]
structure StdOk (C : Cfg) : Prop where
  s0 : C.Φ "func_std_string" [fn0] = some (.str nA)
  s1 : C.Φ "func_std_string" [fn1] = some (.str nB)
  s2 : C.Φ "func_std_string" [fn2] = some (.str nC)
  s3 : C.Φ "func_std_string" [fn3] = some (.str nD)
noncomputable def lσ (sv dv cv : AV) : Sg := args0 ["script", "draws", "calls", "names"] [sv, dv, cv, .list namesV]
section
variable {W : Wd} {C : Cfg} {lv n : Nat} {P : Params}
theorem tri_texts (Gd : Good W C lv) (hs : StdOk C) (sv dv cv : AV) (N : Sg → Prop) (Rt : AV → Prop) (hN : N (put (lσ sv dv cv) "texts" (false, .list namesV))) :
    Tri W lv (nm P 118) (Def.wr (nm P 118)) (exec (stmtAt (bd P 118) 3)) (lσ sv dv cv) N Rt := by
  refine Tri.assignL Gd false 9 (rs := namesV) ?_ (by kernel_rfl) hN
  refine acomp_of (items := [fn0, fn1, fn2, fn3]) (by kernel_rfl) (by kernel_rfl) ?_ (by simp [namesV])
  refine Eq.trans (agen_one (fun d => [("one", (false, d))]) (fun _ => true) (fun d => (C.Φ "func_std_string" [d]).getD .none) (by kernel_rfl) (fun d hd => by kernel_rfl) (fun d hd => by kernel_rfl) (fun d hd _ => ?_)) ?_
  · simp only [List.mem_cons, List.not_mem_nil, or_false] at hd
    have key : ∀ o : Option AV, o.isSome = true → o = some (o.getD .none) := by
      intro o ho
      cases o with
      | none => cases ho
      | some v => rfl
    refine Eq.trans (b := C.Φ "func_std_string" [d]) (by kernel_rfl) (key _ ?_)
    rcases hd with rfl | rfl | rfl | rfl
    · rw [hs.s0]; rfl
    · rw [hs.s1]; rfl
    · rw [hs.s2]; rfl
    · rw [hs.s3]; rfl
  · rw [List.filter_eq_self.mpr (fun _ _ => rfl)]
    simp only [List.map_cons, List.map_nil]
    rw [hs.s0, hs.s1, hs.s2, hs.s3]; rfl
end
end Mine
set_option maxRecDepth 100000
set_option linter.unusedVariables false
namespace Mine
open PySem PyProof.Rows
noncomputable def madeI (cs : List Cal) (i : Int) : Int := ((cs.filter fun x => ((x.p : Int) == i)).map (·.c)).sum
noncomputable def selP (i : Int) : AV → Bool
  | .tuple [.int p, _, _] => p == i
  | _ => false
theorem asum_selP (cs : List Cal) (i : Int) : asum (((cs.map Cal.av).filter (selP i)).map third) = some (madeI cs i) := by
  induction cs with
  | nil => rfl
  | cons x cs ih =>
    obtain ⟨p, q, c⟩ := x
    unfold madeI at ih ⊢
    rw [List.map_cons, List.filter_cons, List.filter_cons]
    have e : selP i (Cal.av ⟨p, q, c⟩) = ((p : Int) == i) := rfl
    rw [e]
    cases ((p : Int) == i) with
    | false => exact ih
    | true =>
      rw [if_pos rfl, if_pos rfl, List.map_cons, List.map_cons, List.sum_cons]
      show (asum _).map (c + ·) = _
      rw [ih]; rfl
noncomputable def mσ (sv dv : AV) (cs : List Cal) (bk : AV) : Sg := args0 ["script", "draws", "calls", "names", "texts", "book"] [sv, dv, callsV cs, .list namesV, .list namesV, bk]
section
variable {W : Wd} {C : Cfg} {lv n : Nat} {P : Params}
theorem tri_made (Gd : Good W C lv) (sv dv bk : AV) (cs : List Cal) (hcs : cs.length ≤ 900) (N : Sg → Prop) (Rt : AV → Prop) (hN : N (put (mσ sv dv cs bk) "made" (false, rowV [madeI cs 0, madeI cs 1, madeI cs 2, madeI cs 3]))) :
    Tri W lv (nm P 118) (Def.wr (nm P 118)) (exec (stmtAt (bd P 118) 6)) (mσ sv dv cs bk) N Rt := by
  refine Tri.assignL Gd false 9 (rs := [.int (madeI cs 0), .int (madeI cs 1), .int (madeI cs 2), .int (madeI cs 3)]) ?_ (by kernel_rfl) hN
  refine acomp_of (items := [.int 0, .int 1, .int 2, .int 3]) (by kernel_rfl) (by kernel_rfl) ?_ (by simp)
  refine Eq.trans (agen_one (fun d => [("calls", (false, callsV cs)), ("place", (false, d))]) (fun _ => true) (fun d => match d with | .int j => .int (madeI cs j) | _ => .none) (by kernel_rfl) (fun d hd => by kernel_rfl) (fun d hd => by kernel_rfl) (fun d hd _ => ?_)) rfl
  obtain ⟨i, rfl⟩ : ∃ j, d = .int j := by
    simp only [List.mem_cons, List.not_mem_nil, or_false] at hd
    rcases hd with rfl | rfl | rfl | rfl <;> exact ⟨_, rfl⟩
  refine aeval_sum (l := ((cs.map Cal.av).filter (selP i)).map third) (aeval_listcomp ?_) rfl rfl (asum_selP cs i) (by have := List.length_filter_le (selP i) (cs.map Cal.av); simp at this ⊢; omega) (by kernel_rfl)
  refine acomp_of (items := cs.map Cal.av) (by kernel_rfl) ?_ ?_ (by have := List.length_filter_le (selP i) (cs.map Cal.av); simp at this ⊢; omega)
  · refine Eq.trans (b := if (cs.map Cal.av).length ≤ 1000 then some (cs.map Cal.av) else none) (by kernel_rfl) ?_
    rw [if_pos (by simp; omega)]
  · refine agen_one (fun d => [("place", (false, .int i)), ("call", (false, d))]) (selP i) third (by kernel_rfl) (fun d hd => by kernel_rfl) (fun d hd => ?_) (fun d hd _ => ?_)
    · obtain ⟨x, _, rfl⟩ := List.mem_map.mp hd
      obtain ⟨p, q, c⟩ := x
      exact Eq.trans (by kernel_rfl) (bsel ((p : Int) == i))
    · obtain ⟨x, _, rfl⟩ := List.mem_map.mp hd
      kernel_rfl
end
end Mine
set_option maxRecDepth 100000
set_option linter.unusedVariables false
namespace Mine
open PySem PyProof.Rows
section
variable {W : Wd} {C : Cfg} {lv n : Nat} {P : Params}
theorem ne_self (p : List Int) (h : p.length ≤ 1000) : acmp .NotEq (rowV p) (rowV p) = some false := by
  show (aeq (rowV p) (rowV p)).map (!·) = some false
  rw [aeq_self p h]; rfl
theorem tri_same (Gd : Good W C lv) (sv dv : AV) (cs : List Cal) (e : Nat → Ent) (m0 m1 m2 m3 : Int) (h0 : (e 0).nc = m0) (h1 : (e 1).nc = m1) (h2 : (e 2).nc = m2) (h3 : (e 3).nc = m3)
    (c0 : C.Φ "count_calls" [.dict (e 0).t] = some (.int m0)) (c1 : C.Φ "count_calls" [.dict (e 1).t] = some (.int m1)) (c2 : C.Φ "count_calls" [.dict (e 2).t] = some (.int m2)) (c3 : C.Φ "count_calls" [.dict (e 3).t] = some (.int m3))
    (N : Sg → Prop) (Rt : AV → Prop) (hN : N (put (mσ sv dv cs (.dict (bookV e))) "made" (false, rowV [m0, m1, m2, m3]))) :
    Tri W lv (nm P 118) (Def.wr (nm P 118)) (exec (stmtAt (bd P 118) 7)) (put (mσ sv dv cs (.dict (bookV e))) "made" (false, rowV [m0, m1, m2, m3])) N Rt := by
  refine Tri.iteS (b := false) (STe.or (c := false) (d := false) (STe.cmp (a := rowV [m0, m1, m2, m3]) (b := rowV [m0, m1, m2, m3]) (SEv.of Gd 9 ?_) (SEv.of Gd 5 (by kernel_rfl)) (ne_self _ (by simp)) rfl) (fun _ => STe.cmp (a := rowV [m0, m1, m2, m3]) (b := rowV [m0, m1, m2, m3]) (SEv.of Gd 9 (aeval_listcomp ?_)) (SEv.of Gd 5 (by kernel_rfl)) (ne_self _ (by simp)) rfl)) (fun h => by cases h) fun _ => Tri.nil hN
  · subst h0 h1 h2 h3
    kernel_rfl
  · refine acomp_of (items := namesV) (by kernel_rfl) (by kernel_rfl) ?_ (by simp)
    refine Eq.trans (agen_one (fun d => [("book", (false, .dict (bookV e))), ("name", (false, d))]) (fun _ => true) (fun d => match d with | .str x => if x = nA then .int m0 else if x = nB then .int m1 else if x = nC then .int m2 else .int m3 | _ => .none) (by kernel_rfl) (fun d hd => by kernel_rfl) (fun d hd => by kernel_rfl) (fun d hd _ => ?_)) (by kernel_rfl)
    simp only [namesV, List.mem_cons, List.not_mem_nil, or_false] at hd
    rcases hd with rfl | rfl | rfl | rfl
    · exact Eq.trans (b := C.Φ "count_calls" [.dict (e 0).t]) (by kernel_rfl) (c0.trans (by kernel_rfl))
    · exact Eq.trans (b := C.Φ "count_calls" [.dict (e 1).t]) (by kernel_rfl) (c1.trans (by kernel_rfl))
    · exact Eq.trans (b := C.Φ "count_calls" [.dict (e 2).t]) (by kernel_rfl) (c2.trans (by kernel_rfl))
    · exact Eq.trans (b := C.Φ "count_calls" [.dict (e 3).t]) (by kernel_rfl) (c3.trans (by kernel_rfl))
end
end Mine
set_option maxRecDepth 100000
set_option linter.unusedVariables false
namespace Mine
open PySem PyProof.Rows
noncomputable def frontOf : Int → Str
  | 0 => ""
  | 1 => "a:1"
  | 2 => "b"
  | _ => "{f"
noncomputable def endOf : Int → Str
  | 0 => ""
  | 1 => "1(f)"
  | 2 => "g)"
  | _ => "f}"
section
variable {W : Wd} {C : Cfg} {lv n : Nat} {P : Params} {σ : Sg}
theorem in4_fmod (d : Int) : In4 (d.fmod 4) := by
  have h1 := Int.fmod_nonneg_of_pos d (show (0 : Int) < 4 by decide)
  have h2 := Int.fmod_lt_of_pos d (show (0 : Int) < 4 by decide)
  unfold In4; omega
end
end Mine
set_option maxRecDepth 100000
set_option linter.unusedVariables false
namespace Mine
open PySem PyProof.Rows
noncomputable def patOf (x y : Int) : Str := frontOf x ++ "..." ++ endOf y
noncomputable def fitB (x y : Int) (k : Int) : Bool := acut (nam k.toNat) none (some (frontOf x).length) == frontOf x && Txt.endswith (acut (nam k.toNat) (some (frontOf x).length) none) (endOf y)
noncomputable def fitsOf (x y : Int) : List Int := ([0, 1, 2, 3] : List Int).filter (fitB x y)
section
variable {W : Wd} {C : Cfg} {lv n : Nat} {P : Params} {σ : Sg}
theorem tri_law (Gd : Good W C lv) (hstd : StdOk C) (script : List Int) (hs : script.length ≤ 63) (cs : List Cal) (e : Nat → Ent) (d8 d9 : Int)
    (hcs : cs = [calOf (drawOf script 0 17), calOf (drawOf script 1 2), calOf (drawOf script 2 38), calOf (drawOf script 3 9), calOf (drawOf script 4 1), calOf (drawOf script 5 11), calOf (drawOf script 6 31), calOf (drawOf script 7 12)])
    (hbook : C.Φ "_law_book" [callsV cs, .list namesV] = some (.dict (bookV e)))
    (h0 : (e 0).nc = madeI cs 0) (h1 : (e 1).nc = madeI cs 1) (h2 : (e 2).nc = madeI cs 2) (h3 : (e 3).nc = madeI cs 3)
    (c0 : C.Φ "count_calls" [.dict (e 0).t] = some (.int (madeI cs 0))) (c1 : C.Φ "count_calls" [.dict (e 1).t] = some (.int (madeI cs 1))) (c2 : C.Φ "count_calls" [.dict (e 2).t] = some (.int (madeI cs 2))) (c3 : C.Φ "count_calls" [.dict (e 3).t] = some (.int (madeI cs 3)))
    (hC1 : ∀ x y, In4 x → In4 y → C.Φ "_law_counted" [.dict (bookV e), .list namesV, callsV cs, .str (patOf x y), rowV (fitsOf x y)] = some (.bool true))
    (hC2 : ∀ z, In4 z → C.Φ "_law_counted" [.dict (bookV e), .list namesV, callsV cs, .str (nam z.toNat), rowV [z]] = some (.bool true)) :
    Tri W lv (nm P 118) (Def.wr (nm P 118)) (execs (bd P 118)) (args0 ["script"] [rowV script]) (fun _ => False) (fun d => d = .bool true) := by
  refine Tri.seq (tri_draws Gd script hs _ _ ?_)
  have hl8 : cs.length ≤ 900 := by rw [hcs]; simp
  unfold drawsOf
  refine Tri.seq (tri_calls Gd _ _ _ _ _ _ _ _ _ _ _ _ _ ?_)
  rw [← hcs]
  generalize drawOf script 8 5 = d8
  generalize drawOf script 9 0 = d9
  generalize hds : rowV [drawOf script 0 17, drawOf script 1 2, drawOf script 2 38, drawOf script 3 9, drawOf script 4 1, drawOf script 5 11, drawOf script 6 31, drawOf script 7 12, d8, d9] = dv
  refine Tri.seq (Tri.assign Gd 5 (d := .list namesV) (by kernel_rfl) (by kernel_rfl) rfl ?_)
  refine Tri.weaken (σ' := lσ (rowV script) dv (callsV cs)) (sub_of ⟨by kernel_rfl, by kernel_rfl, by kernel_rfl, by kernel_rfl, trivial⟩) ?_
  refine Tri.seq (tri_texts Gd hstd _ _ _ _ _ ?_)
  refine Tri.seq (Tri.ite Gd 6 (b := false) (by kernel_rfl) (fun h => by cases h) fun _ => Tri.nil ?_)
  refine Tri.seq (Tri.assign Gd 6 (d := .dict (bookV e)) (Eq.trans (b := C.Φ "_law_book" [callsV cs, .list namesV]) (by kernel_rfl) hbook) (by kernel_rfl) rfl ?_)
  refine Tri.weaken (σ' := mσ (rowV script) dv cs (.dict (bookV e))) (sub_of ⟨by kernel_rfl, by kernel_rfl, by kernel_rfl, by kernel_rfl, by kernel_rfl, by kernel_rfl, trivial⟩) ?_
  refine Tri.seq (tri_made Gd _ _ _ cs hl8 _ _ ?_)
  refine Tri.seq (tri_same Gd _ _ cs e _ _ _ _ h0 h1 h2 h3 c0 c1 c2 c3 _ _ ?_)
  subst hds
  refine Tri.weaken (σ' := [("draws", (false, rowV [drawOf script 0 17, drawOf script 1 2, drawOf script 2 38, drawOf script 3 9, drawOf script 4 1, drawOf script 5 11, drawOf script 6 31, drawOf script 7 12, d8, d9])), ("calls", (false, callsV cs)), ("names", (false, .list namesV)), ("book", (false, .dict (bookV e)))]) (sub_of ⟨by kernel_rfl, by kernel_rfl, by kernel_rfl, by kernel_rfl, trivial⟩) ?_
  have hx := in4_fmod d8
  have hy := in4_fmod (d8.fdiv 4)
  have hz := in4_fmod d9
  refine Tri.seq (Tri.assignS Gd.firm (d := .str (frontOf (d8.fmod 4))) (SEv.sub (a := .list [.str "", .str "a:1", .str "b", .str "{f"]) (k := .int (d8.fmod 4)) (SEv.of Gd 6 (by kernel_rfl)) (SEv.of Gd 6 (by kernel_rfl)) ?_ rfl) (by kernel_rfl) rfl ?_)
  · rcases hx with h | h | h | h <;> rw [h] <;> kernel_rfl
  refine Tri.seq (Tri.assignS Gd.firm (d := .str (endOf ((d8.fdiv 4).fmod 4))) (SEv.sub (a := .list [.str "", .str "1(f)", .str "g)", .str "f}"]) (k := .int ((d8.fdiv 4).fmod 4)) (SEv.of Gd 7 (by kernel_rfl)) (SEv.of Gd 7 (by kernel_rfl)) ?_ rfl) (by kernel_rfl) rfl ?_)
  · rcases hy with h | h | h | h <;> rw [h] <;> kernel_rfl
  generalize d8.fmod 4 = x at *
  generalize (d8.fdiv 4).fmod 4 = y at *
  refine Tri.seq (Tri.assignL Gd false 9 (rs := (fitsOf x y).map .int) ?_ (by kernel_rfl) ?_)
  · rcases hx with rfl | rfl | rfl | rfl <;> rcases hy with rfl | rfl | rfl | rfl <;> kernel_rfl
  refine Tri.seq (Tri.assign Gd 6 (d := .int (d9.fmod 4)) (by kernel_rfl) (by kernel_rfl) rfl ?_)
  generalize d9.fmod 4 = z at *
  refine Tri.seq (Tri.iteS (b := false) (STe.not (c := true) (STe.val (d := .bool true) (SEv.of Gd 9 (Eq.trans (b := C.Φ "_law_counted" [.dict (bookV e), .list namesV, callsV cs, .str (patOf x y), rowV (fitsOf x y)]) ?_ (hC1 x y hx hy))) rfl rfl)) (fun h => by cases h) fun _ => Tri.nil ?_)
  · rcases hx with rfl | rfl | rfl | rfl <;> rcases hy with rfl | rfl | rfl | rfl <;> kernel_rfl
  refine Tri.seq (Tri.ret Gd 9 (d := .bool true) (Eq.trans (b := C.Φ "_law_counted" [.dict (bookV e), .list namesV, callsV cs, .str (nam z.toNat), rowV [z]]) ?_ (hC2 z hz)) rfl)
  rcases hz with rfl | rfl | rfl | rfl <;> kernel_rfl
end
end Mine
set_option maxRecDepth 100000
set_option linter.unusedVariables false
namespace Mine
open PySem PySem.W PyProof.Rows PySem.Calls
/-- a code object in a code table -/
noncomputable def CodeAt (h : Heap) (cv : Value) (q : Str) : Prop := ∃ c o vs t, cv = .ref c ∧ h.get? c = some o ∧ o.cls = .type "code" ∧ o.data = .fields vs ∧ vs[1]? = some (.str q t)
noncomputable def q3 : Str := "_int2digits.<locals>.inner"
noncomputable def q4 : Str := "_digits2int.<locals>.inner"
noncomputable def pos3 : Pos := ⟨32, 4, 41, 28⟩
noncomputable def pos4 : Pos := ⟨47, 4, 52, 55⟩
noncomputable def TabOk (h : Heap) (P : Addr) : Prop := ∃ ps, h.get? P = some (tabObj ps) ∧ TriplesOk ps.toList ∧ (∀ cv, codeAmong pos3 ps.toList = some cv → CodeAt h cv q3) ∧ ∀ cv, codeAmong pos4 ps.toList = some cv → CodeAt h cv q4
theorem CodeAt.rec_ {h : Heap} {cv : Value} {q : Str} (x : CodeAt h cv q) : h.CodeRec cv q := let ⟨c, o, vs, t, e1, e2, _, e4, e5⟩ := x; ⟨c, o, vs, t, e1, e2, e4, e5⟩
theorem CodeAt.keeps {h h' : Heap} {cv : Value} {q : Str} (x : CodeAt h cv q) (k : ∀ c o vs, cv = .ref c → o.cls = .type "code" → o.data = .fields vs → h.get? c = some o → h'.get? c = some o) : CodeAt h' cv q :=
  let ⟨c, o, vs, t, e1, e2, e3, e4, e5⟩ := x; ⟨c, o, vs, t, e1, k c o vs e1 e3 e4 e2, e3, e4, e5⟩
theorem among_other {pos : Pos} {a b : Int} {c : Value} (hab : (a == pos.line && b == pos.col) = false) (l : List Value) (h : TriplesOk l) : codeAmong pos (l ++ [rawInt a, rawInt b, c]) = codeAmong pos l := by
  fun_induction TriplesOk l with
  | case1 => simp [codeAmong, rawInt, hab]
  | case2 a' t b' u x rest ih => simp only [List.cons_append, codeAmong]; rw [ih h]
  | case3 l h1 h2 => exact h.elim
/-- a table has grown by one code object -/
noncomputable def Grown (h h' : Heap) (P : Addr) (pos : Pos) (q : Str) : Prop := ∃ ps cv, h.get? P = some (tabObj ps) ∧ TriplesOk ps.toList ∧ codeAmong pos ps.toList = none ∧ (∀ b o, b ≠ P → h.get? b = some o → h'.get? b = some o) ∧ CodeAt h' cv q ∧ h'.get? P = some (tabObj (ps ++ #[rawInt pos.line, rawInt pos.col, cv]))
theorem Grown.code {h h' : Heap} {P : Addr} {pos : Pos} {q q' : Str} {cv : Value} (g : Grown h h' P pos q) (x : CodeAt h cv q') : CodeAt h' cv q' := by
  obtain ⟨ps, _, h1, _, _, hk, _⟩ := g
  exact x.keeps fun c o vs _ e3 e4 e => hk c o (fun hc => by rw [hc, h1] at e; cases e; cases e3) e
theorem Grown.tab {h h' : Heap} {P Q : Addr} {pos : Pos} {q : Str} (g : Grown h h' P pos q) (hp : (pos = pos3 ∧ q = q3) ∨ (pos = pos4 ∧ q = q4)) (x : TabOk h Q) : TabOk h' Q := by
  obtain ⟨ps0, k1, k2, k3, k4⟩ := x
  by_cases hQ : Q = P
  · subst hQ
    obtain ⟨ps, cv, h1, h2, h3, hk, hc, h4⟩ := id g
    rw [k1] at h1; cases h1
    refine ⟨_, h4, by simpa using TriplesOk_snoc _ _ cv _ h2, fun cv' e => ?_, fun cv' e => ?_⟩
    · rw [Array.toList_append] at e
      rcases hp with ⟨rfl, rfl⟩ | ⟨rfl, rfl⟩
      · have := codeAmong_snoc (c := cv) _ h2 h3
        rw [show (#[rawInt pos3.line, rawInt pos3.col, cv] : Array Value).toList = [rawInt pos3.line, rawInt pos3.col, cv] from rfl, this] at e
        cases e; exact hc
      · have := among_other (pos := pos3) (a := pos4.line) (b := pos4.col) (c := cv) (by decide) _ h2
        rw [show (#[rawInt pos4.line, rawInt pos4.col, cv] : Array Value).toList = [rawInt pos4.line, rawInt pos4.col, cv] from rfl, this] at e
        exact g.code (k3 cv' e)
    · rw [Array.toList_append] at e
      rcases hp with ⟨rfl, rfl⟩ | ⟨rfl, rfl⟩
      · have := among_other (pos := pos4) (a := pos3.line) (b := pos3.col) (c := cv) (by decide) _ h2
        rw [show (#[rawInt pos3.line, rawInt pos3.col, cv] : Array Value).toList = [rawInt pos3.line, rawInt pos3.col, cv] from rfl, this] at e
        exact g.code (k4 cv' e)
      · have := codeAmong_snoc (c := cv) _ h2 h3
        rw [show (#[rawInt pos4.line, rawInt pos4.col, cv] : Array Value).toList = [rawInt pos4.line, rawInt pos4.col, cv] from rfl, this] at e
        cases e; exact hc
  · obtain ⟨ps, cv, h1, h2, h3, hk, hc, h4⟩ := id g
    exact ⟨ps0, hk _ _ hQ k1, k2, fun cv' e => g.code (k3 cv' e), fun cv' e => g.code (k4 cv' e)⟩
theorem TabOk.keeps {h h' : Heap} {P : Addr} (x : TabOk h P) (k : ∀ b o, h.get? b = some o → h'.get? b = some o) : TabOk h' P :=
  let ⟨ps, h1, h2, h3, h4⟩ := x; ⟨ps, k _ _ h1, h2, fun cv e => (h3 cv e).keeps fun _ _ _ _ _ _ e => k _ _ e, fun cv e => (h4 cv e).keeps fun _ _ _ _ _ _ e => k _ _ e⟩
/-- the def of a maker, with its code object and the table in it -/
structure Maker (h : Heap) (mg : Str → Option Value) (k : Addr) (c P : Addr) : Prop where
  at_ : ∃ a o fd, mg (dnm k) = some (.ref a) ∧ h.get? a = some o ∧ o.data = .func fd ∧ fd.code = .ref c
  code : CodeHd h c P
  tab : h.get? P = some (tabObj #[])
structure Start (s : Shared) (mg mb : Str → Option Value) (mean : ExcName → Option Value) (c3 P3 c4 P4 : Addr) : Prop where
  T : Top view (looseW view []) mean mg mb s.heap
  m3 : Maker s.heap mg 35 c3 P3
  m4 : Maker s.heap mg 42 c4 P4
section
variable {w : World} {s : Shared} {mg mb : Str → Option Value} {mean : ExcName → Option Value} {c3 P3 c4 P4 : Addr}
theorem Start.noT (S : Start s mg mb mean c3 P3 c4 P4) {a : Addr} {o : Obj} (e : s.heap.get? a = some o) (h : o ≠ tabObj #[]) : a ∉ [P3, P4] := by
  intro hm
  simp only [List.mem_cons, List.not_mem_nil, or_false] at hm
  rcases hm with rfl | rfl
  · rw [S.m3.tab] at e; cases e; exact h rfl
  · rw [S.m4.tab] at e; cases e; exact h rfl
noncomputable def GG (s : Shared) (P3 P4 : Addr) (h : Heap) : Prop := (∀ b o, b ∉ [P3, P4] → s.heap.get? b = some o → h.get? b = some o) ∧ TabOk h P3 ∧ TabOk h P4
theorem GG.ns (S : Start s mg mb mean c3 P3 c4 P4) {h : Heap} (g : GG s P3 P4 h) {a : Addr} {m : Str → Option Value} (x : s.heap.Ns a m) : h.Ns a m := by
  obtain ⟨o, es, ep, e, hd, r⟩ := x
  exact ⟨o, es, ep, g.1 a o (S.noT e fun q => by rw [q] at hd; cases hd) e, hd, r⟩
noncomputable def theWd (p : Program) (w : World) (S : Start s mg mb mean c3 P3 c4 P4) : Wd where
  prog := p
  w := w
  T := [P3, P4]
  G := GG s P3 P4
  mg := mg
  mb := mb
  keepG := fun h h' g k => ⟨fun b o hb e => k b o (g.1 b o hb e), g.2.1.keeps k, g.2.2.keeps k⟩
  tab := fun h t g ht => by
    simp only [List.mem_cons, List.not_mem_nil, or_false] at ht
    rcases ht with rfl | rfl
    · obtain ⟨ps, h1, _⟩ := g.2.1; exact ⟨_, ps, h1, rfl, rfl⟩
    · obtain ⟨ps, h1, _⟩ := g.2.2; exact ⟨_, ps, h1, rfl, rfl⟩
  gns := fun h g => g.ns S S.T.g
  bns := fun h g => g.ns S S.T.b
  nol := fun h g => let ⟨mc, a, b⟩ := S.T.nolimit; ⟨mc, g.ns S a, b⟩
  sys := fun h g => let ⟨mm, x, _⟩ := (S.T.seer (by kernel_rfl)).mods; let ⟨o, _, _, e, _⟩ := g.ns S x; ⟨o, e⟩
theorem theFirm (p : Program) (w : World) (S : Start s mg mb mean c3 P3 c4 P4) : (theWd p w S).Firm where
  pokes := fun {h₀ h h' ms} g0 g k h0 hn hk => by
    have key : ∀ P, TabOk h₀ P → TabOk h P → TabOk h' P := fun P x y => by
      obtain ⟨ps, h1, h2, h3, h4⟩ := y
      obtain ⟨ps0, h10, _⟩ := x
      refine ⟨ps, hk P _ (fun hm => ?_) h1, h2, fun cv e => (h3 cv e).keeps fun c o vs _ e3 e4 e2 => hk c o (fun hm => hn c hm o e2 vs e4 e3) e2, fun cv e => (h4 cv e).keeps fun c o vs _ e3 e4 e2 => hk c o (fun hm => hn c hm o e2 vs e4 e3) e2⟩
      rw [h0 P hm] at h10; cases h10
    refine ⟨fun b o hb e => ?_, key P3 g0.2.1 g.2.1, key P4 g0.2.2 g.2.2⟩
    have e0 := g0.1 b o hb e
    exact hk b o (fun hm => by rw [h0 b hm] at e0; cases e0) (g.1 b o hb e)
theorem GG.start (S : Start s mg mb mean c3 P3 c4 P4) : GG s P3 P4 s.heap := by
  refine ⟨fun _ _ _ e => e, ⟨#[], S.m3.tab, trivial, nofun, nofun⟩, ⟨#[], S.m4.tab, trivial, nofun, nofun⟩⟩
end
/-! ## the defs -/
section
variable {W : Wd}
/-- a name that the text does not bind -/
noncomputable def biOk (x : Str) : Bool := x != "__name__" && (!startupNames.contains x && (!(looseW view []).contains x && (!((recsOf view).map (·.name)).contains x && (!((litsOf view).map (·.1)).contains x && !((clssOf view (looseW view [])).map (·.name)).contains x))))
/-- what the texts need of the run -/
structure Base (W : Wd) (c3 P3 c4 P4 : Addr) : Prop where
  firm : W.Firm
  fn : ∀ d ∈ recsOf view, ∃ a o pm code doc, W.mg d.name = some (.ref a) ∧ (∀ h, W.G h → h.get? a = some o) ∧ o.data = .func (docDef d.name d.params d.body d.scope pm code doc) ∧ ∀ h, W.G h → h.CodeRec code d.name
  const : ∀ x d, valOf view x = some d → ∃ v, W.mg x = some v ∧ ∀ h' : Heap, Reads h' v d []
  bi : ∀ x : Str, biOk x = true → (W.mg x).or (W.mb x) = bootBuiltins x
  m3 : ∀ h, W.G h → CodeHd h c3 P3 ∧ TabOk h P3
  m4 : ∀ h, W.G h → CodeHd h c4 P4 ∧ TabOk h P4
  t3 : P3 ∈ W.T
  t4 : P4 ∈ W.T
  code3 : ∃ a o fd, W.mg (dnm 35) = some (.ref a) ∧ (∀ h, W.G h → h.get? a = some o) ∧ o.data = .func fd ∧ fd.code = .ref c3
  code4 : ∃ a o fd, W.mg (dnm 42) = some (.ref a) ∧ (∀ h, W.G h → h.get? a = some o) ∧ o.data = .func fd ∧ fd.code = .ref c4
  grow : ∀ {h h' : Heap} {P : Addr} {pos : Pos} {q : Str}, W.G h → P ∈ W.T → Grown h h' P pos q → (pos = pos3 ∧ q = q3) ∨ (pos = pos4 ∧ q = q4) → W.G h'
  bmain : ∃ bm ob, W.mg "__builtins__" = some (.ref bm) ∧ bm ≠ builtinsNs ∧ (∀ h, W.G h → h.get? bm = some ob) ∧ ob.cls = .type "module" ∧ ob.dict = some builtinsNs ∧ ob.data = .plain
noncomputable def dps (a : Addr) : Pos := match stOf a with
  | .FunctionDef _ _ _ _ _ _ _ _ _ p => p
  | _ => ⟨0, 0, 0, 0⟩
theorem Def.mk' {c3 P3 c4 P4 : Addr} (B : Base W c3 P3 c4 P4) {f : Str} {k : Addr} (i : Nat) {params : List Str} (e0 : (recsOf view)[i]? = some ⟨dnm k, prm k, bd W.P k, scp k, dps k⟩) (e1 : dnm k = f)
    (e5 : ∀ pm code doc, ∀ vals : List Value, vals.length = params.length → bindArgs (docDef (dnm k) (prm k) (bd W.P k) (scp k) pm code doc) ⟨vals, []⟩ = pure (params.zip vals))
    (e9 : (scp k).isCoroutine = false) (e10 : (scp k).isGenerator = false) (e11 : (scp k).kind = .function) (e12 : decide (((nm W.P k).map (·.1)).Nodup) = true) (e13 : decide params.Nodup = true)
    (e14 : params.all (fun x => (nm W.P k).lookup x == some .local || (nm W.P k).lookup x == some .cell) = true) : ∃ a o pm code doc, Def W f (nm W.P k) (bd W.P k) params a o (docDef (dnm k) (prm k) (bd W.P k) (scp k) pm code doc) := by
  obtain ⟨a, o, pm, code, doc, h1, h2, h3, h4⟩ := B.fn _ (List.mem_of_getElem? e0)
  subst e1
  exact ⟨a, o, pm, code, doc, h1, h2, h3, h4, rfl, e5 pm code doc, rfl, rfl, rfl, e9, e10, e11, of_decide_eq_true e12, of_decide_eq_true e13, fun x hx => by simpa using List.all_eq_true.mp e14 x hx, rfl⟩
theorem len_one {α : Type} {l : List α} {n : Nat} (h : l.length = n + 1) : ∃ a r, l = a :: r ∧ r.length = n := by
  cases l with
  | nil => cases h
  | cons a r => exact ⟨a, r, rfl, Nat.succ.inj h⟩
theorem zip1 {x : Str} {fd : FuncData} (h : ∀ v, bindArgs fd ⟨[v], []⟩ = pure [(x, v)]) : ∀ vals : List Value, vals.length = [x].length → bindArgs fd ⟨vals, []⟩ = pure ([x].zip vals) := by
  intro vals e0
  obtain ⟨v, r0, rfl, e1⟩ := len_one e0
  cases List.eq_nil_of_length_eq_zero e1
  exact h v
theorem zip2 {x y : Str} {fd : FuncData} (h : ∀ v u, bindArgs fd ⟨[v, u], []⟩ = pure [(x, v), (y, u)]) : ∀ vals : List Value, vals.length = [x, y].length → bindArgs fd ⟨vals, []⟩ = pure ([x, y].zip vals) := by
  intro vals e0
  obtain ⟨v, r0, rfl, e1⟩ := len_one e0
  obtain ⟨u, r1, rfl, e2⟩ := len_one e1
  cases List.eq_nil_of_length_eq_zero e2
  exact h v u
theorem zip3 {x y z : Str} {fd : FuncData} (h : ∀ v u t, bindArgs fd ⟨[v, u, t], []⟩ = pure [(x, v), (y, u), (z, t)]) : ∀ vals : List Value, vals.length = [x, y, z].length → bindArgs fd ⟨vals, []⟩ = pure ([x, y, z].zip vals) := by
  intro vals e0
  obtain ⟨v, r0, rfl, e1⟩ := len_one e0
  obtain ⟨u, r1, rfl, e2⟩ := len_one e1
  obtain ⟨t, r2, rfl, e3⟩ := len_one e2
  cases List.eq_nil_of_length_eq_zero e3
  exact h v u t
theorem zip5 {x y z a b : Str} {fd : FuncData} (h : ∀ v u t p q, bindArgs fd ⟨[v, u, t, p, q], []⟩ = pure [(x, v), (y, u), (z, t), (a, p), (b, q)]) : ∀ vals : List Value, vals.length = [x, y, z, a, b].length → bindArgs fd ⟨vals, []⟩ = pure ([x, y, z, a, b].zip vals) := by
  intro vals e0
  obtain ⟨v, r0, rfl, e1⟩ := len_one e0
  obtain ⟨u, r1, rfl, e2⟩ := len_one e1
  obtain ⟨t, r2, rfl, e3⟩ := len_one e2
  obtain ⟨p, r3, rfl, e4⟩ := len_one e3
  obtain ⟨q, r4, rfl, e5⟩ := len_one e4
  cases List.eq_nil_of_length_eq_zero e5
  exact h v u t p q
/-- the def of a number -/
noncomputable def DefAt (W : Wd) (f : Str) (params : List Str) (k : Addr) : Prop := ∃ a o fd, Def W f (nm W.P k) (bd W.P k) params a o fd
end
end Mine
set_option maxRecDepth 100000
set_option linter.unusedVariables false
namespace Mine
open PySem PySem.W PyProof.Rows PySem.Calls
section
variable {W : Wd} {c3 P3 c4 P4 : Addr}
theorem def_div2 (B : Base W c3 P3 c4 P4) : DefAt W "_div2n1n" ["a", "b", "n"] 21 :=
  let ⟨a, o, pm, code, doc, h⟩ := Def.mk' B 0 (k := 21) (by kernel_rfl) (by kernel_rfl) (fun pm code doc => zip3 fun v u t => by rfl) (by kernel_rfl) (by kernel_rfl) (by kernel_rfl) (by kernel_rfl) (by kernel_rfl) (by kernel_rfl)
  ⟨a, o, _, h⟩
theorem def_i2d (B : Base W c3 P3 c4 P4) : ∃ a o pm code doc, Def W "_int2digits" (nm W.P 35) (bd W.P 35) ["a", "n"] a o (docDef (dnm 35) (prm 35) (bd W.P 35) (scp 35) pm code doc) :=
  Def.mk' B 2 (k := 35) (by kernel_rfl) (by kernel_rfl) (fun pm code doc => zip2 fun v u => by rfl) (by kernel_rfl) (by kernel_rfl) (by kernel_rfl) (by kernel_rfl) (by kernel_rfl) (by kernel_rfl)
theorem def_d2i (B : Base W c3 P3 c4 P4) : ∃ a o pm code doc, Def W "_digits2int" (nm W.P 42) (bd W.P 42) ["digits", "n"] a o (docDef (dnm 42) (prm 42) (bd W.P 42) (scp 42) pm code doc) :=
  Def.mk' B 3 (k := 42) (by kernel_rfl) (by kernel_rfl) (fun pm code doc => zip2 fun v u => by rfl) (by kernel_rfl) (by kernel_rfl) (by kernel_rfl) (by kernel_rfl) (by kernel_rfl) (by kernel_rfl)
theorem def_divpos (B : Base W c3 P3 c4 P4) : DefAt W "_divmod_pos" ["a", "b"] 49 :=
  let ⟨a, o, pm, code, doc, h⟩ := Def.mk' B 4 (k := 49) (by kernel_rfl) (by kernel_rfl) (fun pm code doc => zip2 fun v u => by rfl) (by kernel_rfl) (by kernel_rfl) (by kernel_rfl) (by kernel_rfl) (by kernel_rfl) (by kernel_rfl)
  ⟨a, o, _, h⟩
theorem def_divmod (B : Base W c3 P3 c4 P4) : DefAt W "int_divmod" ["a", "b"] 56 :=
  let ⟨a, o, pm, code, doc, h⟩ := Def.mk' B 5 (k := 56) (by kernel_rfl) (by kernel_rfl) (fun pm code doc => zip2 fun v u => by rfl) (by kernel_rfl) (by kernel_rfl) (by kernel_rfl) (by kernel_rfl) (by kernel_rfl) (by kernel_rfl)
  ⟨a, o, _, h⟩
theorem def_ell (B : Base W c3 P3 c4 P4) : DefAt W "_ellipsis_match" ["want", "got"] 63 :=
  let ⟨a, o, pm, code, doc, h⟩ := Def.mk' B 6 (k := 63) (by kernel_rfl) (by kernel_rfl) (fun pm code doc => zip2 fun v u => by rfl) (by kernel_rfl) (by kernel_rfl) (by kernel_rfl) (by kernel_rfl) (by kernel_rfl) (by kernel_rfl)
  ⟨a, o, _, h⟩
theorem def_std (B : Base W c3 P3 c4 P4) : DefAt W "func_std_string" ["func_name"] 70 :=
  let ⟨a, o, pm, code, doc, h⟩ := Def.mk' B 7 (k := 70) (by kernel_rfl) (by kernel_rfl) (fun pm code doc => zip1 fun v => by rfl) (by kernel_rfl) (by kernel_rfl) (by kernel_rfl) (by kernel_rfl) (by kernel_rfl) (by kernel_rfl)
  ⟨a, o, _, h⟩
theorem def_stats (B : Base W c3 P3 c4 P4) : DefAt W "add_func_stats" ["target", "source"] 77 :=
  let ⟨a, o, pm, code, doc, h⟩ := Def.mk' B 8 (k := 77) (by kernel_rfl) (by kernel_rfl) (fun pm code doc => zip2 fun v u => by rfl) (by kernel_rfl) (by kernel_rfl) (by kernel_rfl) (by kernel_rfl) (by kernel_rfl) (by kernel_rfl)
  ⟨a, o, _, h⟩
theorem def_callers (B : Base W c3 P3 c4 P4) : DefAt W "add_callers" ["target", "source"] 84 :=
  let ⟨a, o, pm, code, doc, h⟩ := Def.mk' B 9 (k := 84) (by kernel_rfl) (by kernel_rfl) (fun pm code doc => zip2 fun v u => by rfl) (by kernel_rfl) (by kernel_rfl) (by kernel_rfl) (by kernel_rfl) (by kernel_rfl) (by kernel_rfl)
  ⟨a, o, _, h⟩
theorem def_count (B : Base W c3 P3 c4 P4) : DefAt W "count_calls" ["callers"] 91 :=
  let ⟨a, o, pm, code, doc, h⟩ := Def.mk' B 10 (k := 91) (by kernel_rfl) (by kernel_rfl) (fun pm code doc => zip1 fun v => by rfl) (by kernel_rfl) (by kernel_rfl) (by kernel_rfl) (by kernel_rfl) (by kernel_rfl) (by kernel_rfl)
  ⟨a, o, _, h⟩
theorem def_book (B : Base W c3 P3 c4 P4) : DefAt W "_law_book" ["calls", "texts"] 96 :=
  let ⟨a, o, pm, code, doc, h⟩ := Def.mk' B 11 (k := 96) (by kernel_rfl) (by kernel_rfl) (fun pm code doc => zip2 fun v u => by rfl) (by kernel_rfl) (by kernel_rfl) (by kernel_rfl) (by kernel_rfl) (by kernel_rfl) (by kernel_rfl)
  ⟨a, o, _, h⟩
theorem def_figures (B : Base W c3 P3 c4 P4) : DefAt W "_law_figures" ["rows"] 103 :=
  let ⟨a, o, pm, code, doc, h⟩ := Def.mk' B 12 (k := 103) (by kernel_rfl) (by kernel_rfl) (fun pm code doc => zip1 fun v => by rfl) (by kernel_rfl) (by kernel_rfl) (by kernel_rfl) (by kernel_rfl) (by kernel_rfl) (by kernel_rfl)
  ⟨a, o, _, h⟩
theorem def_forests (B : Base W c3 P3 c4 P4) : DefAt W "_law_forests" ["calls", "left"] 108 :=
  let ⟨a, o, pm, code, doc, h⟩ := Def.mk' B 13 (k := 108) (by kernel_rfl) (by kernel_rfl) (fun pm code doc => zip2 fun v u => by rfl) (by kernel_rfl) (by kernel_rfl) (by kernel_rfl) (by kernel_rfl) (by kernel_rfl) (by kernel_rfl)
  ⟨a, o, _, h⟩
theorem def_counted (B : Base W c3 P3 c4 P4) : DefAt W "_law_counted" ["book", "names", "calls", "want", "due"] 113 :=
  let ⟨a, o, pm, code, doc, h⟩ := Def.mk' B 14 (k := 113) (by kernel_rfl) (by kernel_rfl) (fun pm code doc => zip5 fun v u t p q => by rfl) (by kernel_rfl) (by kernel_rfl) (by kernel_rfl) (by kernel_rfl) (by kernel_rfl) (by kernel_rfl)
  ⟨a, o, _, h⟩
theorem def_law (B : Base W c3 P3 c4 P4) : DefAt W "law" ["script"] 118 :=
  let ⟨a, o, pm, code, doc, h⟩ := Def.mk' B 15 (k := 118) (by kernel_rfl) (by kernel_rfl) (fun pm code doc => zip1 fun v => by rfl) (by kernel_rfl) (by kernel_rfl) (by kernel_rfl) (by kernel_rfl) (by kernel_rfl) (by kernel_rfl)
  ⟨a, o, _, h⟩
end
end Mine
set_option maxRecDepth 100000
set_option linter.unusedVariables false
namespace Mine
open PySem PySem.W PyProof.Rows PySem.Calls
section
variable {prog : Program} {w : World} {A : Around} {s : Shared} {Q : Value → Shared → Prop}
theorem pct_one {t u : Tok} (h : ∀ t' k, Q (.str "{f}" t') { s with toks := k }) : wpAny (model prog w) A (binaryOp .Mod (.str "{%s}" t) (.str "f" u)) Q NoE s := by
  refine' KPc.mod_str ?F ?l ?m ?_
  case F => kpc_eq
  case l => decide +kernel
  case m => kpc_run_s
  intro t' k
  have e := h t' k
  exact e
theorem pct_tup {X X' T : PySem.Str} {t : Tok} {b : Addr} {its : Array Value} (ht : IsTup s.heap b its) (hX : X = X')
    (hm : Meets (Builtin.«str.__mod__» ⟨[.str X' t, .ref b], []⟩) (fun _ R s => IsTup s.heap b its ∧ ∀ t' k, R (.ok (.ret (.str T t'))) { s with toks := k }))
    (h : ∀ t' k, Q (.str T t') { s with toks := k }) : wpAny (model prog w) A (binaryOp .Mod (.str X t) (.ref b)) Q NoE s := by
  subst hX
  have hT : s.TypeIs (.ref b) "tuple" := by
    obtain ⟨o, ho, hc, _⟩ := ht
    exact ⟨o, ho, hc⟩
  exact KPt.bin_left (T := "str") (U := "tuple") (op := .Mod) (by decide) (typeIs_str s X t) hT F.fills_str_mod KPt.fills_tuple F.slot_str_mod
    (call_meets F.slot_str_mod (typeIs_str s X t) F.entry_str_mod (F.args_str_mod_2 _ _) hm ⟨ht, fun t' k => ⟨(fun e => nomatch e), h t' k⟩⟩)
set_option maxHeartbeats 4000000 in
theorem pct_gen {x y T : PySem.Str} {n : Int} {t t1 t2 t3 : Tok} {b : Addr} (hx : x.length ≤ 1000000) (hy : y.length ≤ 1000000) (h0 : 0 ≤ n) (h1 : n < 10 ^ 10) (hT : x ++ ":" ++ PySem.Str.ofString (toString n) ++ "(" ++ y ++ ")" = T)
    (ht : IsTup s.heap b #[.str x t1, .int n t2, .str y t3]) (h : ∀ t' k, Q (.str T t') { s with toks := k }) :
    wpAny (model prog w) A (binaryOp .Mod (.str "%s:%d(%s)" t) (.ref b)) Q NoE s := by
  subst hT
  refine' pct_tup ht ?F ?m ?_
  case F => kpt_eq
  case m => kpt_run
  intro t' k
  have e := h t' k
  exact e
theorem pct_a {t t1 t2 t3 : Tok} {b : Addr} (ht : IsTup s.heap b #[.str "a" t1, .int 1 t2, .str "f" t3]) (h : ∀ t' k, Q (.str "a:1(f)" t') { s with toks := k }) :
    wpAny (model prog w) A (binaryOp .Mod (.str "%s:%d(%s)" t) (.ref b)) Q NoE s :=
  pct_gen (by decide +kernel) (by decide +kernel) (by decide) (by decide) (by decide +kernel) ht h
theorem pct_b {t t1 t2 t3 : Tok} {b : Addr} (ht : IsTup s.heap b #[.str "a" t1, .int 12 t2, .str "g" t3]) (h : ∀ t' k, Q (.str "a:12(g)" t') { s with toks := k }) :
    wpAny (model prog w) A (binaryOp .Mod (.str "%s:%d(%s)" t) (.ref b)) Q NoE s :=
  pct_gen (by decide +kernel) (by decide +kernel) (by decide) (by decide) (by decide +kernel) ht h
theorem pct_c {t t1 t2 t3 : Tok} {b : Addr} (ht : IsTup s.heap b #[.str "b" t1, .int 1 t2, .str "g" t3]) (h : ∀ t' k, Q (.str "b:1(g)" t') { s with toks := k }) :
    wpAny (model prog w) A (binaryOp .Mod (.str "%s:%d(%s)" t) (.ref b)) Q NoE s :=
  pct_gen (by decide +kernel) (by decide +kernel) (by decide) (by decide) (by decide +kernel) ht h
end
end Mine
set_option maxRecDepth 100000
set_option linter.unusedVariables false
namespace Mine
open PySem PySem.W PyProof.Rows PySem.Calls
section
variable {s : Shared} {mg mb : Str → Option Value} {mean : ExcName → Option Value} {c3 P3 c4 P4 : Addr}
theorem GG.maker (S : Start s mg mb mean c3 P3 c4 P4) {k c P : Addr} (m : Maker s.heap mg k c P) {h : Heap} (g : GG s P3 P4 h) : CodeHd h c P := by
  obtain ⟨o, vs, f, tf, fl, tg, b, n, tt, e1, e2, r⟩ := m.code
  exact ⟨o, vs, f, tf, fl, tg, b, n, tt, g.1 c o (S.noT e1 fun q => by rw [q] at e2; cases e2) e1, e2, r⟩
theorem GG.at_ (S : Start s mg mb mean c3 P3 c4 P4) {k c P : Addr} (m : Maker s.heap mg k c P) : ∃ a o fd, mg (dnm k) = some (.ref a) ∧ (∀ h, GG s P3 P4 h → h.get? a = some o) ∧ o.data = .func fd ∧ fd.code = .ref c := by
  obtain ⟨a, o, fd, h1, h2, h3, h4⟩ := m.at_
  exact ⟨a, o, fd, h1, fun h g => g.1 a o (S.noT h2 fun q => by rw [q] at h3; cases h3) h2, h3, h4⟩
theorem base_of (p : Program) (w : World) (S : Start s mg mb mean c3 P3 c4 P4) : Base (theWd p w S) c3 P3 c4 P4 where
  firm := theFirm p w S
  fn := fun d hd => by
    obtain ⟨a, o, pm, code, doc, h1, h2, h3, c, oc, vs, t, e1, e2, e3, e4⟩ := S.T.fn d hd
    refine ⟨a, o, pm, code, doc, h1, fun h g => g.1 a o (S.noT h2 fun q => by rw [q] at h3; cases h3) h2, h3, fun h g => ⟨c, oc, vs, t, e1, g.1 c oc (S.noT e2 fun q => ?_) e2, e3, e4⟩⟩
    rw [q] at e3; cases e3; cases e4
  const := S.T.const
  bi := fun x hx => by
    unfold biOk at hx
    simp only [Bool.and_eq_true, bne_iff_ne, Bool.not_eq_true', List.contains_eq_mem, decide_eq_false_iff_not] at hx
    obtain ⟨h1, h2, h3, h4, h5, h6⟩ := hx
    show (mg x).or (mb x) = _
    rw [S.T.free x h2 h3 h4 h5 h6, S.T.builtins x h1]; rfl
  m3 := fun h g => ⟨g.maker S S.m3, g.2.1⟩
  m4 := fun h g => ⟨g.maker S S.m4, g.2.2⟩
  t3 := List.mem_cons_self
  t4 := List.mem_cons_of_mem _ List.mem_cons_self
  code3 := GG.at_ S S.m3
  code4 := GG.at_ S S.m4
  grow := fun {h h' P pos q} g hP x hp => by
    obtain ⟨ps, cv, h1, h2, h3, hk, hc, h4⟩ := id x
    exact ⟨fun b o hb e => hk b o (fun e => hb (by rw [e]; exact hP)) (g.1 b o hb e), x.tab hp g.2.1, x.tab hp g.2.2⟩
  bmain := by
    obtain ⟨bm, ob, h1, h2, h3, h4, h5, h6⟩ := S.T.bmain
    exact ⟨bm, ob, h1, h2, fun h g => g.1 bm ob (S.noT h3 fun q => by rw [q] at h4; cases h4) h3, h4, h5, h6⟩
end
/-! ## a configuration -/
noncomputable section
noncomputable def pcTab (p : Str) (i : Int) (q : Str) : Option AV := if p == ("a" : Str) && (i == 1 && q == ("f" : Str)) then some (.str nA) else if p == ("a" : Str) && (i == 12 && q == ("g" : Str)) then some (.str nB) else if p == ("b" : Str) && (i == 1 && q == ("g" : Str)) then some (.str nC) else none
noncomputable def pcOne (x y : Str) : Option AV := if x == ("{%s}" : Str) && y == ("f" : Str) then some (.str nD) else none
noncomputable def pc3 (p q r : AV) : Option AV := (astr p).bind fun p => (aint q).bind fun i => (astr r).bind fun q => pcTab p i q
noncomputable def pcTup (x : Str) (b : AV) : Option AV := if x == ("%s:%d(%s)" : Str) then (atup b).bind fun l => (a3 l).bind fun t => pc3 t.1 t.2.1 t.2.2 else none
noncomputable def Pc0 (a b : AV) : Option AV := (astr a).bind fun x => match astr b with
  | some y => pcOne x y
  | none => pcTup x b
noncomputable def Γ0 (x : Str) : Option AV := if x == ("_DIV_LIMIT" : Str) then some (.int 4000) else if x == ("ELLIPSIS_MARKER" : Str) then some (.str "...") else none
noncomputable def cfg (Φ : Str → List AV → Option AV) : Cfg := ⟨Pc0, Φ, Γ0⟩
end
section
variable {W : Wd} {c3 P3 c4 P4 : Addr} {lv : Nat} {A : Around} {D : Fz} {s : Shared}
theorem pc_tab {p q : Str} {i : Int} {d : AV} (h : pcTab p i q = some d) {t t1 t2 t3 : Tok} {b : Addr} (ok : Ok W D s) (ht : IsTup s.heap b #[.str p t1, .int i t2, .str q t3]) : Ev W A D (binaryOp .Mod (.str "%s:%d(%s)" t) (.ref b)) d s := by
  by_cases hc : (p == ("a" : Str) && (i == 1 && q == ("f" : Str))) = true
  · cases (if_pos hc).symm.trans h
    simp only [Bool.and_eq_true, beq_iff_eq] at hc
    obtain ⟨rfl, rfl, rfl⟩ := hc
    exact pct_a ht fun t' k => ⟨D, ok.tok k, .str _ _⟩
  replace h := (if_neg hc).symm.trans h
  by_cases hc : (p == ("a" : Str) && (i == 12 && q == ("g" : Str))) = true
  · cases (if_pos hc).symm.trans h
    simp only [Bool.and_eq_true, beq_iff_eq] at hc
    obtain ⟨rfl, rfl, rfl⟩ := hc
    exact pct_b ht fun t' k => ⟨D, ok.tok k, .str _ _⟩
  obtain ⟨hc, h⟩ := ite_some ((if_neg hc).symm.trans h)
  cases h
  simp only [Bool.and_eq_true, beq_iff_eq] at hc
  obtain ⟨rfl, rfl, rfl⟩ := hc
  exact pct_c ht fun t' k => ⟨D, ok.tok k, .str _ _⟩
theorem pc_one {x y : Str} {d : AV} (h : pcOne x y = some d) {t u : Tok} (ok : Ok W D s) : Ev W A D (binaryOp .Mod (.str x t) (.str y u)) d s := by
  obtain ⟨hc, h⟩ := ite_some h
  cases h
  simp only [Bool.and_eq_true, beq_iff_eq] at hc
  obtain ⟨rfl, rfl⟩ := hc
  exact pct_one fun t' k => ⟨D, ok.tok k, .str _ _⟩
theorem pc_tup {x : Str} {b d : AV} {t : Tok} {vb : Value} (h : pcTup x b = some d) (ok : Ok W D s) (rb : Rep W.P D b vb) : Ev W A D (binaryOp .Mod (.str x t) vb) d s := by
  obtain ⟨hx, h⟩ := ite_some h
  obtain ⟨l, h1, h⟩ := bind_some h
  obtain ⟨⟨a1, a2, a3⟩, h2, h⟩ := bind_some h
  obtain ⟨p, h3, h⟩ := bind_some h
  obtain ⟨i, h4, h⟩ := bind_some h
  obtain ⟨q, h5, h6⟩ := bind_some h
  clear h
  cases eq_of_beq hx
  cases atup_ h1
  cases astr_ h3
  cases aint_ h4
  cases astr_ h5
  cases a3_ h2
  obtain ⟨x, vs, n, rfl, hx, r⟩ := rb.tuple'
  cases r with | cons r1 r => cases r with | cons r2 r => cases r with | cons r3 r =>
    cases r
    obtain ⟨t1, rfl⟩ := r1.str'
    obtain ⟨t2, rfl⟩ := r2.int'
    obtain ⟨t3, rfl⟩ := r3.str'
    exact pc_tab h6 ok ⟨_, ok.fz _ _ hx, rfl, n, rfl⟩
theorem pc_sound {a b d : AV} (h : Pc0 a b = some d) {va vb : Value} (ok : Ok W D s) (ra : Rep W.P D a va) (rb : Rep W.P D b vb) : Ev W A D (binaryOp .Mod va vb) d s := by
  obtain ⟨x, h1, h2⟩ := bind_some h
  clear h
  cases astr_ h1
  obtain ⟨t, rfl⟩ := ra.str'
  rename (_ = some d) => h
  cases q : astr b with
  | none =>
    rw [q] at h
    exact pc_tup h ok rb
  | some y =>
    rw [q] at h
    cases astr_ q
    obtain ⟨u, rfl⟩ := rb.str'
    exact pc_one h ok
theorem good_of (B : Base W c3 P3 c4 P4) (Φ : Str → List AV → Option AV) (hΦ : ∀ f args r, Φ f args = some r → Contract W lv f args r) : Good W (cfg Φ) lv where
  firm := B.firm
  fns := hΦ
  glo := fun x d h => by
    replace h : Γ0 x = some d := h
    unfold Γ0 at h
    split at h
    · rename_i hx
      rw [beq_iff_eq] at hx
      subst hx
      cases h
      obtain ⟨v, h1, h2⟩ := B.const "_DIV_LIMIT" (.int 4000) (by kernel_rfl)
      refine ⟨v, h1, fun D => ?_⟩
      cases h2 default with | int => exact .int _ _
    · split at h
      · rename_i hx
        rw [beq_iff_eq] at hx
        subst hx
        cases h
        obtain ⟨v, h1, h2⟩ := B.const "ELLIPSIS_MARKER" (.str "...") (by kernel_rfl)
        refine ⟨v, h1, fun D => ?_⟩
        cases h2 default with | str => exact .str _ _
      · cases h
  pct := fun a b d h A D s va vb ok ra rb => pc_sound h ok ra rb
  bisi := (B.bi _ (by kernel_rfl)).trans (by kernel_rfl)
  btup := (B.bi _ (by kernel_rfl)).trans (by kernel_rfl)
  blen := (B.bi _ (by kernel_rfl)).trans (by kernel_rfl)
  bsum := (B.bi _ (by kernel_rfl)).trans (by kernel_rfl)
  bdivmod := (B.bi _ (by kernel_rfl)).trans (by kernel_rfl)
  brange := (B.bi _ (by kernel_rfl)).trans (by kernel_rfl)
  benum := (B.bi _ (by kernel_rfl)).trans (by kernel_rfl)
  brev := (B.bi _ (by kernel_rfl)).trans (by kernel_rfl)
end
end Mine
set_option maxRecDepth 100000
set_option linter.unusedVariables false
namespace Mine
open PySem PySem.W PyProof.Rows PySem.Calls
section
variable {W : Wd} {C : Cfg} {lv n : Nat} {A : Around} {env : Env} {wr : List Str} {D₀ D D' : Fz} {s₀ s s' : Shared} {σ σ' : Sg} {oa : Str → Addr} {sc : NS} {N N' : Sg → Prop} {Rt Rt' : AV → Prop}
theorem SEv.binOf {l r : Expr} {op : Operator} {p : Pos} {a b d : AV} (h1 : SEv W lv sc σ l a) (h2 : SEv W lv sc σ r b) (h : ∀ {A : Around} {D : Fz} {s : Shared} {va vb : Value}, Ok W D s → Rep W.P D a va → Rep W.P D b vb → Ev W A D (binaryOp op va vb) d s) :
    SEv W lv sc σ (.BinOp l op r p) d := .mk fun R hsc S => by
  refine wpAny_BinOp (wpAny_mono (h1.run R hsc S) (fun va s₁ h₁ => ?_) fun _ _ x => x)
  obtain ⟨D₁, x₁, ra⟩ := h₁
  refine wpAny_mono (h2.run R hsc (S.step x₁)) (fun vb s₂ h₂ => ?_) fun _ _ x => x
  obtain ⟨D₂, x₂, rb⟩ := h₂
  refine wpAny_mono (h (.ext x₂) (ra.mono x₂.le) rb) (fun v s₃ h₃ => ?_) fun _ _ x => x
  obtain ⟨D₃, x₃, rv⟩ := h₃
  exact ⟨D₃, (x₁.trans S.glob x₂).trans S.glob x₃, rv⟩
theorem SEv.rsh {l r : Expr} {p : Pos} {a k : Int} (h1 : SEv W lv sc σ l (.int a)) (h2 : SEv W lv sc σ r (.int k)) (hk : 0 ≤ k) : SEv W lv sc σ (.BinOp l .RShift r p) (.int (a.fdiv (2 ^ k.toNat))) :=
  .binOf h1 h2 fun {A D s va vb} ok ra rb => by
    obtain ⟨t, rfl⟩ := ra.int'; obtain ⟨u, rfl⟩ := rb.int'
    exact rshift_int hk ⟨D, ok.tok _, .int _ _⟩
theorem SEv.xor {l r : Expr} {p : Pos} {a k : Int} (h1 : SEv W lv sc σ l (.int a)) (h2 : SEv W lv sc σ r (.int k)) : SEv W lv sc σ (.BinOp l .BitXor r p) (.int (Builtin.bitXor a k)) :=
  .binOf h1 h2 fun {A D s va vb} ok ra rb => by
    obtain ⟨t, rfl⟩ := ra.int'; obtain ⟨u, rfl⟩ := rb.int'
    exact xor_int ⟨D, ok.tok _, .int _ _⟩
theorem SEv.shl {l r : Expr} {p : Pos} {a k : Int} (h1 : SEv W lv sc σ l (.int a)) (h2 : SEv W lv sc σ r (.int k)) (hk : 0 ≤ k) (hs : (Builtin.Int.intBits a : Int) + k ≤ 2 ^ 27) : SEv W lv sc σ (.BinOp l .LShift r p) (.int (a * 2 ^ k.toNat)) :=
  .binOf h1 h2 fun {A D s va vb} ok ra rb => by
    obtain ⟨t, rfl⟩ := ra.int'; obtain ⟨u, rfl⟩ := rb.int'
    exact lshift_int hk hs ⟨D, ok.tok _, .int _ _⟩
theorem lookup_rev {l : List (Str × Value)} (hn : (l.map (·.1)).Nodup) {x : Str} {v : Value} (h : l.lookup x = some v) : l.reverse.lookup x = some v := by
  refine lookup_of_mem ?_ (List.mem_reverse.mpr (mem_of_lookup h))
  rw [List.map_reverse]
  exact List.pairwise_reverse.mpr (hn.imp Ne.symm)
/-- a base that knows nothing of some objects -/
structure Wiped (ms : List Addr) (s sb : Shared) : Prop where
  gens : sb.gens = s.gens
  drawn : sb.drawn = s.drawn
  os : sb.os = s.os
  get : ∀ b, sb.heap.get? b = if b ∈ ms then none else s.heap.get? b
theorem Wiped.ep {ms : List Addr} {sb : Shared} (w : Wiped ms s sb) (x : Ext W D D' sb s') (hD : ∀ b ∈ ms, D' b = none) : EP W ms D D' s s' where
  gens := x.gens.trans w.gens
  drawn := x.drawn.trans w.drawn
  os := x.os.trans w.os
  keep := fun b o hb hm e => x.keep b o hb (by rw [w.get, if_neg hm]; exact e)
  le := x.le
  fz := x.fz
  new := fun b o e => by
    rcases x.new b o e with h | h
    · exact .inl h
    · by_cases hm : b ∈ ms
      · rw [hD b hm] at e; cases e
      · rw [w.get, if_neg hm] at h; exact .inr h
  glob := x.glob
theorem inner_enter (Fm : W.Firm) {f : Addr} {o : Obj} {fd : FuncData} {names : NS} {body : List Stmt} {params : List Str} (hroom : A.depth < recursionLimit) (ok : Ok W D s) (nt : NT W D) (ho : s.heap.get? f = some o) (hd : o.data = .func fd) (hcd : s.heap.CodeRec fd.code fd.qualname)
    (hbody : fd.body = .stmts body) (hbind : ∀ vals : List Value, vals.length = params.length → bindArgs fd ⟨vals, []⟩ = pure (params.zip vals)) (hcell : ∀ x ∈ fd.scope.names, x.2 ≠ .cell) (hpn : params.Nodup) (hloc : ∀ x ∈ params, fd.scope.names.lookup x = some .local)
    (hnd : (fd.scope.names.map (·.1)).Nodup) (hg : fd.globals = mainGlobals) (hbi : fd.builtins = builtinsNs) (hco : fd.scope.isCoroutine = false) (hgen : fd.scope.isGenerator = false) (hk : fd.scope.kind = .function) (hnm : fd.scope.names = names)
    {args : List AV} {vs : List Value} (r : RepL W.P D args vs) (hl : args.length = params.length) {hb : Heap} (bG : W.G hb) (bk : ∀ b o, b ∉ W.T → hb.get? b = some o → s.heap.get? b = some o) (ms : List Addr)
    (hms : ∀ b ∈ ms, hb.get? b = none ∧ D b = none ∧ ∀ o, s.heap.get? b = some o → NC o) {Q : Value → Shared → Prop}
    (h : ∀ (sb s₁ : Shared), Wiped ms s sb → St W (callEnv fd s.heap.objs.size f) (Def.wr names) D sb (args0 params args) D s₁ (fun _ => 0) → (∀ b o, s.heap.get? b = some o → s₁.heap.get? b = some o) →
      wpAny W.M (A.deeper (callEnv fd s.heap.objs.size f)) (execs body (callEnv fd s.heap.objs.size f)) (fun fl s' => Q (match fl with | .ret v => v | _ => .none) s') NoE s₁) : wpAny W.M A (call (.ref f) vs) Q NoE s := by
  have hvl : vs.length = params.length := by rw [← r.length, hl]
  have hkeys : (params.zip vs).map (·.1) = params := zip_keys hvl
  refine wpAny_call (codeAny_call_def hroom ho hd (W.nol _ ok.glob) hcd hbody (.of_eq (hbind vs hvl)) hcell (fun x hx => hloc _ ?_) (fun h₀ hns hkeep => ?_) hco hgen hk)
  · have : x.1 ∈ (params.zip vs).map (·.1) := List.mem_map.mpr ⟨x, hx, rfl⟩
    rw [hkeys] at this
    exact this
  let sb : Shared := { s with heap := wipe s.heap ms }
  have gb : ∀ b, sb.heap.get? b = if b ∈ ms then none else s.heap.get? b := fun b => wipe_get ms s.heap b
  have hGb : W.G sb.heap := Fm.pokes (ms := ms) bG ok.glob bk (fun b hb => (hms b hb).1) (fun b hb o e => (hms b hb).2.2 o e) fun b o hb e => by rw [gb, if_neg hb]; exact e
  have big : ∀ b, s.heap.objs.size ≤ b → s.heap.get? b = none := fun b hb => by
    cases q : s.heap.get? b with
    | none => rfl
    | some o => exact absurd (Heap.lt_size q) (Nat.not_lt.mpr hb)
  have up : ∀ b o, sb.heap.get? b = some o → s.heap.get? b = some o := fun b o e => by
    rw [gb] at e
    split at e
    · cases e
    · exact e
  have hx : Ext W D D sb { s with heap := h₀, toks := s.toks + (params.zip vs).length } := ⟨rfl, rfl, rfl, fun b o _ e => hkeep b o (up b o e), fun _ _ e => e, fun b o e => hkeep b o (ok.fz b o e), fun _ _ e => .inl e, W.keepG _ _ ok.glob hkeep⟩
  have hkof : ∀ y, (callEnv fd s.heap.objs.size f).kindOf y = names.lookup y := fun y => by rw [← hnm]; rfl
  have S : St W (callEnv fd s.heap.objs.size f) (Def.wr names) D sb (args0 params args) D { s with heap := h₀, toks := s.toks + (params.zip vs).length } (fun _ => 0) := by
    refine ⟨hx, hGb, nt, hk, hg, hbi, ⟨_, hns⟩, ok.none_size, ?_, ?_, ?_, ?_, ?_⟩
    · rw [gb]
      split
      · rfl
      · exact get_size _
    · intro y hy
      obtain ⟨⟨y', k⟩, hm, rfl⟩ := List.mem_map.mp hy
      obtain ⟨hm, hk'⟩ := List.mem_filter.mp hm
      simp only [Bool.or_eq_true, beq_iff_eq] at hk'
      rcases hk' with rfl | rfl
      · exact .inl (by rw [hkof]; exact lookup_of_mem (by rw [← hnm]; exact hnd) hm)
      · exact absurd rfl (hcell _ (by rw [hnm]; exact hm))
    · intro y d hy
      obtain ⟨v, d', e1, hmem, e2, rv⟩ := zip_lookup r hl.symm hy
      cases e1
      exact ⟨v, .inl ⟨by rw [hkof, ← hnm]; exact hloc y hmem, _, hns, lookup_rev (by rw [hkeys]; exact hpn) e2⟩, rv⟩
    · intro y d hy
      obtain ⟨v, d', e1, _⟩ := zip_lookup r hl.symm hy
      cases e1
    · intro y z d d' hy
      obtain ⟨v, d', e1, _⟩ := zip_lookup r hl.symm hy
      cases e1
  exact wpAny_mono (h sb _ ⟨rfl, rfl, rfl, gb⟩ S hkeep) (fun fl s' h' => h') fun _ _ x => x.elim
/-- an own object is named anew -/
theorem St.addOwn (S : St W env wr D₀ s₀ σ D s oa) {x : Str} {l : Addr} {o : Obj} {d : AV} (hn : ∀ y d, σ.lookup y ≠ some (true, d)) (hv : VarAt env s.heap x (.ref l)) (ho : s.heap.get? l = some o) (hr : OwnRep W.P D d o) (hD : D l = none) (h0 : s₀.heap.get? l = none) (hl : l ≠ env.locals) :
    St W env wr D₀ s₀ (put σ x (true, d)) D s (fun y => if y = x then l else oa y) :=
  { S with
    fro := fun y e hy => by
      rw [put_lookup] at hy
      split at hy
      · cases hy
      · exact S.fro y e hy
    own := fun y e hy => by
      rw [put_lookup] at hy
      split at hy
      · rename_i hyx
        subst hyx
        cases hy
        rw [if_pos rfl]
        exact ⟨hv, ⟨o, ho, hr⟩, hD, h0, hl⟩
      · exact absurd hy (hn y e)
    inj := fun y z e e' hy hz hne => by
      rw [put_lookup] at hy hz
      split at hy
      · split at hz
        · rename_i h1 h2; exact absurd (h1.trans h2.symm) hne
        · exact absurd hz (hn z e')
      · exact absurd hy (hn y e) }
/-- a frozen name is added -/
theorem St.addFro (S : St W env wr D₀ s₀ σ D s oa) {x : Str} {v : Value} {d : AV} (hv : VarAt env s.heap x v) (hr : Rep W.P D d v) : St W env wr D₀ s₀ (put σ x (false, d)) D s oa :=
  { S with
    fro := fun y e hy => by
      rw [put_lookup] at hy
      split at hy
      · rename_i hyx
        subst hyx
        cases hy
        exact ⟨v, hv, hr⟩
      · exact S.fro y e hy
    own := fun y e hy => by
      rw [put_lookup] at hy
      split at hy
      · cases hy
      · exact S.own y e hy
    inj := fun y z e e' hy hz hne => by
      rw [put_lookup] at hy hz
      split at hy
      · cases hy
      · split at hz
        · cases hz
        · exact S.inj y z e e' hy hz hne }
end
end Mine
set_option maxRecDepth 100000
set_option linter.unusedVariables false
namespace Mine
open PySem PySem.W PyProof.Rows PySem.Calls
section
variable {W : Wd} {lv n : Nat} {A : Around} {env : Env} {wr : List Str} {D₀ D D' : Fz} {s₀ s s' : Shared} {σ σ' : Sg} {oa : Str → Addr} {c3 P3 c4 P4 : Addr}
/-- a def in a def's body, as it lies in the heap -/
noncomputable def Inner (h : Heap) (f : Addr) (name q : Str) (params : Arguments) (body : List Stmt) (scope : Scope) (clos : List (Str × Addr)) : Prop :=
  ∃ o doc pm cv ctv, h.get? f = some o ∧ o.data = .func (fnX name q params body scope clos .none .none doc pm none cv ctv) ∧ CodeAt h cv q
theorem inner_made (B : Base W c3 P3 c4 P4) {c P : Addr} {pos : Pos} {q : Str} (hPT : P ∈ W.T) (hpq : (pos = pos3 ∧ q = q3) ∨ (pos = pos4 ∧ q = q4)) (hC : ∀ h, W.G h → CodeHd h c P ∧ ∃ ps, h.get? P = some (tabObj ps) ∧ TriplesOk ps.toList ∧ ∀ cv, codeAmong pos ps.toList = some cv → CodeAt h cv q)
    (ok : Ok W D s) (nt : NT W D) (hge : env.globals = mainGlobals) (hcode : env.code = .ref c) {name : Str} {params : Arguments} {body : List Stmt} {scope : Scope} {q0 : Str × Addr} {r0 : List (Str × Addr)} {fl : Nat} (hcl : closureFor scope env = pure (q0 :: r0)) {Q : Value → Shared → Prop}
    (h : ∀ s' f, Ext W D D s s' → s.heap.get? f = none → Inner s'.heap f name q params body scope (q0 :: r0) → Q (.ref f) s') :
    wpAny W.M A (makeFunction name q params (.stmts body) scope env [] [] [] pos fl) Q NoE s := by
  obtain ⟨C, ps, hP, ht, hc⟩ := hC _ ok.glob
  obtain ⟨bm, ob, hbm, hne0, hbo, hcls, hdict, hdata⟩ := B.bmain
  have hg := W.gns _ ok.glob
  have hgP : mainGlobals ≠ P := fun e => by
    obtain ⟨o, es, ep, e1, hd, _⟩ := hg
    rw [e, hP] at e1; cases e1; cases hd
  have hbo' := hbo _ ok.glob
  have hbP : bm ≠ P := fun e => by rw [e, hP] at hbo'; cases hbo'; cases hcls
  have hbG : bm ≠ mainGlobals := fun e => by
    obtain ⟨o, es, ep, e1, hd, _⟩ := hg
    rw [e, e1] at hbo'; cases hbo'; rw [hd] at hdata; cases hdata
  have big : ∀ {b : Addr}, s.heap.objs.size ≤ b → s.heap.get? b = none := fun {b} hb => by
    cases q : s.heap.get? b with
    | none => rfl
    | some o => exact absurd (Heap.lt_size q) (Nat.not_lt.mpr hb)
  cases hf : codeAmong pos ps.toList with
  | some cv =>
    refine makeFunction_hit hcl hge hg hcode C hP ht hf ⟨bm, ob, hbm, hne0, hbG, hbP, hbo', hcls, hdict, hdata⟩ fun ctv doc h' tk hk hsz => ?_
    have hk' : ∀ b o, s.heap.get? b = some o → (h'.push { cls := .type "function", data := .func (fnX name q params body scope (q0 :: r0) .none .none doc ((W.mg "__name__").getD .none) none cv ctv) }).get? b = some o := fun b o e => Heap.get?_push_of_some _ (hk b o e)
    exact h _ _ (.of_keeps ok.glob ok.fz rfl rfl rfl hk') (big hsz) ⟨_, doc, _, cv, ctv, Heap.get?_push_size _ rfl, rfl, (hc cv hf).keeps fun c o vs _ _ _ e => hk' c o e⟩
  | none =>
    rw [makeFunction_eq]
    simp only [List.zip_nil_right, List.filterMap_nil, List.isEmpty_nil, if_true, pure_bind]
    unfold makeTail
    rw [hcl, hge]
    refine wpAny_bind (wpAny_pure ?_)
    simp only [List.isEmpty_cons, Bool.false_eq_true, if_false]
    refine wpAny_bind (wpAny_newTextTuple ?_)
    refine wpAny_bind (wpAny_functionCodeX hcode ((C.keeps fun b o e => Heap.get?_push_of_some _ e).code (Heap.get?_push_of_some _ hP) ht) ((C.keeps fun b o e => Heap.get?_push_of_some _ e).tab (Heap.get?_push_of_some _ hP)) hf fun c' h' tk hx hge' hlt _ hrec htb hown => ?_)
    have hx' : Heap.ExtBut P s.heap h' := fun b o hb' e => hx b o hb' (Heap.get?_push_of_some _ e)
    have hsz : s.heap.objs.size ≤ h'.objs.size := Nat.le_trans (Nat.le_trans (by rw [Heap.size_push]; omega) hge') (Nat.le_of_lt hlt)
    have fin : ∀ (doc ctv : Value) (tk : Tok), Q (.ref h'.objs.size) { s with heap := h'.push { cls := .type "function", data := .func (fnX name q params body scope (q0 :: r0) .none .none doc ((W.mg "__name__").getD .none) none (.ref c') ctv) }, toks := tk } := fun doc ctv tk => by
      obtain ⟨P', _, _, ⟨⟨oc, vsc, e1, e2, e3, _⟩, _⟩⟩ := hown
      obtain ⟨c2, oc2, vs2, t2, f1, f2, f3, f4⟩ := hrec
      cases f1
      rw [e1] at f2; cases f2
      rw [e3] at f3; cases f3
      have hca : CodeAt h' (.ref c') q := ⟨c', oc, vsc, t2, rfl, e1, e2, e3, f4⟩
      have hgr : Grown s.heap h' P pos q := ⟨ps, .ref c', hP, ht, hf, fun b o hb e => hx' b o hb e, hca, htb.2⟩
      have hG' : W.G h' := B.grow ok.glob hPT hgr hpq
      have x1 : Ext W D D s { s with heap := h', toks := tk } := ⟨rfl, rfl, rfl, fun b o hb e => hx' b o (fun e' => hb (by rw [e']; exact hPT)) e, fun _ _ e => e, fun b o e => by
        have e' := ok.fz b o e
        by_cases hb : b = P
        · subst hb
          rw [nt _ hPT] at e; cases e
        · exact hx' b o hb e', fun _ _ e => .inl e, hG'⟩
      exact h _ _ (x1.trans ok.glob ((Ok.ext x1).push _ tk)) (big hsz) ⟨_, doc, _, .ref c', ctv, Heap.get?_push_size _ rfl, rfl, hca.keeps fun c o vs _ _ _ e => Heap.get?_push_of_some _ e⟩
    refine wpAny_bind (wpAny_builtinsFor ((hg.push _).extBut hx hgP) hbm hne0 (hx' _ _ hbP hbo') hcls hdict hdata ?_)
    refine wpAny_bind (wpAny_nsGet ((hg.push _).extBut hx hgP) ?_)
    cases hdoc : docOf body with
    | none => exact wpAny_bind (wpAny_pure (wpAny_newObj_type (fin _ _ _) (by size_fits)))
    | some t => exact wpAny_bind (wpAny_mkText (wpAny_newObj_type (fin _ _ _) (by size_fits)))
end
end Mine
set_option maxRecDepth 100000
set_option linter.unusedVariables false
namespace Mine
open PySem PySem.W PyProof.Rows PySem.Calls
section
variable {W : Wd} {lv n : Nat} {A : Around} {env : Env} {wr : List Str} {D₀ D D' : Fz} {s₀ s s' : Shared} {σ σ' : Sg} {oa : Str → Addr} {c3 P3 c4 P4 : Addr} {sc : NS}
theorem Inner.ext {f : Addr} {name q : Str} {params : Arguments} {body : List Stmt} {scope : Scope} {clos : List (Str × Addr)} (hG : W.G s.heap) (x : Inner s.heap f name q params body scope clos) (e : ∀ b o, b ∉ W.T → s.heap.get? b = some o → s'.heap.get? b = some o) :
    Inner s'.heap f name q params body scope clos := by
  obtain ⟨o, doc, pm, cv, ctv, h1, h2, h3⟩ := x
  exact ⟨o, doc, pm, cv, ctv, e f o (W.notT' hG h1 (by rw [h2]; nofun)) h1, h2, h3.keeps fun c oc vs _ e3 e4 e' => e c oc (W.notT hG e' (by rw [e3]; nofun)) e'⟩
/-- a store of a thing that no data stands for, into a cell -/
theorem St.storeRaw (F : W.Firm) (S : St W env wr D₀ s₀ σ D s oa) {x : Str} {v : Value} (hx : x ∈ wr) (hk : env.kindOf x = some .cell) (hσ : σ.lookup x = none) {Q : Unit → Shared → Prop} {E : Value → Shared → Prop}
    (hQ : ∀ s' c, St W env wr D₀ s₀ σ D s' oa → env.cells.lookup x = some c → s'.heap.IsCell c (some v) → (∀ b o, (∀ v, o.data ≠ .cell v) → s.heap.get? b = some o → s'.heap.get? b = some o) → Q () s') : wpAny W.M A (storeName env x v) Q E s := by
  obtain ⟨m, hm⟩ := S.ns
  rcases S.wrt x hx with hl | ⟨hl, c, v₀, hc, hcv, hDc, h0c, hcs⟩
  · rw [hk] at hl; cases hl
  refine wpAny_storeName_cell S.kind hl hc hcv fun h' hc' hs' => ?_
  have hG' : W.G h' := F.poke S.glob0 S.glob S.ext.keep h0c (NC.cell hcv) hs'
  have nc : ∀ b o, (∀ v, o.data ≠ .cell v) → s.heap.get? b = some o → b ≠ c := fun b o hd e => by
    rintro rfl
    obtain ⟨oc, hoc, hdc⟩ := hcv
    rw [e] at hoc; cases hoc
    exact hd _ hdc
  have hne : ∀ y u, σ.lookup y = some u → y ≠ x := fun y u e => by rintro rfl; rw [hσ] at e; cases e
  have va : ∀ y u v, σ.lookup y = some u → VarAt env s.heap y v → VarAt env h' y v := fun y u v e q => q.poke_cell hm hcv hs' fun c' e' => hcs y c' (hne y u e) e'
  refine hQ _ c ⟨ext_poke (tk := s.toks) S.ext S.glob0 hs' hDc h0c hG', S.glob0, S.nt0, S.kind, S.glo, S.bui, ⟨m, hm.sameBut hs' (Ne.symm (cell_ne_ns hm hcv))⟩, S.locD, S.loc0, ?_, ?_, ?_, S.inj⟩ hc hc' fun b o hd e => (hs'.2 b (nc b o hd e)).trans e
  · intro y hy
    rcases S.wrt y hy with q | ⟨q, c2, v2, q1, q2, q3, q4, q5⟩
    · exact .inl q
    · by_cases hyx : y = x
      · subst hyx
        rw [hc] at q1; cases q1
        exact .inr ⟨q, c, _, hc, hc', q3, q4, q5⟩
      · exact .inr ⟨q, c2, v2, q1, q2.sameBut hs' (hcs y c2 hyx q1), q3, q4, q5⟩
  · intro y d e
    obtain ⟨v', q1, q2⟩ := S.fro y d e
    exact ⟨v', va y _ v' e q1, q2⟩
  · intro y d e
    obtain ⟨q1, ⟨o, q2, q3⟩, q4, q5, q6⟩ := S.own y d e
    exact ⟨va y _ _ e q1, ⟨o, (hs'.2 _ (nc _ o q3.cls.2 q2)).trans q2, q3⟩, q4, q5, q6⟩
theorem def_stmt (B : Base W c3 P3 c4 P4) {c P : Addr} {pos : Pos} {q : Str} (hPT : P ∈ W.T) (hpq : (pos = pos3 ∧ q = q3) ∨ (pos = pos4 ∧ q = q4)) (hC : ∀ h, W.G h → CodeHd h c P ∧ ∃ ps, h.get? P = some (tabObj ps) ∧ TriplesOk ps.toList ∧ ∀ cv, codeAmong pos ps.toList = some cv → CodeAt h cv q)
    (S : St W env wr D₀ s₀ σ D s oa) (hcode : env.code = .ref c) {name : Str} {params : Arguments} {body : List Stmt} {scope : Scope} {q0 : Str × Addr} {r0 : List (Str × Addr)} (hcl : closureFor scope env = pure (q0 :: r0)) (hd0 : params.defaults = []) (hk0 : params.kw_defaults = []) (ha : annTrees params none env = [])
    (hq : qualnameIn env name name = q) (hx : name ∈ wr) (hk : env.kindOf name = some .cell) (hσ : σ.lookup name = none) {Q : Flow → Shared → Prop}
    (hQ : ∀ s' f ci, St W env wr D₀ s₀ σ D s' oa → Inner s'.heap f name q params body scope (q0 :: r0) → env.cells.lookup name = some ci → s'.heap.IsCell ci (some (.ref f)) → Q .next s') :
    wpAny W.M A (exec (.FunctionDef name params body [] none [] scope none name pos) env) Q NoE s := by
  refine nestDef_K hd0 hk0 ha ?_
  rw [hq]
  refine inner_made B hPT hpq hC S.ok S.nt S.glo hcode hcl fun s' f x hf hI => ?_
  refine (S.step x).storeRaw B.firm hx hk hσ fun s'' ci S'' h1 h2 h3 => hQ s'' f ci S'' ?_ h1 h2
  obtain ⟨o, doc, pm, cv, ctv, g1, g2, g3⟩ := hI
  exact ⟨o, doc, pm, cv, ctv, h3 f o (by rw [g2]; nofun) g1, g2, g3.keeps fun c oc vs _ e3 e4 e => h3 c oc (by rw [e4]; nofun) e⟩
/-- a call of a def that stands in a cell -/
theorem call_name (S : St W env wr D₀ s₀ σ D s oa) (R : Room A lv) (hsc : env.scope.names = sc) {x : Str} {p pos : Pos} {es : List Expr} {ds : List AV} {f : Addr} {o : Obj} {fd : FuncData} (hv : VarAt env s.heap x (.ref f)) (hok : okName x = true) (ho : s.heap.get? f = some o) (hd : o.data = .func fd)
    (ha : SArgs W lv sc σ es ds) {Q : Value → Shared → Prop} (h : ∀ s₁ D₁ vs, Ext W D D₁ s s₁ → RepL W.P D₁ ds vs → wpAny W.M A (call (.ref f) vs) Q NoE s₁) : wpAny W.M A (eval (.Call (.Name x p) es [] pos) env) Q NoE s := by
  refine wpAny_Call_NameR (wpAny_Name (wp_load S.kind hv (okName_spec hok).2 ?_) (okName_spec hok).1)
  refine Calls.callWith_function (o := o) (fd := fd) (evalArgs_w ha.plain (wpAny_mono (ha.run R hsc S) (fun vs s₁ h₁ => ?_) fun _ _ x => x))
  obtain ⟨D₁, x, r⟩ := h₁
  exact ⟨⟨x.keep f o (W.notT' S.glob ho (by rw [hd]; nofun)) ho, hd⟩, h s₁ D₁ vs x r⟩
end
end Mine
set_option maxRecDepth 100000
set_option linter.unusedVariables false
namespace Mine
open PySem PySem.W PyProof.Rows PySem.Calls
noncomputable section
noncomputable def inn (a : Addr) (i : Nat) : Stmt := match stOf a with
  | .FunctionDef _ _ b _ _ _ _ _ _ _ => (b[i]?).getD (.Pass ⟨0, 0, 0, 0⟩)
  | _ => .Pass ⟨0, 0, 0, 0⟩
noncomputable def ib : Stmt → List Stmt
  | .FunctionDef _ _ b _ _ _ _ _ _ _ => b
  | _ => []
noncomputable def isc : Stmt → Scope
  | .FunctionDef _ _ _ _ _ _ sc _ _ _ => sc
  | _ => { kind := .module, names := [], isGenerator := false, isCoroutine := false }
noncomputable def ipr : Stmt → Arguments
  | .FunctionDef _ p _ _ _ _ _ _ _ _ => p
  | _ => ⟨[], [], none, [], [], none, []⟩
noncomputable def i4 : Stmt := inn 42 0
noncomputable def i3 : Stmt := inn 35 1
end
theorem numOf_app (B : Int) (l1 l2 : List Int) : numOf B (l1 ++ l2) = numOf B l1 + B ^ l1.length * numOf B l2 := by
  induction l1 with
  | nil => simp [numOf]
  | cons a l ih => simp only [List.cons_append, numOf, ih, List.length_cons, Int.pow_succ]; grind
theorem numOf_nonneg {B : Int} (hB : 0 ≤ B) : ∀ {l : List Int}, (∀ d ∈ l, 0 ≤ d) → 0 ≤ numOf B l
  | [], _ => Int.le_refl _
  | a :: l, h => Int.add_nonneg (h a List.mem_cons_self) (Int.mul_nonneg hB (numOf_nonneg hB fun d hd => h d (List.mem_cons_of_mem _ hd)))
theorem numOf_lt {B : Int} (hB : 0 < B) : ∀ {l : List Int}, (∀ d ∈ l, 0 ≤ d ∧ d < B) → numOf B l < B ^ l.length
  | [], _ => by simp [numOf]
  | a :: l, h => by
    have h1 := (h a List.mem_cons_self).2
    have h2 := numOf_lt hB fun d hd => h d (List.mem_cons_of_mem _ hd)
    simp only [numOf, List.length_cons, Int.pow_succ]
    have h3 : numOf B l + 1 ≤ B ^ l.length := h2
    have h4 := Int.mul_le_mul_of_nonneg_left h3 (Int.le_of_lt hB)
    rw [Int.mul_comm (B ^ l.length)]
    have : B * (numOf B l + 1) = B * numOf B l + B := by rw [Int.mul_add, Int.mul_one]
    omega
/-- the size of a number below a power of two -/
theorem bits_le {a : Int} (h0 : 0 ≤ a) {j : Nat} (h : a < 2 ^ j) : Builtin.Int.intBits a ≤ j := by
  have e : a.natAbs < 2 ^ j := by
    have : (a.natAbs : Int) = a := Int.natAbs_of_nonneg h0
    have h' : ((a.natAbs : Nat) : Int) < ((2 ^ j : Nat) : Int) := by rw [this]; simpa using h
    exact Int.ofNat_lt.mp h'
  exact intBits_le e
noncomputable def s4 (L R : Int) (dv : AV) (k : Int) : Sg := [("L", (false, .int L)), ("R", (false, .int R)), ("digits", (false, dv)), ("n", (false, .int k))]
noncomputable def s4m (L R : Int) (dv : AV) (k mid : Int) : Sg := [("L", (false, .int L)), ("R", (false, .int R)), ("digits", (false, dv)), ("n", (false, .int k)), ("mid", (false, .int mid))]
noncomputable def s4s (L R : Int) (dv : AV) (k mid sh : Int) : Sg := [("L", (false, .int L)), ("R", (false, .int R)), ("digits", (false, dv)), ("n", (false, .int k)), ("mid", (false, .int mid)), ("shift", (false, .int sh))]
theorem Wiped.ext0 {W : Wd} {D D' : Fz} {s s' sb : Shared} (w : Wiped [] s sb) (x : Ext W D D' sb s') : Ext W D D' s s' where
  gens := x.gens.trans w.gens
  drawn := x.drawn.trans w.drawn
  os := x.os.trans w.os
  keep := fun b o hb e => x.keep b o hb (by rw [w.get]; exact e)
  le := x.le
  fz := x.fz
  new := fun b o e => (x.new b o e).imp_right fun h => by rw [w.get] at h; exact h
  glob := x.glob
section
variable {W : Wd} {C : Cfg} {c3 P3 c4 P4 : Addr}
theorem inner4_ok (B : Base W c3 P3 c4 P4) (Gd : Good W C 0) (k : Nat) (hk : 1 ≤ k ∧ k ≤ 64) (ds : List Int) (hds : ∀ d ∈ ds, 0 ≤ d ∧ d < 2 ^ k) (hlen : ds.length ≤ 900) : ∀ (m L : Nat), 1 ≤ m → L + m ≤ ds.length →
    ∀ {A : Around} {D : Fz} {s : Shared} {f : Addr} {clos : List (Str × Addr)} {cD cI cN : Addr} {v : Value} {t : Tok}, Room A (m + 1) → Ok W D s → NT W D → Inner s.heap f "inner" q4 (ipr i4) (ib i4) (isc i4) clos → clos.lookup ("digits" : Str) = some cD → clos.lookup ("inner" : Str) = some cI → clos.lookup ("n" : Str) = some cN →
    s.heap.IsCell cD (some v) → Rep W.P D (.list (ds.map .int)) v → s.heap.IsCell cI (some (.ref f)) → s.heap.IsCell cN (some (.int k t)) → ∀ vs, RepL W.P D [.int (L : Int), .int ((L + m : Nat) : Int)] vs →
    wpAny W.M A (call (.ref f) vs) (fun v s' => ∃ D', Ext W D D' s s' ∧ Rep W.P D' (.int (numOf (2 ^ k) ((ds.drop L).take m))) v) NoE s := by
  intro m
  induction m using Nat.strongRecOn with | _ m ih =>
  intro L hm hL A D s f clos cD cI cN v t R ok nt hI hcD hcI hcN hvD hrD hvI hvN vs r
  obtain ⟨o, doc, pm, cv, ctv, ho, hd, hca⟩ := id hI
  have hcell : ∀ x ∈ (isc i4).names, x.2 ≠ .cell := fun x hx => by
    have h : (isc i4).names.all (fun p => p.2 != .cell) = true := by kernel_rfl
    simpa using List.all_eq_true.mp h x hx
  refine inner_enter B.firm (names := (isc i4).names) (params := ["L", "R"]) (by have := R.depth; omega) ok nt ho hd hca.rec_ rfl (zip2 fun v u => by rfl) hcell (by decide) (fun x hx => ?_) (of_decide_eq_true (by kernel_rfl)) rfl rfl (by kernel_rfl) (by kernel_rfl) (by kernel_rfl) rfl r rfl ok.glob (fun _ _ _ e => e) [] nofun fun sb s₁ hw S keep => ?_
  · simp only [List.mem_cons, List.not_mem_nil, or_false] at hx
    rcases hx with rfl | rfl <;> kernel_rfl
  have hF : W.Firm := B.firm
  have cellk : ∀ {c : Addr} {u : Option Value}, s.heap.IsCell c u → s₁.heap.IsCell c u := fun ⟨o, h1, h2⟩ => ⟨o, keep _ _ h1, h2⟩
  have S1 := ((S.addFro (x := "digits") (v := v) (d := .list (ds.map .int)) (.inr ⟨.inr (by kernel_rfl), cD, hcD, cellk hvD⟩) hrD).addFro (x := "n") (v := .int k t) (d := .int k) (.inr ⟨.inr (by kernel_rfl), cN, hcN, cellk hvN⟩) (.int _ _)).weaken
    (σ' := (s4 L (L + m : Nat) (.list (ds.map .int)) k)) (sub_of ⟨by kernel_rfl, by kernel_rfl, by kernel_rfl, by kernel_rfl, trivial⟩)
  have hx : ∃ x, ds[L]? = some x := ⟨_, List.getElem?_eq_getElem (by omega)⟩
  obtain ⟨x, hx⟩ := hx
  have T0 : Tri W 0 (isc i4).names (Def.wr (isc i4).names) (exec (stmtAt (ib i4) 0)) (s4 L (L + m : Nat) (.list (ds.map .int)) k)
      (fun σ => σ = (s4 L (L + m : Nat) (.list (ds.map .int)) k) ∧ m ≠ 1) (fun d => m = 1 ∧ d = .int x) := by
    refine Tri.iteS (b := decide (m = 1)) (STe.cmp (a := .int ((L : Int) + 1)) (b := .int ((L + m : Nat) : Int)) (SEv.of Gd 4 (by kernel_rfl)) (SEv.of Gd 4 (by kernel_rfl)) ?_ rfl) (fun h => ?_) fun h => Tri.nil ⟨rfl, of_decide_eq_false h⟩
    · show some ((L : Int) + 1 == ((L + m : Nat) : Int)) = _
      refine congrArg some (Bool.eq_iff_iff.mpr ?_)
      rw [beq_iff_eq, decide_eq_true_iff]
      omega
    · exact Tri.seq (Tri.retS (SEv.sub (a := .list (ds.map .int)) (k := .int (L : Int)) (SEv.of Gd 4 (by kernel_rfl)) (SEv.of Gd 4 (by kernel_rfl)) (asub_nat (by rw [List.getElem?_map, hx]; rfl) (by simp; omega)) rfl) ⟨of_decide_eq_true h, rfl⟩)
  have T1 : Tri W 0 (isc i4).names (Def.wr (isc i4).names) (exec (stmtAt (ib i4) 1)) (s4 L (L + m : Nat) (.list (ds.map .int)) k) (fun σ => σ = s4m L (L + m : Nat) (.list (ds.map .int)) k (L + m / 2 : Nat)) (fun _ => False) := by
    refine Tri.assignS hF (d := .int ((L + m / 2 : Nat) : Int)) ?_ (by kernel_rfl) rfl (by kernel_rfl)
    have e : ((L : Int) + ((L + m : Nat) : Int)).fdiv (2 ^ (1 : Int).toNat) = ((L + m / 2 : Nat) : Int) := by
      show ((L : Int) + ((L + m : Nat) : Int)).fdiv 2 = _
      rw [Int.fdiv_eq_ediv_of_nonneg _ (by decide)]
      omega
    rw [← e]
    exact SEv.rsh (SEv.of Gd 4 (by kernel_rfl)) (SEv.of Gd 4 (by kernel_rfl)) (by decide)
  have T2 : Tri W 0 (isc i4).names (Def.wr (isc i4).names) (exec (stmtAt (ib i4) 2)) (s4m L (L + m : Nat) (.list (ds.map .int)) k (L + m / 2 : Nat)) (fun σ => σ = s4s L (L + m : Nat) (.list (ds.map .int)) k (L + m / 2 : Nat) ((m / 2) * k : Nat)) (fun _ => False) := by
    refine Tri.assignS hF (d := .int (((m / 2) * k : Nat) : Int)) ?_ (by kernel_rfl) rfl (by kernel_rfl)
    refine SEv.bin (a := .int (((L + m / 2 : Nat) : Int) - (L : Int))) (b := .int k) (SEv.of Gd 4 (by kernel_rfl)) (SEv.of Gd 4 (by kernel_rfl)) ?_
    show (if (((L + m / 2 : Nat) : Int) - (L : Int)).natAbs < big then some (AV.int ((((L + m / 2 : Nat) : Int) - (L : Int)) * k)) else none) = _
    rw [if_pos (by unfold big; omega)]
    have e : (((L + m / 2 : Nat) : Int) - (L : Int)) = ((m / 2 : Nat) : Int) := by omega
    rw [e]; rfl
  have R0 : Room (A.deeper (callEnv (fnX "inner" q4 (ipr i4) (ib i4) (isc i4) clos .none .none doc pm none cv ctv) s.heap.objs.size f)) 0 := (R.deeper _).le (Nat.zero_le _)
  refine wpAny_execs_cons (wpAny_mono (T0.run R0 rfl S1) (fun fl s₂ h₂ => ?_) fun _ _ x => x)
  rcases h₂ with ⟨rfl, σ', D', oa', ⟨rfl, hm1⟩, S2⟩ | ⟨v', d, D', rfl, ⟨hm1, rfl⟩, h3, h4⟩
  · refine wpAny_execs_cons (T1.go R0 rfl S2 fun s₃ D'' oa'' S3 => ?_)
    refine wpAny_execs_cons (T2.go R0 rfl S3 fun s₄ D4 oa4 S4 => ?_)
    have kp : ∀ b o, b ∉ W.T → s.heap.get? b = some o → s₄.heap.get? b = some o := fun b o hb e => S4.ext.keep b o hb (by rw [hw.get]; exact e)
    have kc : ∀ {s₅ : Shared} {c : Addr} {u : Option Value}, (∀ b o, b ∉ W.T → s.heap.get? b = some o → s₅.heap.get? b = some o) → s.heap.IsCell c u → s₅.heap.IsCell c u := fun k ⟨o, h1, h2⟩ => ⟨o, k _ o (W.notT' ok.glob h1 (by rw [h2]; nofun)) h1, h2⟩
    have hfT : f ∉ W.T := W.notT' ok.glob ho (by rw [hd]; nofun)
    have step : ∀ {D₅ : Fz} {s₅ : Shared}, Ext W D4 D₅ s₄ s₅ → ∀ (m' L' : Nat), m' < m → 1 ≤ m' → L' + m' ≤ ds.length → ∀ vs, RepL W.P D₅ [.int (L' : Int), .int ((L' + m' : Nat) : Int)] vs →
        wpAny W.M (A.deeper (callEnv (fnX "inner" q4 (ipr i4) (ib i4) (isc i4) clos .none .none doc pm none cv ctv) s.heap.objs.size f)) (call (.ref f) vs) (fun v s' => ∃ D', Ext W D₅ D' s₅ s' ∧ Rep W.P D' (.int (numOf (2 ^ k) ((ds.drop L').take m'))) v) NoE s₅ := by
      intro D₅ s₅ x5 m' L' h1 h2 h3 vs' r'
      have kp5 : ∀ b o, b ∉ W.T → s.heap.get? b = some o → s₅.heap.get? b = some o := fun b o hb e => x5.keep b o hb (kp b o hb e)
      exact ih m' h1 L' h2 h3 ((R.deeper _).le (by omega)) (.ext x5) (S4.nt.ext S4.glob x5) (hI.ext ok.glob kp5) hcD hcI hcN (kc kp5 hvD) ((hrD.mono S4.ext.le).mono x5.le) (kc kp5 hvI) (kc kp5 hvN) vs' r'
    have vI : ∀ {D₅ : Fz} {s₅ : Shared}, Ext W D4 D₅ s₄ s₅ → VarAt (callEnv (fnX "inner" q4 (ipr i4) (ib i4) (isc i4) clos .none .none doc pm none cv ctv) s.heap.objs.size f) s₅.heap "inner" (.ref f) := fun x5 => .inr ⟨.inr (by kernel_rfl), cI, hcI, kc (fun b o hb e => x5.keep b o hb (kp b o hb e)) hvI⟩
    refine wpAny_execs_cons (wpAny_Return_some (wpAny_BinOp (wpAny_BinOp ?_)))
    refine call_name S4 R0 rfl (x := "inner") (ds := [.int ((L + m / 2 : Nat) : Int), .int ((L + m : Nat) : Int)]) (vI S4.ok.refl) (by kernel_rfl) (kp f o hfT ho) hd (.cons rfl (SEv.of Gd 3 (by kernel_rfl)) (.cons rfl (SEv.of Gd 3 (by kernel_rfl)) .nil)) fun s₅ D₅ vs5 x5 r5 => ?_
    refine wpAny_mono (step x5 (m - m / 2) (L + m / 2) (by omega) (by omega) (by omega) vs5 (by rw [show L + m / 2 + (m - m / 2) = L + m by omega]; exact r5)) (fun v6 s₆ h₆ => ?_) fun _ _ x => x
    obtain ⟨D₆, x6, r6⟩ := h₆
    have x46 := x5.trans S4.glob x6
    refine wpAny_mono ((SEv.of Gd 3 (d := .int (((m / 2) * k : Nat) : Int)) (by kernel_rfl) : SEv W 0 (isc i4).names (s4s L (L + m : Nat) (.list (ds.map .int)) k (L + m / 2 : Nat) ((m / 2) * k : Nat)) (.Name "shift" _) _).run R0 rfl (S4.step x46)) (fun v7 s₇ h₇ => ?_) fun _ _ x => x
    obtain ⟨D₇, x7, r7⟩ := h₇
    have x47 := x46.trans S4.glob x7
    obtain ⟨t6, rfl⟩ := (r6.mono x7.le).int'
    obtain ⟨t7, rfl⟩ := r7.int'
    have hsub : ∀ L' m' : Nat, ∀ d ∈ (ds.drop L').take m', 0 ≤ d ∧ d < 2 ^ k := fun L' m' d hd => hds d (List.mem_of_mem_drop (List.mem_of_mem_take hd))
    have hB : (0 : Int) < 2 ^ k := Int.pow_pos (by decide)
    have hlen' : ∀ L' m' : Nat, L' + m' ≤ ds.length → ((ds.drop L').take m').length = m' := fun L' m' h => by simp; omega
    have hbits : ∀ L' m' : Nat, L' + m' ≤ ds.length → Builtin.Int.intBits (numOf (2 ^ k) ((ds.drop L').take m')) ≤ k * m' := fun L' m' h => by
      refine bits_le (numOf_nonneg (Int.le_of_lt hB) fun d hd => (hsub L' m' d hd).1) ?_
      have := numOf_lt hB (hsub L' m')
      rw [hlen' L' m' h, ← Int.pow_mul] at this
      exact this
    refine lshift_int (Int.natCast_nonneg _) ?_ ?_
    · have h1 := hbits (L + m / 2) (m - m / 2) (by omega)
      have h2 : k * (m - m / 2) ≤ 64 * 900 := Nat.mul_le_mul hk.2 (by omega)
      have h3 : m / 2 * k ≤ 900 * 64 := Nat.mul_le_mul (by omega) hk.2
      omega
    have x48 := x47.trans S4.glob ((Ok.ext x47).tok (s₇.toks + 1))
    refine call_name (S4.step x48) R0 rfl (x := "inner") (ds := [.int (L : Int), .int ((L + m / 2 : Nat) : Int)]) (vI x48) (by kernel_rfl) (x48.keep f o hfT (kp f o hfT ho)) hd (.cons rfl (SEv.of Gd 3 (by kernel_rfl)) (.cons rfl (SEv.of Gd 3 (by kernel_rfl)) .nil)) fun s₉ D₉ vs9 x9 r9 => ?_
    have x49 := x48.trans S4.glob x9
    refine wpAny_mono (step x49 (m / 2) L (by omega) (by omega) (by omega) vs9 r9) (fun v10 s₁₀ h₁₀ => ?_) fun _ _ x => x
    obtain ⟨D₁₀, x10, r10⟩ := h₁₀
    have x4a := x49.trans S4.glob x10
    refine wpAny_mono (abin_sound (op := .Add) (a := .int _) (b := .int _) rfl (.ext x4a) (.int _ s₇.toks) r10) (fun v11 s₁₁ h₁₁ => ?_) fun _ _ x => x
    obtain ⟨D₁₁, x11, r11⟩ := h₁₁
    have xall := x4a.trans S4.glob x11
    refine ⟨D₁₁, hw.ext0 ((S4.ext.trans S4.glob0 xall)), ?_⟩
    have e : numOf (2 ^ k) ((ds.drop (L + m / 2)).take (m - m / 2)) * 2 ^ ((((m / 2) * k : Nat) : Int)).toNat + numOf (2 ^ k) ((ds.drop L).take (m / 2)) = numOf (2 ^ k) ((ds.drop L).take m) := by
      have e1 : (ds.drop L).take m = (ds.drop L).take (m / 2) ++ (ds.drop (L + m / 2)).take (m - m / 2) := by
        have := List.take_add (l := ds.drop L) (i := m / 2) (j := m - m / 2)
        rw [show m / 2 + (m - m / 2) = m by omega, List.drop_drop] at this
        exact this
      rw [e1, numOf_app, hlen' L (m / 2) (by omega), Int.toNat_natCast, ← Int.pow_mul, Nat.mul_comm k]
      grind
    rw [← e]
    exact r11
  · refine ⟨D', hw.ext0 h3, ?_⟩
    have e : (ds.drop L).take 1 = [x] := by
      rw [List.drop_eq_getElem_cons (by omega)]
      have := (List.getElem?_eq_some_iff.mp hx).2
      simp [this]
    rw [hm1, e]
    show Rep W.P D' (.int (x + 2 ^ k * 0)) v'
    rw [Int.mul_zero, Int.add_zero]
    exact h4
end
end Mine
set_option maxRecDepth 100000
set_option linter.unusedVariables false
namespace Mine
open PySem PySem.W PyProof.Rows PySem.Calls
section
variable {W : Wd} {C : Cfg} {c3 P3 c4 P4 : Addr}
theorem clos4 (pm code doc : Value) (L a : Addr) : closureFor (isc i4) (callEnvC (docDef (dnm 42) (prm 42) (bd W.P 42) (scp 42) pm code doc) L a) = pure ([("n", L + 2), ("inner", L + 3), ("digits", L + 1)] : List (Str × Addr)) := by rfl
theorem clos3 (pm code doc : Value) (L a : Addr) : closureFor (isc i3) (callEnvC (docDef (dnm 35) (prm 35) (bd W.P 35) (scp 35) pm code doc) L a) = pure ([("n", L + 1), ("inner", L + 3), ("a_digits", L + 2)] : List (Str × Addr)) := by rfl
theorem mem_of_contains {l : List Str} {x : Str} (h : l.contains x = true) : x ∈ l := by simpa using h
theorem cell_of {env : Env} {h : Heap} {x : Str} {v : Value} {c : Addr} (hk : env.kindOf x = some .cell) (hc : env.cells.lookup x = some c) (q : VarAt env h x v) : h.IsCell c (some v) := by
  rcases q with ⟨h1, _⟩ | ⟨_, c', h2, h3⟩
  · rw [hk] at h1; cases h1
  · rw [hc] at h2; cases h2; exact h3
theorem d2i_ok (B : Base W c3 P3 c4 P4) (k : Nat) (hk : 1 ≤ k ∧ k ≤ 64) (ds : List Int) (hds : ∀ d ∈ ds, 0 ≤ d ∧ d < 2 ^ k) (hlen : ds.length ≤ 900) :
    Contract W (ds.length + 2) "_digits2int" [.list (ds.map .int), .int k] (.int (numOf (2 ^ k) ds)) := by
  obtain ⟨a, o, pm, code, doc, Df⟩ := def_d2i B
  have Gd : Good W (cfg fun _ _ => none) 0 := good_of B _ (fun _ _ _ h => by cases h)
  refine ⟨a, o, _, Df.mg, Df.data, Df.obj, fun A D s vs R ok nt r => ?_⟩
  refine call_enter Df (by have := R.depth; omega) ok nt r rfl fun s₁ S => ?_
  have hcode : code = .ref c4 := by
    obtain ⟨a', o', fd', h1, h2, h3, h4⟩ := B.code4
    rw [show dnm 42 = "_digits2int" by kernel_rfl, Df.mg] at h1
    cases h1
    have e := h2 _ ok.glob
    rw [Df.obj _ ok.glob] at e
    cases e
    rw [Df.data] at h3
    cases h3
    exact h4
  generalize hL : s.heap.objs.size = L at *
  refine wpAny_execs_cons (def_stmt B (c := c4) (P := P4) (pos := pos4) (q := q4) B.t4 (.inr ⟨rfl, rfl⟩) (fun h g => ⟨(B.m4 h g).1, let ⟨ps, h1, h2, _, h4⟩ := (B.m4 h g).2; ⟨ps, h1, h2, h4⟩⟩) S hcode (name := "inner") (params := ipr i4) (body := ib i4) (scope := isc i4)
    (clos4 pm code doc L a) (by kernel_rfl) (by kernel_rfl) (by rfl) (by kernel_rfl) (mem_of_contains (by kernel_rfl)) (by kernel_rfl) (by kernel_rfl) fun s₂ f ci S2 hI hci hcI => ?_)
  have R0 : Room (A.deeper (callEnvC (docDef (dnm 42) (prm 42) (bd W.P 42) (scp 42) pm code doc) L a)) (ds.length + 1) := R.deeper _
  obtain ⟨vD, hvD, rD⟩ := S2.fro "digits" (.list (ds.map .int)) (by kernel_rfl)
  obtain ⟨vN, hvN, rN⟩ := S2.fro "n" (.int k) (by kernel_rfl)
  obtain ⟨tN, rfl⟩ := rN.int'
  have hci' : ci = L + 3 := by
    have : (callEnvC (docDef (dnm 42) (prm 42) (bd W.P 42) (scp 42) pm code doc) L a).cells.lookup ("inner" : Str) = some (L + 3) := by kernel_rfl
    rw [this] at hci; cases hci; rfl
  subst hci'
  have cD := cell_of (c := L + 1) (by kernel_rfl) (by kernel_rfl) hvD
  have cN := cell_of (c := L + 2) (by kernel_rfl) (by kernel_rfl) hvN
  obtain ⟨o2, doc2, pm2, cv2, ctv2, hf2, hfd2, hca2⟩ := id hI
  have hfT : f ∉ W.T := W.notT' S2.glob hf2 (by rw [hfd2]; nofun)
  refine wpAny_execs_cons (wpAny_Return_some (wpAny_IfExp (isTrue_plain (wpAny_mono ((SEv.of Gd 3 (d := .list (ds.map .int)) (by kernel_rfl) : SEv W 0 (nm W.P 42) (args0 ["digits", "n"] [.list (ds.map .int), .int k]) (.Name "digits" _) _).run (R0.le (Nat.zero_le _)) rfl S2) (fun v s₃ h₃ => ?_) fun _ _ x => x) (plainTest_eq rfl))))
  obtain ⟨D₃, x3, r3⟩ := h₃
  obtain ⟨l, vs3, n3, rfl, hl3, rl3⟩ := r3.list'
  have ok3 : Ok W D₃ s₃ := .ext x3
  have hlen3 := rl3.length
  rw [List.length_map] at hlen3
  refine wpAny_truthy_list (items := vs3.toArray) ⟨_, ok3.fz _ _ hl3, rfl, _, rfl⟩ (by rw [List.size_toArray, ← hlen3]; omega) ?_
  have x4 := x3.trans S2.glob (ok3.tok (s₃.toks + 1 + 1))
  have S4 := S2.step x4
  have kp : ∀ {D₅ : Fz} {s₅ : Shared}, Ext W D₃ D₅ { s₃ with toks := s₃.toks + 1 + 1 } s₅ → ∀ b o, b ∉ W.T → s₂.heap.get? b = some o → s₅.heap.get? b = some o := fun x5 b o hb e => x5.keep b o hb (x4.keep b o hb e)
  have kc : ∀ {s₅ : Shared} {c : Addr} {u : Option Value}, (∀ b o, b ∉ W.T → s₂.heap.get? b = some o → s₅.heap.get? b = some o) → s₂.heap.IsCell c u → s₅.heap.IsCell c u := fun k ⟨o, h1, h2⟩ => ⟨o, k _ o (W.notT' S2.glob h1 (by rw [h2]; nofun)) h1, h2⟩
  cases ds with
  | nil =>
    cases rl3
    rw [show (!(#[] : Array Value).isEmpty) = false from rfl, if_neg Bool.false_ne_true]
    refine wpAny_mono ((SEv.of Gd 3 (d := .int 0) (by kernel_rfl) : SEv W 0 (nm W.P 42) (args0 ["digits", "n"] [.list [], .int k]) (.Constant (.int 0) 0 _) _).run (R0.le (Nat.zero_le _)) rfl S4) (fun v s₅ h₅ => ?_) fun _ _ x => x
    obtain ⟨D₅, x5, r5⟩ := h₅
    exact ⟨v, rfl, D₅, (S4.step x5).ext, r5⟩
  | cons d0 dr =>
    have hne : (!vs3.toArray.isEmpty) = true := by
      cases rl3; rfl
    rw [hne, if_pos rfl]
    have hl0 : (d0 :: dr).length = dr.length + 1 := rfl
    refine call_name S4 (R0.le (Nat.zero_le _)) rfl (x := "inner") (ds := [.int ((0 : Nat) : Int), .int (((d0 :: dr).map AV.int).length : Int)]) (f := f) (.inr ⟨.inl (by kernel_rfl), L + 3, by kernel_rfl, kc (x4.keep) hcI⟩) (by kernel_rfl) (x4.keep f _ hfT hf2) hfd2
      (.cons rfl (SEv.of Gd 3 (by kernel_rfl)) (.cons rfl (SEv.len Gd (SEv.of Gd 3 (by kernel_rfl)) rfl (by simp at hlen ⊢; omega) (by kernel_rfl)) .nil)) fun s₅ D₅ vs5 x5 r5 => ?_
    have kp5 := kp x5
    refine wpAny_mono (inner4_ok B Gd k hk (d0 :: dr) hds hlen (d0 :: dr).length 0 (by simp) (by simp) (R0.le (by omega)) (.ext x5) (S4.nt.ext S4.glob x5) (hI.ext S2.glob kp5) (cD := L + 1) (cI := L + 3) (cN := L + 2) (by kernel_rfl) (by kernel_rfl) (by kernel_rfl) (kc kp5 cD) ((rD.mono x4.le).mono x5.le) (kc kp5 hcI) (kc kp5 cN) vs5
      (by rw [Nat.zero_add]; simpa using r5)) (fun v s₆ h₆ => ?_) fun _ _ x => x
    obtain ⟨D₆, x6, r6⟩ := h₆
    rw [List.drop_zero, List.take_length] at r6
    exact ⟨v, rfl, D₆, ((S4.step x5).step x6).ext, r6⟩
end
end Mine
set_option maxRecDepth 100000
set_option linter.unusedVariables false
namespace Mine
open PySem PySem.W PyProof.Rows PySem.Calls
noncomputable def digs (B : Int) : Nat → Int → List Int
  | 0, _ => []
  | m + 1, x => x % B :: digs B m (x / B)
theorem digs_len (B : Int) : ∀ m x, (digs B m x).length = m
  | 0, _ => rfl
  | m + 1, x => by simp [digs, digs_len B m]
theorem digs_mem {B : Int} (hB : 0 < B) : ∀ {m x d}, d ∈ digs B m x → 0 ≤ d ∧ d < B
  | 0, _, _, h => by simp [digs] at h
  | m + 1, x, d, h => by
    simp only [digs, List.mem_cons] at h
    rcases h with rfl | h
    · exact ⟨Int.emod_nonneg _ (by omega), Int.emod_lt_of_pos _ hB⟩
    · exact digs_mem hB h
theorem digs_num {B : Int} (hB : 0 < B) : ∀ {m x}, 0 ≤ x → x < B ^ m → numOf B (digs B m x) = x
  | 0, x, h0, h => by simp at h; simp [digs, numOf]; omega
  | m + 1, x, h0, h => by
    simp only [digs, numOf]
    rw [digs_num hB (Int.ediv_nonneg h0 (by omega)) (Int.ediv_lt_of_lt_mul hB (by rw [Int.pow_succ] at h; exact h))]
    have := Int.emod_add_mul_ediv x B
    omega
theorem digs_split {B : Int} (hB : 0 < B) : ∀ (h j : Nat) (x : Int), digs B (h + j) x = digs B h (x % B ^ h) ++ digs B j (x / B ^ h)
  | 0, j, x => by simp [digs]
  | h + 1, j, x => by
    rw [show h + 1 + j = (h + j) + 1 by omega]
    simp only [digs, List.cons_append]
    rw [digs_split hB h j (x / B)]
    have hp : (0 : Int) < B ^ h := Int.pow_pos hB
    have e1 : x % B ^ (h + 1) % B = x % B := by
      rw [Int.pow_succ, Int.emod_emod_of_dvd x (Int.dvd_mul_left _ _)]
    have e2 : x % B ^ (h + 1) / B = x / B % B ^ h := by
      rw [Int.pow_succ]
      have q1 := Int.emod_def x (B ^ h * B)
      have q2 := Int.emod_def (x / B) (B ^ h)
      have q3 : x / (B ^ h * B) = x / B / B ^ h := by rw [Int.mul_comm, Int.ediv_ediv_of_nonneg (Int.le_of_lt hB)]
      rw [q1, q2, q3]
      have : x - B ^ h * B * (x / B / B ^ h) = x + B * (-(B ^ h * (x / B / B ^ h))) := by grind
      rw [this, Int.add_mul_ediv_left _ _ (by omega)]
      omega
    have e3 : x / B / B ^ h = x / B ^ (h + 1) := by
      rw [Int.pow_succ, Int.mul_comm, Int.ediv_ediv_of_nonneg (Int.le_of_lt hB)]
    rw [e1, e2, e3]
theorem and_high (x j : Nat) : x &&& ((x >>> j) <<< j) = (x >>> j) <<< j := by
  apply Nat.eq_of_testBit_eq
  intro i
  simp only [Nat.testBit_and, Nat.testBit_shiftLeft, Nat.testBit_shiftRight]
  by_cases h : j ≤ i
  · simp [h]
  · simp [h]
theorem xor_low {x : Int} (hx : 0 ≤ x) (j : Nat) : Builtin.bitXor x (x / 2 ^ j * 2 ^ j) = x % 2 ^ j := by
  obtain ⟨n, rfl⟩ := Int.eq_ofNat_of_zero_le hx
  have hp : (0 : Int) ≤ ((n : Int) / 2 ^ j) * 2 ^ j := Int.mul_nonneg (Int.ediv_nonneg hx (Int.le_of_lt (Int.pow_pos (by decide)))) (Int.le_of_lt (Int.pow_pos (by decide)))
  have e : ((n : Int) / 2 ^ j) * 2 ^ j = (((n >>> j) <<< j : Nat) : Int) := by
    rw [Nat.shiftLeft_eq, Nat.shiftRight_eq_div_pow]
    simp
  rw [bitXor_and, bitAnd_pp hx hp, e, Int.toNat_natCast, Int.toNat_natCast, and_high, ← e]
  have := Int.emod_add_mul_ediv (n : Int) (2 ^ j)
  have c : (n : Int) / 2 ^ j * 2 ^ j = 2 ^ j * ((n : Int) / 2 ^ j) := Int.mul_comm _ _
  omega
end Mine
set_option maxRecDepth 100000
set_option linter.unusedVariables false
namespace Mine
open PySem PySem.W PyProof.Rows PySem.Calls
noncomputable def s3 (x L R k : Int) (b : Bool) (cv : AV) : Sg := [("x", (false, .int x)), ("L", (false, .int L)), ("R", (false, .int R)), ("n", (false, .int k)), ("a_digits", (b, cv))]
noncomputable def t3 (x L R k : Int) (cv : AV) (mid sh up lo : Int) : Sg := [("x", (false, .int x)), ("L", (false, .int L)), ("R", (false, .int R)), ("n", (false, .int k)), ("mid", (false, .int mid)), ("shift", (false, .int sh)), ("upper", (false, .int up)), ("lower", (false, .int lo)), ("a_digits", (true, cv))]
noncomputable def u3 (x L R k : Int) (mid sh up lo : Int) : Sg := [("x", (false, .int x)), ("L", (false, .int L)), ("R", (false, .int R)), ("n", (false, .int k)), ("mid", (false, .int mid)), ("shift", (false, .int sh)), ("upper", (false, .int up)), ("lower", (false, .int lo))]
/-- some figures laid into a list -/
noncomputable def lay (cur : List Int) (L : Nat) (new : List Int) : List Int := cur.take L ++ new ++ cur.drop (L + new.length)
theorem lay_len {cur : List Int} {L : Nat} {new : List Int} (h : L + new.length ≤ cur.length) : (lay cur L new).length = cur.length := by simp [lay]; omega
theorem lay_one {cur : List Int} {L : Nat} (h : L < cur.length) (x : Int) : lay cur L [x] = cur.set L x := by
  rw [List.set_eq_take_append_cons_drop, if_pos h]; simp [lay]
theorem lay_two {cur : List Int} {L : Nat} {a b : List Int} (h : L + a.length + b.length ≤ cur.length) : lay (lay cur L a) (L + a.length) b = lay cur L (a ++ b) := by
  have hL : (cur.take L).length = L := by simp; omega
  have e1 : (lay cur L a).take (L + a.length) = cur.take L ++ a := by
    unfold lay
    rw [List.take_append_of_le_length (by simp; omega), List.take_of_length_le (by simp; omega)]
  have e2 : (lay cur L a).drop (L + a.length + b.length) = cur.drop (L + a.length + b.length) := by
    unfold lay
    rw [List.drop_append, List.drop_of_length_le (by simp; omega), List.nil_append, List.drop_drop]
    congr 1
    simp; omega
  show (lay cur L a).take (L + a.length) ++ b ++ (lay cur L a).drop (L + a.length + b.length) = cur.take L ++ (a ++ b) ++ cur.drop (L + (a ++ b).length)
  rw [e1, e2]
  simp [Nat.add_assoc]
section
variable {W : Wd} {C : Cfg} {c3 P3 c4 P4 : Addr}
theorem cell_free {env : Env} {h : Heap} {x : Str} {v : Value} {c : Addr} (hk : env.kindOf x = some .free) (hc : env.cells.lookup x = some c) (q : VarAt env h x v) : h.IsCell c (some v) := by
  rcases q with ⟨h1, _⟩ | ⟨_, c', h2, h3⟩
  · rw [hk] at h1; cases h1
  · rw [hc] at h2; cases h2; exact h3
theorem cell_same {h : Heap} {c : Addr} {a b : Addr} (x : h.IsCell c (some (.ref a))) (y : h.IsCell c (some (.ref b))) : a = b := by
  obtain ⟨o, h1, h2⟩ := x
  obtain ⟨o', h3, h4⟩ := y
  rw [h1] at h3; cases h3
  rw [h2] at h4; cases h4; rfl
/-- what a call of the inner def leaves -/
noncomputable def Laid (W : Wd) (l : Addr) (D : Fz) (s : Shared) (new : List Int) (v : Value) (s' : Shared) : Prop :=
  v = .none ∧ ∃ D', EP W [l] D D' s s' ∧ D' l = none ∧ ∃ vs n, s'.heap.get? l = some (lObj vs n) ∧ RepL W.P D' (new.map .int) vs
theorem inner3_ok (B : Base W c3 P3 c4 P4) (Gd : Good W C 0) (k : Nat) (hk : 1 ≤ k ∧ k ≤ 64) : ∀ (m L : Nat) (x : Int) (cur : List Int), 1 ≤ m → L + m ≤ cur.length → cur.length ≤ 900 → 0 ≤ x → x < (2 ^ k) ^ m →
    ∀ {A : Around} {D : Fz} {s : Shared} {f : Addr} {clos : List (Str × Addr)} {cA cI cN l : Addr} {t : Tok} {vs0 : List Value} {n0 : Nat} {hb : Heap}, Room A (m + 1) → Ok W D s → NT W D → W.G hb → (∀ b o, b ∉ W.T → hb.get? b = some o → s.heap.get? b = some o) → hb.get? l = none → D l = none →
    Inner s.heap f "inner" q3 (ipr i3) (ib i3) (isc i3) clos → clos.lookup ("a_digits" : Str) = some cA → clos.lookup ("inner" : Str) = some cI → clos.lookup ("n" : Str) = some cN →
    s.heap.IsCell cA (some (.ref l)) → s.heap.IsCell cI (some (.ref f)) → s.heap.IsCell cN (some (.int k t)) → s.heap.get? l = some (lObj vs0 n0) → RepL W.P D (cur.map .int) vs0 → ∀ vs, RepL W.P D [.int x, .int (L : Int), .int ((L + m : Nat) : Int)] vs →
    wpAny W.M A (call (.ref f) vs) (Laid W l D s (lay cur L (digs (2 ^ k) m x))) NoE s := by
  intro m
  induction m using Nat.strongRecOn with | _ m ih =>
  intro L x cur hm hL hlen hx0 hx A D s f clos cA cI cN l t vs0 n0 hb R ok nt bG bk hbl hDl hI hcA hcI hcN hvA hvI hvN hl rl vs r
  obtain ⟨o, doc, pm, cv, ctv, ho, hd, hca⟩ := id hI
  have hcell : ∀ x ∈ (isc i3).names, x.2 ≠ .cell := fun x hx => by
    have h : (isc i3).names.all (fun p => p.2 != .cell) = true := by kernel_rfl
    simpa using List.all_eq_true.mp h x hx
  refine inner_enter B.firm (names := (isc i3).names) (params := ["x", "L", "R"]) (by have := R.depth; omega) ok nt ho hd hca.rec_ rfl (zip3 fun v u t => by rfl) hcell (by decide) (fun x hx => ?_) (of_decide_eq_true (by kernel_rfl)) rfl rfl (by kernel_rfl) (by kernel_rfl) (by kernel_rfl) rfl r rfl bG bk [l]
    (fun b hb' => by rw [List.mem_singleton.mp hb']; exact ⟨hbl, hDl, fun o e => by rw [hl] at e; cases e; exact .of_data nofun⟩) fun sb s₁ hw S keep => ?_
  · simp only [List.mem_cons, List.not_mem_nil, or_false] at hx
    rcases hx with rfl | rfl | rfl <;> kernel_rfl
  have hF : W.Firm := B.firm
  generalize hEnv : callEnv (fnX "inner" q3 (ipr i3) (ib i3) (isc i3) clos .none .none doc pm none cv ctv) s.heap.objs.size f = env at *
  have hsc : env.scope.names = (isc i3).names := by rw [← hEnv]; rfl
  have hkd : ∀ y, env.kindOf y = (isc i3).names.lookup y := fun y => by rw [← hEnv]; rfl
  have hcl : env.cells = clos := by rw [← hEnv]; rfl
  have hlo : env.locals = s.heap.objs.size := by rw [← hEnv]; rfl
  have lT : l ∉ W.T := W.notT ok.glob hl nofun
  have cellne : ∀ {c : Addr} {u : Option Value}, s.heap.IsCell c u → c ≠ l ∧ c ∉ W.T := fun {c u} ⟨oc, h1, h2⟩ => ⟨fun e => (by rw [e, hl] at h1; cases h1; cases h2), W.notT' ok.glob h1 (by rw [h2]; nofun)⟩
  have sbl : sb.heap.get? l = none := by rw [hw.get, if_pos (List.mem_singleton.mpr rfl)]
  have hlL : l ≠ env.locals := by rw [hlo]; exact Nat.ne_of_lt (Heap.lt_size hl)
  have cellk : ∀ {c : Addr} {u : Option Value}, s.heap.IsCell c u → s₁.heap.IsCell c u := fun ⟨o, h1, h2⟩ => ⟨o, keep _ _ h1, h2⟩
  have sbk : ∀ {b : Addr} {o : Obj}, b ≠ l → s.heap.get? b = some o → sb.heap.get? b = some o := fun {b o} h e => by rw [hw.get, if_neg (fun h' => h (List.mem_singleton.mp h'))]; exact e
  -- what a state of the frame keeps
  have kc : ∀ {σ : Sg} {D₅ : Fz} {s₅ : Shared} {oa : Str → Addr}, St W env (Def.wr (isc i3).names) D sb σ D₅ s₅ oa → ∀ {c : Addr} {u : Option Value}, s.heap.IsCell c u → s₅.heap.IsCell c u := fun {σ D₅ s₅ oa} S {c u} h => let ⟨o, h1, h2⟩ := h; ⟨o, S.ext.keep c o (cellne h).2 (sbk (cellne h).1 h1), h2⟩
  have ownl : ∀ {σ : Sg} {D₅ : Fz} {s₅ : Shared} {oa : Str → Addr} {d : AV}, St W env (Def.wr (isc i3).names) D sb σ D₅ s₅ oa → σ.lookup ("a_digits" : Str) = some (true, d) → oa "a_digits" = l := fun {σ D₅ s₅ oa d} S h => by
    have h1 := (S.own _ d h).1
    exact cell_same (cell_free (c := cA) (by rw [hkd]; kernel_rfl) (by rw [hcl]; exact hcA) h1) (kc S hvA)
  have fin : ∀ {σ : Sg} {D₅ : Fz} {s₅ : Shared} {oa : Str → Addr} {new : List Int}, St W env (Def.wr (isc i3).names) D sb σ D₅ s₅ oa → σ.lookup ("a_digits" : Str) = some (true, .list (new.map .int)) → Laid W l D s new .none s₅ := fun {σ D₅ s₅ oa new} S h => by
    obtain ⟨_, ⟨o', h2, vs', n', rfl, r'⟩, h3, _⟩ := S.own _ _ h
    rw [ownl S h] at h2 h3
    exact ⟨rfl, D₅, hw.ep S.ext (fun b hb => by rw [List.mem_singleton.mp hb]; exact h3), h3, vs', n', h2, r'⟩
  have R0 : Room (A.deeper env) 0 := (R.deeper _).le (Nat.zero_le _)
  have S1 := (((S.addFro (x := "n") (v := .int k t) (d := .int k) (.inr ⟨.inr (by rw [hkd]; kernel_rfl), cN, by rw [hcl]; exact hcN, cellk hvN⟩) (.int _ _)).weaken
    (σ' := [("x", (false, .int x)), ("L", (false, .int (L : Int))), ("R", (false, .int ((L + m : Nat) : Int))), ("n", (false, .int k))]) (sub_of ⟨by kernel_rfl, by kernel_rfl, by kernel_rfl, by kernel_rfl, trivial⟩)).addOwn (x := "a_digits") (l := l) (o := lObj vs0 n0) (d := .list (cur.map .int))
      (fun y d e => by have := mem_of_lookup e; simp at this) (.inr ⟨.inr (by rw [hkd]; kernel_rfl), cA, by rw [hcl]; exact hcA, cellk hvA⟩) (keep _ _ hl) ⟨vs0, n0, rfl, rl⟩ hDl sbl hlL).weaken (σ' := s3 x L (L + m : Nat) k true (.list (cur.map .int))) (sub_of ⟨by kernel_rfl, by kernel_rfl, by kernel_rfl, by kernel_rfl, by kernel_rfl, trivial⟩)
  have TT0 : STe W 0 (isc i3).names (s3 x L (L + m : Nat) k true (.list (cur.map .int))) (match stmtAt (ib i3) 0 with | .If t _ _ _ => t | _ => .Constant .none 0 ⟨0, 0, 0, 0⟩) (decide (m = 1)) := by
    refine STe.cmp (a := .int ((L : Int) + 1)) (b := .int ((L + m : Nat) : Int)) (SEv.of Gd 4 (by kernel_rfl)) (SEv.of Gd 4 (by kernel_rfl)) ?_ rfl
    show some ((L : Int) + 1 == ((L + m : Nat) : Int)) = _
    refine congrArg some (Bool.eq_iff_iff.mpr ?_)
    rw [beq_iff_eq, decide_eq_true_iff]
    omega
  refine wpAny_execs_cons (wpAny_If (wpAny_mono (TT0.run R0 hsc S1) (fun c s₂ h₂ => ?_) fun _ _ x => x))
  obtain ⟨rfl, D₂, x₂⟩ := h₂
  have S2 := S1.step x₂
  by_cases hm1 : m = 1
  · rw [decide_eq_true hm1, if_pos rfl]
    have e1 : digs (2 ^ k) m x = [x] := by
      subst hm1
      have : x < 2 ^ k := by simp only [Int.pow_succ, Int.pow_zero, Int.one_mul] at hx; exact hx
      simp [digs, Int.emod_eq_of_lt hx0 this]
    rw [e1, lay_one (by omega)]
    have T3 : Tri W 0 (isc i3).names (Def.wr (isc i3).names) (exec (stmtAt (match stmtAt (ib i3) 0 with | .If _ b _ _ => b | _ => []) 0)) (s3 x L (L + m : Nat) k true (.list (cur.map .int))) (fun σ => σ.lookup ("a_digits" : Str) = some (true, .list ((cur.set L x).map .int))) (fun _ => False) := by
      refine Tri.setL Gd 4 (l := cur.map .int) (l' := (cur.set L x).map .int) (k := L) (d := .int x) (by kernel_rfl) (by kernel_rfl) (by kernel_rfl) (by kernel_rfl) rfl ?_ (by kernel_rfl)
      unfold asetL
      rw [if_pos ⟨by omega, by simp; omega, by simp; omega⟩, List.map_set]; rfl
    refine wpAny_execs_cons (wpAny_mono (T3.run R0 hsc S2) (fun fl s₃ h₃ => ?_) fun _ _ x => x)
    rcases h₃ with ⟨rfl, σ', D₃, oa₃, hσ, S3⟩ | ⟨_, _, _, _, hf, _⟩
    case inr => exact hf.elim
    exact wpAny_execs_cons (wpAny_Return_none (fin S3 hσ))
  · rw [decide_eq_false hm1, if_neg Bool.false_ne_true]
    refine wpAny_execs_nil ?_
    obtain ⟨h, hh⟩ : ∃ h, h = m / 2 := ⟨_, rfl⟩
    have h1h : 1 ≤ h ∧ h < m := by omega
    have kI : ∀ {σ : Sg} {D₅ : Fz} {s₅ : Shared} {oa : Str → Addr}, St W env (Def.wr (isc i3).names) D sb σ D₅ s₅ oa → Inner s₅.heap f "inner" q3 (ipr i3) (ib i3) (isc i3) clos ∧ ∃ o' fd', s₅.heap.get? f = some o' ∧ o'.data = .func fd' := fun {σ D₅ s₅ oa} S => by
      have hf' : s₅.heap.get? f = some o := S.ext.keep f o (W.notT' ok.glob ho (by rw [hd]; nofun)) (sbk (fun e => by rw [e, hl] at ho; cases ho; cases hd) ho)
      exact ⟨⟨o, doc, pm, cv, ctv, hf', hd, hca.keeps fun c oc vs _ e3 e4 e => S.ext.keep c oc (W.notT ok.glob e (by rw [e3]; nofun)) (sbk (fun e' => by rw [e', hl] at e; cases e; cases e4) e)⟩, o, _, hf', hd⟩
    have callI : ∀ (mid sh up lo : Int) {D₄ : Fz} {s₄ : Shared} {oa₄ : Str → Addr} (cur1 : List Int), St W env (Def.wr (isc i3).names) D sb (t3 x L (L + m : Nat) k (.list (cur1.map .int)) mid sh up lo) D₄ s₄ oa₄ → cur1.length = cur.length → ∀ (m' L' : Nat) (x' : Int) {es : List Expr} {p p' p'' : Pos},
        SArgs W 0 (isc i3).names (t3 x L (L + m : Nat) k (.list (cur1.map .int)) mid sh up lo) es [.int x', .int (L' : Int), .int ((L' + m' : Nat) : Int)] → m' < m → 1 ≤ m' → L' + m' ≤ cur.length → 0 ≤ x' → x' < (2 ^ k) ^ m' → ∀ {Q : Flow → Shared → Prop},
        (∀ s₆ D₆ oa₆, St W env (Def.wr (isc i3).names) D sb (t3 x L (L + m : Nat) k (.list ((lay cur1 L' (digs (2 ^ k) m' x')).map .int)) mid sh up lo) D₆ s₆ oa₆ → Q .next s₆) → wpAny W.M (A.deeper env) (exec (.Expr (.Call (.Name "inner" p) es [] p') p'') env) Q NoE s₄ := by
      intro mid sh up lo D₄ s₄ oa₄ cur1 S4 hc1 m' L' x' es p p' p'' ha h1 h2 h3 h4 h5 Q hQ
      obtain ⟨_, o', fd', hf4, hfd4⟩ := kI S4
      refine wpAny_Expr (call_name S4 R0 hsc (x := "inner") (.inr ⟨.inr (by rw [hkd]; kernel_rfl), cI, by rw [hcl]; exact hcI, kc S4 hvI⟩) (by kernel_rfl) hf4 hfd4 ha fun s₅ D₅ vs5 x5 r5 => ?_) (by unfold interactive; rw [S4.kind]; rfl)
      have S5 := S4.step x5
      have hlook : (t3 x L (L + m : Nat) k (.list (cur1.map .int)) mid sh up lo).lookup ("a_digits" : Str) = some (true, .list (cur1.map .int)) := by kernel_rfl
      obtain ⟨_, ⟨o5, ho5, vs5', n5, rfl, r5'⟩, hD5, _⟩ := S5.own _ _ hlook
      rw [ownl S5 hlook] at ho5 hD5
      refine wpAny_mono (ih m' h1 L' x' cur1 h2 (by omega) (by omega) h4 h5 ((R.deeper _).le (by omega)) S5.ok S5.nt S5.glob0 (fun b o hb e => S5.ext.keep b o hb e) sbl hD5 (kI S5).1 hcA hcI hcN (kc S5 hvA) (kc S5 hvI) (kc S5 hvN) ho5 r5' vs5 r5) (fun v s₆ h₆ => ?_) fun _ _ x => x
      obtain ⟨rfl, D₆, x6, hD6, vs6, n6, hl6, r6⟩ := h₆
      have S6 := (S5.weaken (σ' := u3 x L (L + m : Nat) k mid sh up lo) (sub_of ⟨by kernel_rfl, by kernel_rfl, by kernel_rfl, by kernel_rfl, by kernel_rfl, by kernel_rfl, by kernel_rfl, by kernel_rfl, trivial⟩)).ep x6 (fun b hb => by rw [List.mem_singleton.mp hb]; exact sbl) (fun b hb => by rw [List.mem_singleton.mp hb]; exact hlL)
        (fun b hb u hu => by
          rw [List.mem_singleton.mp hb] at hu
          obtain ⟨oc, g1, g2⟩ := hu
          rw [ho5] at g1; cases g1; cases g2) (fun b hb y d hy => by have := mem_of_lookup hy; simp [u3] at this)
      have hvA6 : s₆.heap.IsCell cA (some (.ref l)) := by
        obtain ⟨oc, g1, g2⟩ := kc S5 hvA
        exact ⟨oc, x6.keep cA oc (cellne hvA).2 (fun hm => (cellne hvA).1 (List.mem_singleton.mp hm)) g1, g2⟩
      exact hQ _ _ _ ((S6.addOwn (x := "a_digits") (d := .list ((lay cur1 L' (digs (2 ^ k) m' x')).map .int)) (fun y d e => by have := mem_of_lookup e; simp [u3] at this) (.inr ⟨.inr (by rw [hkd]; kernel_rfl), cA, by rw [hcl]; exact hcA, hvA6⟩) hl6 ⟨vs6, n6, rfl, r6⟩ hD6 sbl hlL).weaken
        (sub_of ⟨by kernel_rfl, by kernel_rfl, by kernel_rfl, by kernel_rfl, by kernel_rfl, by kernel_rfl, by kernel_rfl, by kernel_rfl, by kernel_rfl, trivial⟩))
    have h2 : (0 : Int) < 2 ^ (h * k) := Int.pow_pos (by decide)
    have T1 : Tri W 0 (isc i3).names (Def.wr (isc i3).names) (exec (stmtAt (ib i3) 1)) (s3 x L (L + m : Nat) k true (.list (cur.map .int))) (fun σ => σ = put (s3 x L (L + m : Nat) k true (.list (cur.map .int))) "mid" (false, .int ((L + h : Nat) : Int))) (fun _ => False) := by
      refine Tri.assignS hF (d := .int ((L + h : Nat) : Int)) ?_ (by kernel_rfl) rfl rfl
      have e : ((L : Int) + ((L + m : Nat) : Int)).fdiv (2 ^ (1 : Int).toNat) = ((L + h : Nat) : Int) := by
        show ((L : Int) + ((L + m : Nat) : Int)).fdiv 2 = _
        rw [Int.fdiv_eq_ediv_of_nonneg _ (by decide)]
        omega
      rw [← e]
      exact SEv.rsh (SEv.of Gd 4 (by kernel_rfl)) (SEv.of Gd 4 (by kernel_rfl)) (by decide)
    refine wpAny_execs_cons (T1.go R0 hsc S2 fun s₃ D₃ oa₃ S3 => ?_)
    have T2 : Tri W 0 (isc i3).names (Def.wr (isc i3).names) (exec (stmtAt (ib i3) 2)) (put (s3 x L (L + m : Nat) k true (.list (cur.map .int))) "mid" (false, .int ((L + h : Nat) : Int)))
        (fun σ => σ = put (put (s3 x L (L + m : Nat) k true (.list (cur.map .int))) "mid" (false, .int ((L + h : Nat) : Int))) "shift" (false, .int ((h * k : Nat) : Int))) (fun _ => False) := by
      refine Tri.assignS hF (d := .int ((h * k : Nat) : Int)) ?_ (by kernel_rfl) rfl rfl
      refine SEv.bin (a := .int (((L + h : Nat) : Int) - (L : Int))) (b := .int k) (SEv.of Gd 4 (by kernel_rfl)) (SEv.of Gd 4 (by kernel_rfl)) ?_
      show (if (((L + h : Nat) : Int) - (L : Int)).natAbs < big then some (AV.int ((((L + h : Nat) : Int) - (L : Int)) * k)) else none) = _
      rw [if_pos (by unfold big; omega)]
      have e : (((L + h : Nat) : Int) - (L : Int)) = (h : Int) := by omega
      rw [e]; rfl
    refine wpAny_execs_cons (T2.go R0 hsc S3 fun s₄ D₄ oa₄ S4 => ?_)
    have T3 : Tri W 0 (isc i3).names (Def.wr (isc i3).names) (exec (stmtAt (ib i3) 3)) (put (put (s3 x L (L + m : Nat) k true (.list (cur.map .int))) "mid" (false, .int ((L + h : Nat) : Int))) "shift" (false, .int ((h * k : Nat) : Int)))
        (fun σ => σ = put (put (put (s3 x L (L + m : Nat) k true (.list (cur.map .int))) "mid" (false, .int ((L + h : Nat) : Int))) "shift" (false, .int ((h * k : Nat) : Int))) "upper" (false, .int (x / 2 ^ (h * k)))) (fun _ => False) := by
      refine Tri.assignS hF (d := .int (x / 2 ^ (h * k))) ?_ (by kernel_rfl) rfl rfl
      have e : x.fdiv (2 ^ ((h * k : Nat) : Int).toNat) = x / 2 ^ (h * k) := by
        rw [Int.toNat_natCast, Int.fdiv_eq_ediv_of_nonneg _ (Int.le_of_lt h2)]
      rw [← e]
      exact SEv.rsh (SEv.of Gd 4 (by kernel_rfl)) (SEv.of Gd 4 (by kernel_rfl)) (Int.natCast_nonneg _)
    refine wpAny_execs_cons (T3.go R0 hsc S4 fun s₅ D₅ oa₅ S5 => ?_)
    have hup0 : 0 ≤ x / 2 ^ (h * k) := Int.ediv_nonneg hx0 (Int.le_of_lt h2)
    have hxm : x < 2 ^ (k * m) := by rw [Int.pow_mul]; exact hx
    have hup : x / 2 ^ (h * k) < 2 ^ (k * (m - h)) := by
      refine Int.ediv_lt_of_lt_mul h2 ?_
      rw [← Int.pow_add, Nat.mul_comm h k, ← Nat.mul_add, show m - h + h = m by omega]
      exact hxm
    have T4 : Tri W 0 (isc i3).names (Def.wr (isc i3).names) (exec (stmtAt (ib i3) 4)) (put (put (put (s3 x L (L + m : Nat) k true (.list (cur.map .int))) "mid" (false, .int ((L + h : Nat) : Int))) "shift" (false, .int ((h * k : Nat) : Int))) "upper" (false, .int (x / 2 ^ (h * k))))
        (fun σ => σ = put (put (put (put (s3 x L (L + m : Nat) k true (.list (cur.map .int))) "mid" (false, .int ((L + h : Nat) : Int))) "shift" (false, .int ((h * k : Nat) : Int))) "upper" (false, .int (x / 2 ^ (h * k)))) "lower" (false, .int (x % 2 ^ (h * k)))) (fun _ => False) := by
      refine Tri.assignS hF (d := .int (x % 2 ^ (h * k))) ?_ (by kernel_rfl) rfl rfl
      have e : Builtin.bitXor x (x / 2 ^ (h * k) * 2 ^ ((h * k : Nat) : Int).toNat) = x % 2 ^ (h * k) := by
        rw [Int.toNat_natCast, xor_low hx0]
      rw [← e]
      refine SEv.xor (SEv.of Gd 4 (by kernel_rfl)) (SEv.shl (SEv.of Gd 4 (by kernel_rfl)) (SEv.of Gd 4 (by kernel_rfl)) (Int.natCast_nonneg _) ?_)
      have h1 := bits_le hup0 hup
      have h2 : k * (m - h) ≤ 64 * 900 := Nat.mul_le_mul hk.2 (by omega)
      have h3 : h * k ≤ 900 * 64 := Nat.mul_le_mul (by omega) hk.2
      omega
    refine wpAny_execs_cons (T4.go R0 hsc S5 fun s₆ D₆ oa₆ S6 => ?_)
    have S6' := S6.weaken (σ' := t3 x L (L + m : Nat) k (.list (cur.map .int)) (L + h : Nat) (h * k : Nat) (x / 2 ^ (h * k)) (x % 2 ^ (h * k))) (sub_of ⟨by kernel_rfl, by kernel_rfl, by kernel_rfl, by kernel_rfl, by kernel_rfl, by kernel_rfl, by kernel_rfl, by kernel_rfl, by kernel_rfl, trivial⟩)
    have hpw : ∀ j : Nat, ((2 : Int) ^ k) ^ j = 2 ^ (k * j) := fun j => (Int.pow_mul ..).symm
    refine wpAny_execs_cons (callI _ _ _ _ cur S6' rfl h L (x % 2 ^ (h * k)) (.cons rfl (SEv.of Gd 4 (by kernel_rfl)) (.cons rfl (SEv.of Gd 4 (by kernel_rfl)) (.cons rfl (SEv.of Gd 4 (by kernel_rfl)) .nil))) h1h.2 h1h.1 (by omega) (Int.emod_nonneg _ (by omega))
      (by rw [hpw, Nat.mul_comm k h]; exact Int.emod_lt_of_pos _ h2) fun s₇ D₇ oa₇ S7 => ?_)
    have hl1 : (digs (2 ^ k) h (x % 2 ^ (h * k))).length = h := digs_len ..
    have hl2 : (digs (2 ^ k) (m - h) (x / 2 ^ (h * k))).length = m - h := digs_len ..
    refine wpAny_execs_cons (callI _ _ _ _ _ S7 (lay_len (by rw [hl1]; omega)) (m - h) (L + h) (x / 2 ^ (h * k)) (.cons rfl (SEv.of Gd 4 (by kernel_rfl)) (.cons rfl (SEv.of Gd 4 (by kernel_rfl)) (.cons rfl (SEv.of Gd 4 ?_) .nil))) (by omega) (by omega) (by omega) hup0 (by rw [hpw]; exact hup) fun s₈ D₈ oa₈ S8 => ?_)
    · rw [show L + h + (m - h) = L + m by omega]; kernel_rfl
    · refine wpAny_execs_nil (fin S8 ?_)
      have e : lay cur L (digs (2 ^ k) m x) = lay (lay cur L (digs (2 ^ k) h (x % 2 ^ (h * k)))) (L + h) (digs (2 ^ k) (m - h) (x / 2 ^ (h * k))) := by
        have e1 := digs_split (B := 2 ^ k) (Int.pow_pos (by decide)) h (m - h) x
        rw [show h + (m - h) = m by omega, hpw, Nat.mul_comm k h] at e1
        have e2 := lay_two (cur := cur) (L := L) (a := digs (2 ^ k) h (x % 2 ^ (h * k))) (b := digs (2 ^ k) (m - h) (x / 2 ^ (h * k))) (by rw [hl1, hl2]; omega)
        rw [hl1] at e2
        rw [e2, e1]
      rw [e]
      kernel_rfl
end
end Mine
set_option maxRecDepth 100000
set_option linter.unusedVariables false
namespace Mine
open PySem PySem.W PyProof.Rows PySem.Calls
noncomputable def i3a (x k : Int) (l : List Int) : Sg := [("a", (false, .int x)), ("n", (false, .int k)), ("a_digits", (true, .list (l.map .int)))]
noncomputable def b3 (x k : Int) : Sg := [("a", (false, .int x)), ("n", (false, .int k))]
section
variable {W : Wd} {C : Cfg} {c3 P3 c4 P4 : Addr}
theorem i2d_ok (B : Base W c3 P3 c4 P4) (k : Nat) (hk : 1 ≤ k ∧ k ≤ 64) (x : Int) (hx0 : 0 ≤ x) (N : Nat) (hN : N = (Builtin.Int.intBits x + k - 1) / k) (hN9 : N ≤ 900) :
    Contract W (N + 2) "_int2digits" [.int x, .int k] (.list ((digs (2 ^ k) N x).map .int)) := by
  have hbN : Builtin.Int.intBits x ≤ k * N := by
    rw [hN]
    have h1 := Nat.div_add_mod (Builtin.Int.intBits x + k - 1) k
    have h2 := Nat.mod_lt (Builtin.Int.intBits x + k - 1) (show 0 < k by omega)
    omega
  have hxN : x < (2 ^ k) ^ N := by
    have h1 := intBits_le_iff.mp hbN
    have h2 : ((x.natAbs : Nat) : Int) < ((2 ^ (k * N) : Nat) : Int) := Int.ofNat_lt.mpr h1
    rw [Int.natAbs_of_nonneg hx0, Nat.pow_mul] at h2
    simpa using h2
  obtain ⟨a, o, pm, code, doc, Df⟩ := def_i2d B
  have Gd : Good W (cfg fun _ _ => none) 0 := good_of B _ (fun _ _ _ h => by cases h)
  refine ⟨a, o, _, Df.mg, Df.data, Df.obj, fun A D s vs R ok nt r => ?_⟩
  refine call_enter Df (by have := R.depth; omega) ok nt r rfl fun s₁ S => ?_
  have hcode : code = .ref c3 := by
    obtain ⟨a', o', fd', h1, h2, h3, h4⟩ := B.code3
    rw [show dnm 35 = "_int2digits" by kernel_rfl, Df.mg] at h1
    cases h1
    have e := h2 _ ok.glob
    rw [Df.obj _ ok.glob] at e
    cases e
    rw [Df.data] at h3
    cases h3
    exact h4
  generalize hL : s.heap.objs.size = L at *
  have R0 : Room (A.deeper (callEnvC (docDef (dnm 35) (prm 35) (bd W.P 35) (scp 35) pm code doc) L a)) (N + 1) := R.deeper _
  have T0 : Tri W 0 (nm W.P 35) (Def.wr (nm W.P 35)) (exec (stmtAt (bd W.P 35) 0)) (args0 ["a", "n"] [.int x, .int k]) (fun σ => σ = put (args0 ["a", "n"] [.int x, .int k]) "a_digits" (true, .list ((List.replicate N 0).map .int))) (fun _ => False) := by
    refine Tri.assignO Gd 7 (d := .list ((List.replicate N 0).map .int)) ?_ (by kernel_rfl) rfl
    have key : ∀ o : Option AV, o = some (.int (N : Int)) → (o.bind fun b => arep (.list [.int 0]) b) = some (.list ((List.replicate N 0).map .int)) := by
      intro o ho
      subst ho
      show (if -10000 ≤ (N : Int) ∧ (N : Int) ≤ 10000 then some (AV.list (List.replicate (N : Int).toNat (.int 0))) else none) = _
      rw [if_pos (by omega), List.map_replicate]; rfl
    refine Eq.trans (by kernel_rfl) (key (if (k : Int) ≠ 0 ∧ (k : Int).natAbs < big then some (.int (((Builtin.Int.intBits x : Int) + k - 1).fdiv k)) else none) ?_)
    rw [if_pos ⟨by omega, by unfold big; omega⟩, Int.fdiv_eq_ediv_of_nonneg _ (by omega)]
    have e : ((Builtin.Int.intBits x : Int) + k - 1) = ((Builtin.Int.intBits x + k - 1 : Nat) : Int) := by omega
    rw [e, hN]; rfl
  refine wpAny_execs_cons (T0.go (R0.le (Nat.zero_le _)) rfl S fun s₂ D₂ oa₂ S2 => ?_)
  have S2' := S2.weaken (σ' := i3a x k (List.replicate N 0)) (sub_of ⟨by kernel_rfl, by kernel_rfl, by kernel_rfl, trivial⟩)
  refine wpAny_execs_cons (def_stmt B (c := c3) (P := P3) (pos := pos3) (q := q3) B.t3 (.inl ⟨rfl, rfl⟩) (fun h g => ⟨(B.m3 h g).1, let ⟨ps, h1, h2, h3, _⟩ := (B.m3 h g).2; ⟨ps, h1, h2, h3⟩⟩) S2' hcode (name := "inner") (params := ipr i3) (body := ib i3) (scope := isc i3)
    (clos3 pm code doc L a) (by kernel_rfl) (by kernel_rfl) (by rfl) (by kernel_rfl) (mem_of_contains (by kernel_rfl)) (by kernel_rfl) (by kernel_rfl) fun s₃ f ci S3 hI hci hcI => ?_)
  have hci' : ci = L + 3 := by
    have : (callEnvC (docDef (dnm 35) (prm 35) (bd W.P 35) (scp 35) pm code doc) L a).cells.lookup ("inner" : Str) = some (L + 3) := by kernel_rfl
    rw [this] at hci; cases hci; rfl
  subst hci'
  -- the rest
  have last : ∀ {s₆ : Shared} {D₆ : Fz} {oa₆ : Str → Addr}, St W (callEnvC (docDef (dnm 35) (prm 35) (bd W.P 35) (scp 35) pm code doc) L a) (Def.wr (nm W.P 35)) D s (i3a x k (digs (2 ^ k) N x)) D₆ s₆ oa₆ →
      wpAny W.M (A.deeper (callEnvC (docDef (dnm 35) (prm 35) (bd W.P 35) (scp 35) pm code doc) L a)) (execs ((bd W.P 35).drop 3) (callEnvC (docDef (dnm 35) (prm 35) (bd W.P 35) (scp 35) pm code doc) L a))
        (fun fl s' => ∃ v, fl = .ret v ∧ ∃ D', Ext W D D' s s' ∧ Rep W.P D' (.list ((digs (2 ^ k) N x).map .int)) v) NoE s₆ := by
    intro s₆ D₆ oa₆ S6
    have T : Tri W 0 (nm W.P 35) (Def.wr (nm W.P 35)) (execs ((bd W.P 35).drop 3)) (i3a x k (digs (2 ^ k) N x)) (fun _ => False) (fun d => d = .list ((digs (2 ^ k) N x).map .int)) :=
      Tri.freeze ["a_digits"] (Tri.seq (Tri.ret Gd 4 (d := .list ((digs (2 ^ k) N x).map .int)) (by kernel_rfl) rfl))
    refine wpAny_mono (T.run (R0.le (Nat.zero_le _)) rfl S6) (fun fl s' h' => ?_) fun _ _ x => x
    rcases h' with ⟨_, _, _, _, hf, _⟩ | ⟨v, d, D', rfl, rfl, h3, h4⟩
    · exact hf.elim
    · exact ⟨v, rfl, D', h3, h4⟩
  have TT : STe W 0 (nm W.P 35) (i3a x k (List.replicate N 0)) (match stmtAt (bd W.P 35) 2 with | .If t _ _ _ => t | _ => .Constant .none 0 ⟨0, 0, 0, 0⟩) (x != 0) := STe.val (d := .int x) (SEv.of Gd 3 (by kernel_rfl)) rfl rfl
  refine wpAny_execs_cons (wpAny_If (wpAny_mono (TT.run (R0.le (Nat.zero_le _)) rfl S3) (fun c s₄ h₄ => ?_) fun _ _ x => x))
  obtain ⟨rfl, D₄, x₄⟩ := h₄
  have S4 := S3.step x₄
  by_cases hx : x = 0
  · have e : (x != 0) = false := by rw [hx]; rfl
    rw [e, if_neg Bool.false_ne_true]
    have hN0 : N = 0 := by
      rw [hN, hx, show Builtin.Int.intBits 0 = 0 from rfl]
      exact Nat.div_eq_of_lt (by omega)
    subst hN0
    exact wpAny_execs_nil (last (oa₆ := oa₂) S4)
  · have e : (x != 0) = true := by simpa using hx
    rw [e, if_pos rfl]
    have hN1 : 1 ≤ N := by
      rcases Nat.eq_zero_or_pos N with h | h
      · rw [h] at hxN
        simp at hxN
        omega
      · exact h
    have hlook : (i3a x k (List.replicate N 0)).lookup ("a_digits" : Str) = some (true, .list ((List.replicate N 0).map .int)) := by kernel_rfl
    obtain ⟨o2, doc2, pm2, cv2, ctv2, hf2, hfd2, hca2⟩ := id hI
    have hfT : f ∉ W.T := W.notT' S3.glob hf2 (by rw [hfd2]; nofun)
    refine wpAny_execs_cons (wpAny_Expr (call_name S4 (R0.le (Nat.zero_le _)) rfl (x := "inner") (ds := [.int x, .int ((0 : Nat) : Int), .int (((List.replicate N (0 : Int)).map AV.int).length : Int)]) (.inr ⟨.inl (by kernel_rfl), L + 3, by kernel_rfl, ?_⟩) (by kernel_rfl) (x₄.keep f _ hfT hf2) hfd2
      (.cons rfl (SEv.of Gd 4 (by kernel_rfl)) (.cons rfl (SEv.of Gd 4 (by kernel_rfl)) (.cons rfl (SEv.of Gd 4 ?_) .nil))) fun s₅ D₅ vs5 x5 r5 => ?_) (by unfold interactive; rw [S4.kind]; rfl))
    · obtain ⟨oc, g1, g2⟩ := hcI
      exact ⟨oc, x₄.keep _ oc (W.notT' S3.glob g1 (by rw [g2]; nofun)) g1, g2⟩
    · refine Eq.trans (b := if ((List.replicate N (0 : Int)).map AV.int).length ≤ 1000000 then some (.int (((List.replicate N (0 : Int)).map AV.int).length : Int)) else none) (by kernel_rfl) ?_
      rw [if_pos (by simp; omega)]
    · have S5 := S4.step x5
      have x35 := x₄.trans S3.glob x5
      obtain ⟨hvA, ⟨o5, ho5, vs5', n5, rfl, r5'⟩, hD5, h05, hlL⟩ := S5.own _ _ hlook
      obtain ⟨vN, hvN, rN⟩ := S5.fro "n" (.int k) (by kernel_rfl)
      obtain ⟨tN, rfl⟩ := rN.int'
      have cA := cell_of (c := L + 2) (by kernel_rfl) (by kernel_rfl) hvA
      have cN := cell_of (c := L + 1) (by kernel_rfl) (by kernel_rfl) hvN
      have cI : s₅.heap.IsCell (L + 3) (some (.ref f)) := by
        obtain ⟨oc, g1, g2⟩ := hcI
        exact ⟨oc, x35.keep _ oc (W.notT' S3.glob g1 (by rw [g2]; nofun)) g1, g2⟩
      have hlen : (List.replicate N (0 : Int)).length = N := by simp
      refine wpAny_mono (inner3_ok B Gd k hk N 0 x (List.replicate N 0) hN1 (by simp) (by simpa using hN9) hx0 hxN (R0.le (Nat.le_refl _)) S5.ok S5.nt S5.glob0 (fun b o hb e => S5.ext.keep b o hb e) h05 hD5 (hI.ext S3.glob (fun b o hb e => x35.keep b o hb e)) (cA := L + 2) (cI := L + 3) (cN := L + 1) (by kernel_rfl) (by kernel_rfl) (by kernel_rfl)
        cA cI cN ho5 r5' vs5 (by rw [Nat.zero_add]; simpa using r5)) (fun v s₆ h₆ => ?_) fun _ _ x => x
      obtain ⟨rfl, D₆, x6, hD6, vs6, n6, hl6, r6⟩ := h₆
      have elay : lay (List.replicate N 0) 0 (digs (2 ^ k) N x) = digs (2 ^ k) N x := by
        unfold lay
        rw [digs_len]
        simp
      rw [elay] at r6
      have S6 := (S5.weaken (σ' := b3 x k) (sub_of ⟨by kernel_rfl, by kernel_rfl, trivial⟩)).ep x6 (fun b hb => by rw [List.mem_singleton.mp hb]; exact h05) (fun b hb => by rw [List.mem_singleton.mp hb]; exact hlL)
        (fun b hb u hu => by
          rw [List.mem_singleton.mp hb] at hu
          obtain ⟨oc, g1, g2⟩ := hu
          rw [ho5] at g1; cases g1; cases g2) (fun b hb y d hy => by have := mem_of_lookup hy; simp [b3] at this)
      have hvA6 : s₆.heap.IsCell (L + 2) (some (.ref (oa₂ "a_digits"))) := by
        obtain ⟨oc, g1, g2⟩ := id cA
        exact ⟨oc, x6.keep _ oc (W.notT' S5.glob g1 (by rw [g2]; nofun)) (fun hm => by
          rw [List.mem_singleton.mp hm, ho5] at g1; cases g1; cases g2) g1, g2⟩
      refine wpAny_execs_nil (last (D₆ := D₆) (oa₆ := fun y => if y = "a_digits" then oa₂ "a_digits" else oa₂ y) ?_)
      exact (S6.addOwn (x := "a_digits") (d := .list ((digs (2 ^ k) N x).map .int)) (fun y d e => by have := mem_of_lookup e; simp [b3] at this) (.inr ⟨.inl (by kernel_rfl), L + 2, by kernel_rfl, hvA6⟩) hl6 ⟨vs6, n6, rfl, r6⟩ hD6 h05 hlL).weaken (sub_of ⟨by kernel_rfl, by kernel_rfl, by kernel_rfl, trivial⟩)
end
end Mine
set_option maxRecDepth 100000
set_option linter.unusedVariables false
namespace Mine
open PySem PySem.W PyProof.Rows PySem.Calls
open Classical in
/-- calls answered as expected, where that is shown -/
noncomputable def stdΦ (W : Wd) (lv : Nat) (res : Str → List AV → AV) (f : Str) (args : List AV) : Option AV := if Contract W lv f args (res f args) then some (res f args) else none
section
variable {W : Wd} {C : Cfg} {c3 P3 c4 P4 : Addr} {lv : Nat} {res : Str → List AV → AV}
theorem std_good (B : Base W c3 P3 c4 P4) : Good W (cfg (stdΦ W lv res)) lv := good_of B _ fun f args r h => by
  unfold stdΦ at h
  split at h
  · cases h; assumption
  · cases h
theorem std_some {f : Str} {args : List AV} {r : AV} (h : Contract W lv f args r) (e : res f args = r) : (cfg (stdΦ W lv res)).Φ f args = some r := by
  show stdΦ W lv res f args = some r
  subst e
  unfold stdΦ
  rw [if_pos h]
theorem DefAt.contract {f : Str} {params : List Str} {k : Addr} {args : List AV} {d : AV} (h : DefAt W f params k) (hl : args.length = params.length) (t : Tri W lv (nm W.P k) (Def.wr (nm W.P k)) (execs (bd W.P k)) (args0 params args) (fun _ => False) (fun d' => d' = d)) : Contract W (lv + 1) f args d :=
  let ⟨_, _, _, Df⟩ := h; contract_of Df hl t
/-! ## numbers -/
noncomputable def resA (f : Str) : List AV → AV
  | [.int a, .int b] => if f == ("_int2digits" : Str) then .list ((digs (2 ^ b.toNat) ((Builtin.Int.intBits a + b.toNat - 1) / b.toNat) a).map .int) else .tuple [.int (a.fdiv b), .int (a.fmod b)]
  | [.int a, .int b, _] => .tuple [.int (a.fdiv b), .int (a.fmod b)]
  | [.list ds, .int n] => .int (numOf (2 ^ n.toNat) (ds.filterMap aint))
  | _ => .none
theorem filterMap_aint (l : List Int) : (l.map AV.int).filterMap aint = l := by
  induction l with
  | nil => rfl
  | cons a l ih => rw [List.map_cons, List.filterMap_cons]; show a :: _ = _; rw [ih]
theorem c_div2 (B : Base W c3 P3 c4 P4) (a b n : Int) (h1 : (Builtin.Int.intBits a : Int) - n ≤ 4000) (hb : b ≠ 0 ∧ b.natAbs < big) : Contract W 1 "_div2n1n" [.int a, .int b, .int n] (.tuple [.int (a.fdiv b), .int (a.fmod b)]) :=
  (def_div2 B).contract rfl (tri_div2 (std_good (lv := 0) (res := fun _ _ => .none) B) a b n (by kernel_rfl) h1 hb)
theorem c_i2d (B : Base W c3 P3 c4 P4) (k : Nat) (hk : 1 ≤ k ∧ k ≤ 64) (x : Int) (hx0 : 0 ≤ x) (hN : (Builtin.Int.intBits x + k - 1) / k ≤ 8) : Contract W 10 "_int2digits" [.int x, .int k] (.list ((digs (2 ^ k) ((Builtin.Int.intBits x + k - 1) / k) x).map .int)) :=
  (i2d_ok B k hk x hx0 _ rfl (by omega)).le (by omega)
theorem c_d2i (B : Base W c3 P3 c4 P4) (k : Nat) (hk : 1 ≤ k ∧ k ≤ 64) (ds : List Int) (hds : ∀ d ∈ ds, 0 ≤ d ∧ d < 2 ^ k) (hN : ds.length ≤ 8) : Contract W 10 "_digits2int" [.list (ds.map .int), .int k] (.int (numOf (2 ^ k) ds)) :=
  (d2i_ok B k hk ds hds (by omega)).le (by omega)
theorem longQ_len {B b : Int} : ∀ (l : List Int) (r : Int), (longQ B b r l).1.length = l.length
  | [], r => rfl
  | d :: l, r => by simp [longQ, longQ_len l]
theorem longQ_mem {B b : Int} (hb : 0 < b) (hB : 0 < B) : ∀ (l : List Int) (r : Int), 0 ≤ r → r < b → (∀ d ∈ l, 0 ≤ d ∧ d < B) → ∀ q ∈ (longQ B b r l).1, 0 ≤ q ∧ q < B
  | [], r, _, _, _, q, hq => by simp [longQ] at hq
  | d :: l, r, h0, h1, h, q, hq => by
    simp only [longQ, List.mem_cons] at hq
    have hd := h d List.mem_cons_self
    rcases hq with rfl | hq
    · have hn : 0 ≤ r * B + d := Int.add_nonneg (Int.mul_nonneg h0 (Int.le_of_lt hB)) hd.1
      rw [Int.fdiv_eq_ediv_of_nonneg _ (Int.le_of_lt hb)]
      refine ⟨Int.ediv_nonneg hn (Int.le_of_lt hb), Int.ediv_lt_of_lt_mul hb ?_⟩
      have : (r + 1) * B ≤ b * B := Int.mul_le_mul_of_nonneg_right (by omega) (Int.le_of_lt hB)
      have e : (r + 1) * B = r * B + B := by rw [Int.add_mul, Int.one_mul]
      rw [Int.mul_comm B b]
      omega
    · exact longQ_mem hb hB l _ (Int.fmod_nonneg_of_pos _ hb) (Int.fmod_lt_of_pos _ hb) (fun d hd => h d (List.mem_cons_of_mem _ hd)) q hq
theorem c_divpos (B : Base W c3 P3 c4 P4) (a b : Int) (ha : 0 ≤ a) (hb : 0 < b) (hbig : b.natAbs < big) (hN : (Builtin.Int.intBits a + Builtin.Int.intBits b - 1) / Builtin.Int.intBits b ≤ 8) : Contract W 11 "_divmod_pos" [.int a, .int b] (.tuple [.int (a.fdiv b), .int (a.fmod b)]) := by
  obtain ⟨n, hn⟩ : ∃ n, n = Builtin.Int.intBits b := ⟨_, rfl⟩
  have hn1 : 1 ≤ n ∧ n ≤ 64 := by
    refine ⟨?_, by rw [hn]; exact intBits_small hbig⟩
    rw [hn]; unfold Builtin.Int.intBits
    rw [if_neg (by simp; omega)]; omega
  obtain ⟨N, hN'⟩ : ∃ N, N = (Builtin.Int.intBits a + n - 1) / n := ⟨_, rfl⟩
  rw [← hn, ← hN'] at hN
  have hB : (0 : Int) < 2 ^ n := Int.pow_pos (by decide)
  have hbn : b < 2 ^ n := by
    have h1 := intBits_le_iff.mp (Nat.le_of_eq hn.symm)
    have h2 : ((b.natAbs : Nat) : Int) < ((2 ^ n : Nat) : Int) := Int.ofNat_lt.mpr h1
    rw [Int.natAbs_of_nonneg (Int.le_of_lt hb)] at h2
    simpa using h2
  have haN : a < (2 ^ n) ^ N := by
    have hbN : Builtin.Int.intBits a ≤ n * N := by
      rw [hN']
      have h1 := Nat.div_add_mod (Builtin.Int.intBits a + n - 1) n
      have h2 := Nat.mod_lt (Builtin.Int.intBits a + n - 1) (show 0 < n by omega)
      omega
    have h1 := intBits_le_iff.mp hbN
    have h2 : ((a.natAbs : Nat) : Int) < ((2 ^ (n * N) : Nat) : Int) := Int.ofNat_lt.mpr h1
    rw [Int.natAbs_of_nonneg ha, Nat.pow_mul] at h2
    simpa using h2
  obtain ⟨ds, hds⟩ : ∃ ds, ds = digs (2 ^ n) N a := ⟨_, rfl⟩
  have hdl : ds.length = N := by rw [hds, digs_len]
  have hdm : ∀ d ∈ ds, 0 ≤ d ∧ d < 2 ^ n := fun d hd => digs_mem hB (by rw [hds] at hd; exact hd)
  have hnum : numOf (2 ^ n) ds = a := by rw [hds]; exact digs_num hB ha haN
  have spec := longQ_spec (B := 2 ^ n) hb ds.reverse 0
  have rest := longQ_rest (B := 2 ^ n) hb ds.reverse 0 (Int.le_refl _) hb
  rw [List.reverse_reverse, hnum, Int.zero_mul, Int.add_zero] at spec
  have e1 : numOf (2 ^ n) (longQ (2 ^ n) b 0 ds.reverse).1.reverse = a.fdiv b := by
    rw [Int.fdiv_eq_ediv_of_nonneg _ (Int.le_of_lt hb)]
    have h := Int.add_mul_ediv_right (longQ (2 ^ n) b 0 ds.reverse).2 (numOf (2 ^ n) (longQ (2 ^ n) b 0 ds.reverse).1.reverse) (show b ≠ 0 by omega)
    rw [Int.ediv_eq_zero_of_lt rest.1 rest.2, Int.zero_add, Int.add_comm, ← spec] at h
    exact h.symm
  have e2 : (longQ (2 ^ n) b 0 ds.reverse).2 = a.fmod b := by
    rw [Int.fmod_def, ← e1, spec]
    rw [Int.mul_comm]; omega
  have qm : ∀ q ∈ (longQ (2 ^ n) b 0 ds.reverse).1.reverse, 0 ≤ q ∧ q < 2 ^ n := fun q hq => longQ_mem hb hB ds.reverse 0 (Int.le_refl _) hb (fun d hd => hdm d (by simpa using hd)) q (by simpa using hq)
  have hbb : ∀ r d, 0 ≤ r → r < b → d ∈ ds → (Builtin.Int.intBits (r * 2 ^ (Builtin.Int.intBits b) + d) : Int) - (Builtin.Int.intBits b : Int) ≤ 4000 := fun r d h0 h1 hd => by
    have h3 := hdm d hd
    rw [← hn]
    have h4 : r * 2 ^ n + d < 2 ^ (n + n) := by
      rw [Int.pow_add]
      have : (r + 1) * 2 ^ n ≤ 2 ^ n * 2 ^ n := Int.mul_le_mul_of_nonneg_right (by omega) (Int.le_of_lt hB)
      rw [Int.add_mul, Int.one_mul] at this
      omega
    have := bits_le (Int.add_nonneg (Int.mul_nonneg h0 (Int.le_of_lt hB)) h3.1) h4
    omega
  have t := tri_divpos (P := W.P) (std_good (lv := 10) (res := resA) B) a b ds (a.fdiv b) ⟨hb, hbig⟩ (std_some (by rw [← hn, hds, hN']; exact c_i2d B n hn1 a ha (by rw [← hN']; exact hN)) (by rw [← hn]; show AV.list _ = _; rw [hds, hN', Int.toNat_natCast])) (by omega)
    (fun r d h0 h1 hd => std_some ((c_div2 B _ b _ (hbb r d h0 h1 hd) ⟨by omega, hbig⟩).le (by omega)) rfl)
    (std_some (by rw [← hn, ← e1]; exact c_d2i B n hn1 _ qm (by rw [List.length_reverse, longQ_len, List.length_reverse]; omega)) (by rw [← hn]; show AV.int _ = _; rw [filterMap_aint, Int.toNat_natCast, e1]))
  rw [← hn, e2] at t
  exact (def_divpos B).contract rfl t
end
end Mine
set_option maxRecDepth 100000
set_option linter.unusedVariables false
namespace Mine
open PySem PySem.W PyProof.Rows PySem.Calls
section
variable {W : Wd} {C : Cfg} {c3 P3 c4 P4 : Addr} {lv : Nat} {res : Str → List AV → AV}
theorem fdiv_not {a b : Int} (hb : 0 < b) : -((-a - 1).fdiv b) - 1 = a.fdiv b ∧ b + (-((-a - 1).fmod b) - 1) = a.fmod b := by
  have h1 := Int.mul_fdiv_add_fmod (-a - 1) b
  have h2 := Int.fmod_nonneg_of_pos (-a - 1) hb
  have h3 := Int.fmod_lt_of_pos (-a - 1) hb
  generalize (-a - 1).fdiv b = q at *
  generalize (-a - 1).fmod b = r at *
  have e : a = (b + (-r - 1)) + (-q - 1) * b := by grind
  have e1 : a.fdiv b = -q - 1 := by
    rw [Int.fdiv_eq_ediv_of_nonneg _ (Int.le_of_lt hb), e, Int.add_mul_ediv_right _ _ (by omega), Int.ediv_eq_zero_of_lt (by omega) (by omega), Int.zero_add]
  refine ⟨e1.symm, ?_⟩
  rw [Int.fmod_def, e1]
  grind
/-- the numbers that int_divmod is asked -/
noncomputable def Fit (a b : Int) : Prop := (Builtin.Int.intBits a + Builtin.Int.intBits b - 1) / Builtin.Int.intBits b ≤ 8
theorem c_divmod_nn (B : Base W c3 P3 c4 P4) (a b : Int) (ha : 0 ≤ a) (hb : 0 < b) (hbig : b.natAbs < big) (hN : Fit a b) : Contract W 12 "int_divmod" [.int a, .int b] (.tuple [.int (a.fdiv b), .int (a.fmod b)]) :=
  (def_divmod B).contract rfl (tri_divmod_nn (std_good (lv := 11) (res := resA) B) a b _ _ ha hb (std_some (c_divpos B a b ha hb hbig hN) rfl))
theorem c_divmod (B : Base W c3 P3 c4 P4) (a b : Int) (hb : 0 < b) (hbig : b.natAbs < big) (hN : Fit a b) (hN' : a < 0 → Fit (-a - 1) b) : Contract W 13 "int_divmod" [.int a, .int b] (.tuple [.int (a.fdiv b), .int (a.fmod b)]) := by
  by_cases ha : 0 ≤ a
  · exact (c_divmod_nn B a b ha hb hbig hN).le (by omega)
  · have e := fdiv_not (a := a) hb
    have t := tri_divmod_neg (P := W.P) (std_good (lv := 12) (res := resA) B) a b _ _ (by omega) hb (std_some (c_divmod_nn B (-a - 1) b (by omega) hb hbig (hN' (by omega))) rfl)
    rw [e.1, e.2] at t
    exact (def_divmod B).contract rfl t
/-! ## the book -/
noncomputable def resB : Str → List AV → AV
  | _, [.dict t, .dict [(k, .int c)]] => .dict (addc t k c)
  | _, [.tuple [.int b1, .int b2, .int b3, .int b4, .dict t], .tuple [.int a1, .int a2, .int a3, .int a4, .dict [(k, .int c)]]] => .tuple [.int (a1 + b1), .int (a2 + b2), .int (a3 + b3), .int (a4 + b4), .dict (addc t k c)]
  | _, [.dict m] => .int ((m.map (·.2)).filterMap aint).sum
  | _, _ => .none
structure DictOk (t : List (Str × AV)) : Prop where
  nd : (t.map (·.1)).Nodup
  len : t.length ≤ 900
  allI : ∀ k d, dget t k = some d → ∃ v, d = .int v
theorem c_callers (B : Base W c3 P3 c4 P4) (t : List (Str × AV)) (k : Str) (c : Int) (h : DictOk t) : Contract W 1 "add_callers" [.dict t, .dict [(k, .int c)]] (.dict (addc t k c)) :=
  (def_callers B).contract rfl (tri_addc (std_good (lv := 0) (res := fun _ _ => .none) B) t k c h.nd h.len (h.allI k))
theorem c_stats (B : Base W c3 P3 c4 P4) (a1 a2 a3 a4 b1 b2 b3 b4 : Int) (t : List (Str × AV)) (k : Str) (c : Int) (h : DictOk t) :
    Contract W 2 "add_func_stats" [.tuple [.int b1, .int b2, .int b3, .int b4, .dict t], .tuple [.int a1, .int a2, .int a3, .int a4, .dict [(k, .int c)]]] (.tuple [.int (a1 + b1), .int (a2 + b2), .int (a3 + b3), .int (a4 + b4), .dict (addc t k c)]) :=
  (def_stats B).contract rfl (tri_stats (std_good (lv := 1) (res := resB) B) a1 a2 a3 a4 b1 b2 b3 b4 [(k, .int c)] t _ (std_some (c_callers B t k c h) rfl))
theorem c_count (B : Base W c3 P3 c4 P4) (m : List (Str × AV)) (is : List Int) (h : m.map (·.2) = is.map .int) (hl : m.length ≤ 1000) : Contract W 1 "count_calls" [.dict m] (.int is.sum) :=
  (def_count B).contract rfl (tri_count (std_good (lv := 0) (res := fun _ _ => .none) B) m is h hl)
/-- entries stay well-formed -/
structure EOk (e : Nat → Ent) : Prop where
  ok : ∀ i, (e i).t.map (·.1) ⊆ [nA, nB, nC, nD] ∧ ((e i).t.map (·.1)).Nodup ∧ ∃ is : List Int, (e i).t.map (·.2) = is.map .int
theorem dget_mem {m : List (Str × AV)} {k : Str} {d : AV} (h : dget m k = some d) : (k, d) ∈ m := by
  induction m with
  | nil => cases h
  | cons p r ih =>
    obtain ⟨a, b⟩ := p
    unfold dget at h
    split at h
    · rename_i e; cases h; rw [e]; exact List.mem_cons_self
    · exact List.mem_cons_of_mem _ (ih h)
theorem dput_key {m : List (Str × AV)} {k : Str} {d : AV} : ∀ x, x ∈ (dput m k d).map (·.1) ↔ x = k ∨ x ∈ m.map (·.1) := by
  induction m with
  | nil => intro x; simp [dput]
  | cons p r ih =>
    obtain ⟨a, b⟩ := p
    intro x
    unfold dput
    split
    · rename_i e; subst e; simp
    · simp only [List.map_cons, List.mem_cons, ih]
      constructor
      · rintro (h | h | h) <;> simp [h]
      · rintro (h | h | h) <;> simp [h]
theorem dput_nd {m : List (Str × AV)} {k : Str} {d : AV} (h : (m.map (·.1)).Nodup) : ((dput m k d).map (·.1)).Nodup := by
  induction m with
  | nil => simp [dput]
  | cons p r ih =>
    obtain ⟨a, b⟩ := p
    rw [List.map_cons, List.nodup_cons] at h
    unfold dput
    split
    · rename_i e; subst e; rw [List.map_cons, List.nodup_cons]; exact h
    · rename_i e
      rw [List.map_cons, List.nodup_cons]
      exact ⟨fun hm => ((dput_key _).mp hm).elim (fun h' => e h'.symm) h.1, ih h.2⟩
theorem dput_ints {m : List (Str × AV)} {k : Str} {c : Int} (h : ∃ is : List Int, m.map (·.2) = is.map .int) : ∃ is : List Int, (dput m k (.int c)).map (·.2) = is.map .int := by
  obtain ⟨is, h⟩ := h
  induction m generalizing is with
  | nil => exact ⟨[c], rfl⟩
  | cons p r ih =>
    obtain ⟨a, b⟩ := p
    cases is with
    | nil => simp at h
    | cons i is =>
      simp only [List.map_cons, List.cons.injEq] at h
      unfold dput
      split
      · exact ⟨c :: is, by simp [h.2]⟩
      · obtain ⟨js, hj⟩ := ih is h.2
        exact ⟨i :: js, by simp [h.1, hj]⟩
theorem DictOk.of {t : List (Str × AV)} (h : t.map (·.1) ⊆ [nA, nB, nC, nD] ∧ (t.map (·.1)).Nodup ∧ ∃ is : List Int, t.map (·.2) = is.map .int) : DictOk t := by
  refine ⟨h.2.1, ?_, fun k d hd => ?_⟩
  · have := List.Nodup.length_le_of_subset h.2.1 h.1
    simp at this; omega
  · obtain ⟨is, hi⟩ := h.2.2
    have hm : d ∈ t.map (·.2) := List.mem_map.mpr ⟨_, dget_mem hd, rfl⟩
    rw [hi] at hm
    obtain ⟨v, _, rfl⟩ := List.mem_map.mp hm
    exact ⟨v, rfl⟩
end
end Mine
set_option maxRecDepth 100000
set_option linter.unusedVariables false
namespace Mine
open PySem PySem.W PyProof.Rows PySem.Calls
theorem nam_mem (j : Nat) : nam j ∈ [nA, nB, nC, nD] := by
  unfold nam
  split <;> simp
theorem nam_inj {i j : Nat} (hi : i < 4) (hj : j < 4) (h : nam i = nam j) : i = j := by
  rcases nat4 hi with rfl | rfl | rfl | rfl <;> rcases nat4 hj with rfl | rfl | rfl | rfl <;> first | rfl | exact absurd h (by decide)
theorem dget_put {m : List (Str × AV)} {k : Str} {d : AV} (x : Str) : dget (dput m k d) x = if x = k then some d else dget m x := by
  induction m with
  | nil => unfold dput dget dget; rfl
  | cons p r ih =>
    obtain ⟨a, b⟩ := p
    unfold dput
    by_cases h : k = a
    · subst h
      rw [if_pos rfl]
      unfold dget
      by_cases hx : x = k
      · rw [if_pos hx, if_pos hx]
      · rw [if_neg hx, if_neg hx, if_neg hx]
    · rw [if_neg h]
      unfold dget
      rw [ih]
      by_cases hx : x = a
      · subst hx
        rw [if_pos rfl, if_pos rfl, if_neg (Ne.symm h)]
      · rw [if_neg hx, if_neg hx]
noncomputable def sumv (t : List (Str × AV)) : Int := ((t.map (·.2)).filterMap aint).sum
theorem sumv_cons (a : Str) (b : AV) (r : List (Str × AV)) : sumv ((a, b) :: r) = (aint b).getD 0 + sumv r := by
  unfold sumv
  rw [List.map_cons, List.filterMap_cons]
  cases aint b with
  | none => simp
  | some v => simp
theorem sumv_put {t : List (Str × AV)} {k : Str} {v : Int} : sumv (dput t k (.int v)) = sumv t - getI t k + v := by
  induction t with
  | nil => simp [dput, sumv, getI, dget, aint]
  | cons p r ih =>
    obtain ⟨a, b⟩ := p
    unfold dput
    by_cases h : k = a
    · subst h
      rw [if_pos rfl, sumv_cons, sumv_cons]
      have e : getI ((k, b) :: r) k = (aint b).getD 0 := by
        unfold getI dget
        rw [if_pos rfl]
        cases b <;> rfl
      rw [e]
      show v + _ = _
      omega
    · rw [if_neg h, sumv_cons, sumv_cons, ih]
      have e : getI ((a, b) :: r) k = getI r k := by
        unfold getI
        rw [show dget ((a, b) :: r) k = dget r k by rw [dget, if_neg h]]
      rw [e]
      omega
noncomputable def TOk (t : List (Str × AV)) : Prop := t.map (·.1) ⊆ [nA, nB, nC, nD] ∧ (t.map (·.1)).Nodup ∧ ∃ is : List Int, t.map (·.2) = is.map .int
theorem addc_eq {t : List (Str × AV)} (h : TOk t) (k : Str) (c : Int) : addc t k c = dput t k (.int (getI t k + c)) := by
  unfold addc getI
  cases q : dget t k with
  | none => dsimp only; rw [Int.zero_add]
  | some d =>
    obtain ⟨v, rfl⟩ := (DictOk.of h).allI k d q
    rfl
theorem TOk.add {t : List (Str × AV)} (h : TOk t) (j : Nat) (c : Int) : TOk (addc t (nam j) c) := by
  rw [addc_eq h]
  refine ⟨fun x hx => ?_, dput_nd h.2.1, dput_ints h.2.2⟩
  rcases (dput_key x).mp hx with rfl | hx
  · exact nam_mem j
  · exact h.1 hx
theorem addc_sum {t : List (Str × AV)} (h : TOk t) (k : Str) (c : Int) : sumv (addc t k c) = sumv t + c := by
  rw [addc_eq h, sumv_put]; omega
theorem addc_get {t : List (Str × AV)} (h : TOk t) (k : Str) (c : Int) (x : Str) : getI (addc t k c) x = getI t x + if x = k then c else 0 := by
  rw [addc_eq h]
  by_cases hx : x = k
  · subst hx
    rw [if_pos rfl]
    unfold getI
    rw [dget_put, if_pos rfl]
  · rw [if_neg hx]
    unfold getI
    rw [dget_put, if_neg hx, Int.add_zero]
theorem sumv_is {t : List (Str × AV)} {is : List Int} (h : t.map (·.2) = is.map .int) : sumv t = is.sum := by
  unfold sumv; rw [h, filterMap_aint]
noncomputable def ccI (cs : List Cal) (i : Nat) : Int := ((cs.filter fun x => (x.p == i) && (x.q != i)).map (·.c)).sum
structure BookAt (e e' : Nat → Ent) (cs : List Cal) : Prop where
  ok : ∀ i, TOk (e' i).t
  nc : ∀ i : Nat, (e' i).nc = (e i).nc + madeI cs i
  cc : ∀ i : Nat, (e' i).cc = (e i).cc + ccI cs i
  sum : ∀ i : Nat, sumv (e' i).t = sumv (e i).t + madeI cs i
  get : ∀ i j : Nat, j < 4 → getI (e' i).t (nam j) = getI (e i).t (nam j) + wt cs i j
theorem book_at : ∀ (cs : List Cal) (e : Nat → Ent), (∀ x ∈ cs, x.ok) → (∀ i, TOk (e i).t) → BookAt e (enterAll e cs) cs
  | [], e, _, h => ⟨h, fun i => (Int.add_zero _).symm, fun i => (Int.add_zero _).symm, fun i => (Int.add_zero _).symm, fun i j _ => (Int.add_zero _).symm⟩
  | ⟨p, q, c⟩ :: cs, e, hc, h => by
    obtain ⟨hp, hq⟩ := hc _ List.mem_cons_self
    have h1 : ∀ i, TOk (enter e p q c i).t := fun i => by
      unfold enter
      split
      · exact (h p).add q c
      · exact h i
    have ih := book_at cs (enter e p q c) (fun x hx => hc x (List.mem_cons_of_mem _ hx)) h1
    have ev : ∀ i : Nat, ((p : Int) == (i : Int)) = (p == i) := fun i => by
      by_cases h : p = i
      · subst h; simp
      · have : (p : Int) ≠ i := by omega
        rw [beq_eq_false_iff_ne.mpr h, beq_eq_false_iff_ne.mpr this]
    refine ⟨ih.ok, fun i => ?_, fun i => ?_, fun i => ?_, fun i j hj => ?_⟩
    · show (enterAll (enter e p q c) cs i).nc = _
      rw [ih.nc]
      have e1 : madeI (⟨p, q, c⟩ :: cs) i = (if p = i then c else 0) + madeI cs i := by
        unfold madeI
        rw [List.filter_cons, ev]
        by_cases h : p = i
        · simp [h]
        · simp [h]
      rw [e1]
      unfold enter
      by_cases hi : i = p
      · subst hi; rw [if_pos rfl, if_pos rfl]; show c + _ + _ = _; omega
      · rw [if_neg hi, if_neg (Ne.symm hi)]; omega
    · show (enterAll (enter e p q c) cs i).cc = _
      rw [ih.cc]
      have e1 : ccI (⟨p, q, c⟩ :: cs) i = (if p = i then (if p = q then 0 else c) else 0) + ccI cs i := by
        unfold ccI
        rw [List.filter_cons]
        by_cases h : p = i
        · subst h
          by_cases h2 : p = q
          · simp [h2]
          · simp [h2, Ne.symm h2]
        · simp [h]
      rw [e1]
      unfold enter
      by_cases hi : i = p
      · subst hi; rw [if_pos rfl, if_pos rfl]; show (if i = q then 0 else c) + _ + _ = _; omega
      · rw [if_neg hi, if_neg (Ne.symm hi)]; omega
    · show sumv (enterAll (enter e p q c) cs i).t = _
      rw [ih.sum]
      have e1 : madeI (⟨p, q, c⟩ :: cs) i = (if p = i then c else 0) + madeI cs i := by
        unfold madeI
        rw [List.filter_cons, ev]
        by_cases h : p = i
        · simp [h]
        · simp [h]
      rw [e1]
      unfold enter
      by_cases hi : i = p
      · subst hi; rw [if_pos rfl, if_pos rfl]; show sumv (addc _ _ _) + _ = _; rw [addc_sum (h i)]; omega
      · rw [if_neg hi, if_neg (Ne.symm hi)]; omega
    · show getI (enterAll (enter e p q c) cs i).t (nam j) = _
      rw [ih.get i j hj]
      have ev2 : ((q : Int) == (j : Int)) = (q == j) := by
        by_cases h : q = j
        · subst h; simp
        · have : (q : Int) ≠ j := by omega
          rw [beq_eq_false_iff_ne.mpr h, beq_eq_false_iff_ne.mpr this]
      have e1 : wt (⟨p, q, c⟩ :: cs) i j = (if p = i then (if q = j then c else 0) else 0) + wt cs i j := by
        unfold wt
        rw [List.filter_cons]
        show (List.map _ (if (((p : Int) == (i : Int)) && ((q : Int) == (j : Int))) = true then _ else _)).sum = _
        rw [ev, ev2]
        by_cases h : p = i
        · by_cases h2 : q = j
          · simp [h, h2]
          · simp [h, h2]
        · simp [h]
      rw [e1]
      unfold enter
      by_cases hi : i = p
      · subst hi
        rw [if_pos rfl, if_pos rfl]
        show getI (addc _ _ _) _ + _ = _
        rw [addc_get (h i)]
        by_cases hqj : q = j
        · subst hqj; rw [if_pos rfl, if_pos rfl]; omega
        · rw [if_neg hqj, if_neg (fun h' => hqj (nam_inj hj hq h').symm)]; omega
      · rw [if_neg hi, if_neg (Ne.symm hi)]; omega
section
variable {W : Wd} {c3 P3 c4 P4 : Addr}
theorem all_stats (B : Base W c3 P3 c4 P4) : ∀ (cs : List Cal) (e : Nat → Ent), (∀ i, TOk (e i).t) → AllStats (cfg (stdΦ W 2 resB)) e cs
  | [], _, _ => trivial
  | ⟨p, q, c⟩ :: cs, e, h => ⟨std_some (c_stats B _ _ _ _ _ _ _ _ _ _ _ (DictOk.of (h p))) rfl, all_stats B cs _ fun i => by
      show TOk (enter e p q c i).t
      unfold enter
      split
      · exact (h p).add q c
      · exact h i⟩
theorem ent0_ok : ∀ i, TOk (ent0 i).t := fun i => ⟨nofun, List.nodup_nil, [], rfl⟩
theorem c_book (B : Base W c3 P3 c4 P4) (cs : List Cal) (hc : ∀ x ∈ cs, x.ok) (hl : cs.length ≤ 1000) : Contract W 3 "_law_book" [callsV cs, .list namesV] (.dict (bookV (enterAll ent0 cs))) :=
  (def_book B).contract rfl (tri_book (std_good (lv := 2) (res := resB) B) cs hc hl (all_stats B cs ent0 ent0_ok))
end
end Mine
set_option maxRecDepth 100000
set_option linter.unusedVariables false
namespace Mine
open PySem PySem.W PyProof.Rows PySem.Calls
section
variable {W : Wd} {c3 P3 c4 P4 : Addr}
theorem tri_std {Φ : Str → List AV → Option AV} {lv : Nat} (Gd : Good W (cfg Φ) lv) (fn : AV) (x : Str) (h1 : atest (cfg Φ) 6 (nm W.P 70) (args0 ["func_name"] [fn]) (match stmtAt (bd W.P 70) 0 with | .If t _ _ _ => t | _ => .Constant .none 0 ⟨0, 0, 0, 0⟩) = some false)
    (h2 : aeval (cfg Φ) 6 (nm W.P 70) (args0 ["func_name"] [fn]) (match stmtAt (match stmtAt (bd W.P 70) 0 with | .If _ _ o _ => o | _ => []) 0 with | .Return (some e) _ => e | _ => .Constant .none 0 ⟨0, 0, 0, 0⟩) = some (.str x)) :
    Tri W lv (nm W.P 70) (Def.wr (nm W.P 70)) (execs (bd W.P 70)) (args0 ["func_name"] [fn]) (fun _ => False) (fun d => d = .str x) :=
  Tri.seq (Tri.ite Gd 6 (b := false) h1 (fun h => by cases h) fun _ => Tri.seq (Tri.ret Gd 6 h2 rfl))
theorem c_std0 (B : Base W c3 P3 c4 P4) : Contract W 1 "func_std_string" [fn0] (.str nA) :=
  (def_std B).contract rfl (tri_std (std_good (lv := 0) (res := fun _ _ => .none) B) fn0 nA (by kernel_rfl) (by kernel_rfl))
theorem c_std1 (B : Base W c3 P3 c4 P4) : Contract W 1 "func_std_string" [fn1] (.str nB) :=
  (def_std B).contract rfl (tri_std (std_good (lv := 0) (res := fun _ _ => .none) B) fn1 nB (by kernel_rfl) (by kernel_rfl))
theorem c_std2 (B : Base W c3 P3 c4 P4) : Contract W 1 "func_std_string" [fn2] (.str nC) :=
  (def_std B).contract rfl (tri_std (std_good (lv := 0) (res := fun _ _ => .none) B) fn2 nC (by kernel_rfl) (by kernel_rfl))
theorem c_std3 (B : Base W c3 P3 c4 P4) : Contract W 1 "func_std_string" [fn3] (.str nD) := by
  have Gd := std_good (lv := 0) (res := fun _ _ => .none) B
  refine (def_std B).contract rfl (Tri.seq (Tri.ite Gd 6 (b := true) (by kernel_rfl) (fun _ => ?_) fun h => by cases h))
  refine Tri.seq (Tri.assign Gd 6 (d := .str "<f>") (by kernel_rfl) (by kernel_rfl) rfl ?_)
  exact Tri.seq (Tri.ite Gd 6 (b := true) (by kernel_rfl) (fun _ => Tri.seq (Tri.ret Gd 6 (d := .str nD) (by kernel_rfl) rfl)) fun h => by cases h)
end
end Mine
set_option maxRecDepth 100000
set_option linter.unusedVariables false
namespace Mine
open PySem PySem.W PyProof.Rows PySem.Calls
noncomputable def wsA (f e : Str) : List Str := if f.length = 0 then [f, e] else [e]
noncomputable def spA (f : Str) : Int := if f.length = 0 then 0 else f.length
noncomputable def wsB (f e : Str) : List Str := if e.length = 0 then wsA f e else (wsA f e).dropLast
noncomputable def epB (g e : Str) : Int := if e.length = 0 then g.length else (g.length : Int) - e.length
noncomputable def gσ (g : Str) (ws : List Str) (sp ep : Int) : Sg := [("got", (false, .str g)), ("ws", (true, .list (ws.map .str))), ("startpos", (false, .int sp)), ("endpos", (false, .int ep))]
noncomputable def gσw (g : Str) (ws : List Str) (sp ep : Int) (w : Str) : Sg := [("got", (false, .str g)), ("ws", (true, .list (ws.map .str))), ("startpos", (false, .int sp)), ("endpos", (false, .int ep)), ("w", (false, .str w))]
section
variable {W : Wd} {C : Cfg} {lv : Nat} {P : Params} {N : Sg → Prop} {Rt : AV → Prop}
theorem atest_str {f : Str} (hf : f.length ≤ 1000000) : atru (.str f) = some (decide (f.length ≠ 0)) := by
  show (if f.length ≤ 1000000 then some (f.length != 0) else none) = _
  rw [if_pos hf]
  by_cases h : f.length = 0 <;> simp [h]
/-- the front -/
theorem tri_ell5 (Gd : Good W C lv) (f e g : Str) (hf : f.length ≤ 1000) (hg : g.length ≤ 1000) (hN : (f.length ≠ 0 → Txt.startswith g f = true) → ∀ σ, Sub (gσ g (wsA f e) (spA f) g.length) σ → N σ) (hR : f.length ≠ 0 → Txt.startswith g f = false → Rt (.bool false)) :
    Tri W lv (nm P 63) (Def.wr (nm P 63)) (exec (stmtAt (bd P 63) 5)) (gσw g [f, e] 0 g.length f) N Rt := by
  refine Tri.iteS (b := decide (f.length ≠ 0)) (STe.val (d := .str f) (SEv.of Gd 5 (by kernel_rfl)) (atest_str (by omega)) rfl) (fun h => ?_) fun h => ?_
  · have h := of_decide_eq_true h
    have e1 : wsA f e = [e] := if_neg h
    have e2 : spA f = f.length := if_neg h
    rw [e1, e2] at hN
    refine Tri.seq (Tri.ite Gd 5 (b := Txt.startswith g f) (by kernel_rfl) (fun hs => ?_) fun hs => Tri.seq (Tri.ret Gd 5 (d := .bool false) (by kernel_rfl) (hR h hs)))
    refine Tri.seq (Tri.assign Gd 5 (d := .int f.length) ?_ (by kernel_rfl) rfl ?_)
    · refine Eq.trans (b := if f.length ≤ 1000000 then some (.int (f.length : Int)) else none) (by kernel_rfl) ?_
      rw [if_pos (by omega)]
    · refine Tri.seq (Tri.del Gd 5 (l := [.str f, .str e]) (k := 0) (j := 0) (by kernel_rfl) (by kernel_rfl) (by kernel_rfl) (by kernel_rfl) (by simp) (Tri.nil (Tri.nil (hN (fun _ => hs) _ (sub_of ⟨by kernel_rfl, by kernel_rfl, by kernel_rfl, by kernel_rfl, trivial⟩)))))
  · have h : f.length = 0 := Decidable.not_not.mp (of_decide_eq_false h)
    have e1 : wsA f e = [f, e] := if_pos h
    have e2 : spA f = 0 := if_pos h
    rw [e1, e2] at hN
    exact Tri.nil (hN (fun h' => absurd h h') _ (sub_of ⟨by kernel_rfl, by kernel_rfl, by kernel_rfl, by kernel_rfl, trivial⟩))
/-- the end -/
theorem tri_ell7 (Gd : Good W C lv) (f e g : Str) (sp : Int) (he : e.length ≤ 1000) (hg : g.length ≤ 1000) (hN : (e.length ≠ 0 → Txt.endswith g e = true) → ∀ σ, Sub (gσ g (wsB f e) sp (epB g e)) σ → N σ) (hR : e.length ≠ 0 → Txt.endswith g e = false → Rt (.bool false)) :
    Tri W lv (nm P 63) (Def.wr (nm P 63)) (exec (stmtAt (bd P 63) 7)) (gσw g (wsA f e) sp g.length e) N Rt := by
  refine Tri.iteS (b := decide (e.length ≠ 0)) (STe.val (d := .str e) (SEv.of Gd 5 (by kernel_rfl)) (atest_str (by omega)) rfl) (fun h => ?_) fun h => ?_
  · have h := of_decide_eq_true h
    have e1 : wsB f e = (wsA f e).dropLast := if_neg h
    have e2 : epB g e = (g.length : Int) - e.length := if_neg h
    rw [e1, e2] at hN
    refine Tri.seq (Tri.ite Gd 5 (b := Txt.endswith g e) (by kernel_rfl) (fun hs => ?_) fun hs => Tri.seq (Tri.ret Gd 5 (d := .bool false) (by kernel_rfl) (hR h hs)))
    refine Tri.seq (Tri.aug Gd 5 (d₀ := .int g.length) (d₁ := .int e.length) (d := .int ((g.length : Int) - e.length)) (by kernel_rfl) (by kernel_rfl) ?_ rfl (by kernel_rfl) ?_)
    · refine Eq.trans (b := if e.length ≤ 1000000 then some (.int (e.length : Int)) else none) (by kernel_rfl) ?_
      rw [if_pos (by omega)]
    · by_cases hf : f.length = 0
      · have ew : wsA f e = [f, e] := if_pos hf
        rw [ew] at hN ⊢
        exact Tri.seq (Tri.del Gd 5 (l := [.str f, .str e]) (k := -1) (j := 1) (by kernel_rfl) (by kernel_rfl) (by kernel_rfl) (by kernel_rfl) (by simp) (Tri.nil (Tri.nil (hN (fun _ => hs) _ (sub_of ⟨by kernel_rfl, by kernel_rfl, by kernel_rfl, by kernel_rfl, trivial⟩)))))
      · have ew : wsA f e = [e] := if_neg hf
        rw [ew] at hN ⊢
        exact Tri.seq (Tri.del Gd 5 (l := [.str e]) (k := -1) (j := 0) (by kernel_rfl) (by kernel_rfl) (by kernel_rfl) (by kernel_rfl) (by simp) (Tri.nil (Tri.nil (hN (fun _ => hs) _ (sub_of ⟨by kernel_rfl, by kernel_rfl, by kernel_rfl, by kernel_rfl, trivial⟩)))))
  · have h : e.length = 0 := Decidable.not_not.mp (of_decide_eq_false h)
    have e1 : wsB f e = wsA f e := if_pos h
    have e2 : epB g e = g.length := if_pos h
    rw [e1, e2] at hN
    exact Tri.nil (hN (fun h' => absurd h h') _ (sub_of ⟨by kernel_rfl, by kernel_rfl, by kernel_rfl, by kernel_rfl, trivial⟩))
end
end Mine
set_option maxRecDepth 100000
set_option linter.unusedVariables false
namespace Mine
open PySem PySem.W PyProof.Rows PySem.Calls
noncomputable def ellB (f e g : Str) : Bool := (decide (f.length = 0) || Txt.startswith g f) && ((decide (e.length = 0) || Txt.endswith g e) && !decide (epB g e < spA f))
structure SplitOk (w f e : Str) : Prop where
  has : Txt.contains w "..." = true
  h1 : (decide (w.length < ("..." : Str).length) || decide (Builtin.Str.strKind w < Builtin.Str.strKind "...")) = false
  hf : (Builtin.Str.occurrences w "..." 0 w.length (w.length + 1)).isEmpty = false
  parts : Builtin.Str.partsBetween w (Builtin.Str.occurrences w "..." 0 w.length (w.length + 1)) ("..." : Str).length = [f, e]
  lw : w.length ≤ 1000
section
variable {W : Wd} {C : Cfg} {lv : Nat} {P : Params} {N : Sg → Prop} {Rt : AV → Prop}
theorem tri_ell (Gd : Good W C lv) (hG : C.Γ "ELLIPSIS_MARKER" = some (.str "...")) (f e g w : Str) (hs : SplitOk w f e) (hf : f.length ≤ 1000) (he : e.length ≤ 1000) (hg : g.length ≤ 1000) (hE : ∀ x ∈ wsB f e, x = "")
    (hfind : ¬ epB g e < spA f → 0 ≤ spA f → afind g "" (spA f).toNat (epB g e).toNat = spA f) :
    Tri W lv (nm P 63) (Def.wr (nm P 63)) (execs (bd P 63)) (args0 ["want", "got"] [.str w, .str g]) (fun _ => False) (fun d => d = .bool (ellB f e g)) := by
  refine Tri.seq (Tri.iteS (b := false) (STe.cmp (a := .str "...") (b := .str w) (SEv.name Gd (Eq.trans (b := C.Γ "ELLIPSIS_MARKER") (by kernel_rfl) hG)) (SEv.of Gd 5 (by kernel_rfl)) ?_ rfl) (fun h => by cases h) fun _ => Tri.nil ?_)
  · show some (!Txt.contains w "...") = _
    rw [hs.has]; rfl
  refine Tri.seq (Tri.assignSplit Gd 5 (s1 := w) (s2 := "...") (by kernel_rfl) (Eq.trans (b := C.Γ "ELLIPSIS_MARKER") (by kernel_rfl) hG) rfl rfl rfl hs.h1 (by decide +kernel) hs.hf hs.lw hs.parts (by simp) (by kernel_rfl) ?_)
  refine Tri.seq (Tri.assert Gd 6 (by kernel_rfl) ?_)
  refine Tri.seq (Tri.assign2 Gd 6 (d1 := .int 0) (d2 := .int g.length) ?_ (by kernel_rfl) (by kernel_rfl) ?_ ?_)
  · refine Eq.trans (b := (omap id [some (.int 0), (if g.length ≤ 1000000 then some (AV.int (g.length : Int)) else none)]).map .tuple) (by kernel_rfl) ?_
    rw [if_pos (by omega)]; rfl
  · intro env h1 h2
    rcases env with ⟨scope, _⟩
    rcases scope with ⟨kind, names, _⟩
    dsimp only at h1 h2
    subst h1 h2
    kernel_rfl
  refine Tri.seq (Tri.assign Gd 6 (d := .str f) (by kernel_rfl) (by kernel_rfl) rfl ?_)
  refine Tri.weaken (σ' := gσw g [f, e] 0 g.length f) (sub_of ⟨by kernel_rfl, by kernel_rfl, by kernel_rfl, by kernel_rfl, by kernel_rfl, trivial⟩) ?_
  have spn : 0 ≤ spA f := by unfold spA; split <;> omega
  refine Tri.seq (tri_ell5 Gd f e g hf hg (fun hs5 σ hsub => Tri.weaken hsub ?_) fun h1 h2 => ?_)
  rotate_left
  · show AV.bool false = .bool (ellB f e g)
    unfold ellB
    rw [decide_eq_false h1, h2]; rfl
  refine Tri.seq (Tri.assign Gd 6 (d := .str e) ?_ (by kernel_rfl) rfl ?_)
  · by_cases h : f.length = 0
    · rw [show wsA f e = [f, e] from if_pos h]; kernel_rfl
    · rw [show wsA f e = [e] from if_neg h]; kernel_rfl
  refine Tri.weaken (σ' := gσw g (wsA f e) (spA f) g.length e) (sub_of ⟨by kernel_rfl, by kernel_rfl, by kernel_rfl, by kernel_rfl, by kernel_rfl, trivial⟩) ?_
  have a1 : (decide (f.length = 0) || Txt.startswith g f) = true := by
    by_cases h : f.length = 0
    · rw [decide_eq_true h]; rfl
    · rw [hs5 h]; simp
  refine Tri.seq (tri_ell7 Gd f e g (spA f) he hg (fun hs7 σ hsub => Tri.weaken hsub ?_) fun h1 h2 => ?_)
  rotate_left
  · show AV.bool false = .bool (ellB f e g)
    unfold ellB
    rw [a1, decide_eq_false h1, h2]; rfl
  have a2 : (decide (e.length = 0) || Txt.endswith g e) = true := by
    by_cases h : e.length = 0
    · rw [decide_eq_true h]; rfl
    · rw [hs7 h]; simp
  have ev : ellB f e g = !decide (epB g e < spA f) := by unfold ellB; rw [a1, a2]; rfl
  refine Tri.seq (Tri.ite Gd 6 (b := decide (epB g e < spA f)) (by kernel_rfl) (fun h => Tri.seq (Tri.ret Gd 6 (d := .bool false) (by kernel_rfl) (by rw [ev, h]; rfl))) fun h => Tri.nil ?_)
  rw [h] at ev
  have hlt := of_decide_eq_false h
  have hfd := hfind hlt spn
  refine Tri.freeze ["ws"] ?_
  refine Tri.seq (Tri.for_ Gd 6 (items := (wsB f e).map .str) ?_ (fun k σ₁ => Sub [("got", (false, .str g)), ("startpos", (false, .int (spA f))), ("endpos", (false, .int (epB g e)))] σ₁) ?_ ?_ ?_)
  · refine Eq.trans (b := if ((wsB f e).map AV.str).length ≤ 1000 then some ((wsB f e).map AV.str) else none) (by kernel_rfl) ?_
    rw [if_pos]
    unfold wsB wsA
    split <;> split <;> simp
  · exact sub_of ⟨by kernel_rfl, by kernel_rfl, by kernel_rfl, trivial⟩
  · intro k d σ₁ hk hsub
    have hd : d = .str "" := by
      have := List.mem_of_getElem? hk
      obtain ⟨x, hx, rfl⟩ := List.mem_map.mp this
      rw [hE x hx]
    subst hd
    refine ⟨_, [("got", (false, .str g)), ("startpos", (false, .int (spA f))), ("endpos", (false, .int (epB g e))), ("w", (false, .str ""))], hsub, by kernel_rfl, ?_⟩
    refine Tri.seq (Tri.assign Gd 6 (d := .int (spA f)) ?_ (by kernel_rfl) rfl ?_)
    · refine Eq.trans (b := if 0 ≤ spA f ∧ 0 ≤ epB g e then some (.int (afind g "" (spA f).toNat (epB g e).toNat)) else none) (by kernel_rfl) ?_
      rw [if_pos ⟨spn, by omega⟩, hfd]
    refine Tri.seq (Tri.ite Gd 6 (b := false) ?_ (fun h => by cases h) fun _ => Tri.nil ?_)
    · refine Eq.trans (b := some (decide (spA f < 0))) (by kernel_rfl) ?_
      rw [decide_eq_false (by omega)]
    refine Tri.seq (Tri.aug Gd 6 (d₀ := .int (spA f)) (d₁ := .int 0) (d := .int (spA f + 0)) (by kernel_rfl) (by kernel_rfl) (by kernel_rfl) rfl (by kernel_rfl) ?_)
    rw [Int.add_zero]
    exact Tri.nil (sub_of ⟨by kernel_rfl, by kernel_rfl, by kernel_rfl, trivial⟩)
  · intro σ₁ hsub
    exact Tri.weaken hsub (Tri.seq (Tri.ret Gd 6 (d := .bool true) (by kernel_rfl) (by rw [ev]; rfl)))
end
end Mine
set_option maxRecDepth 100000
set_option linter.unusedVariables false
namespace Mine
open PySem PySem.W PyProof.Rows PySem.Calls
noncomputable def four : List Int := [0, 1, 2, 3]
noncomputable def splitB (w f e : Str) : Bool := Txt.contains w "..." && (!(decide (w.length < ("..." : Str).length) || decide (Builtin.Str.strKind w < Builtin.Str.strKind "...")) && (!(Builtin.Str.occurrences w "..." 0 w.length (w.length + 1)).isEmpty &&
  (decide (Builtin.Str.partsBetween w (Builtin.Str.occurrences w "..." 0 w.length (w.length + 1)) ("..." : Str).length = [f, e]) && (decide (w.length ≤ 1000) && (decide (f.length ≤ 1000) && (decide (e.length ≤ 1000) && (wsB f e).all fun x => decide (x = "")))))))
noncomputable def chkB (x y j : Int) : Bool := (decide (epB (nam j.toNat) (endOf y) < spA (frontOf x)) || decide (afind (nam j.toNat) "" (spA (frontOf x)).toNat (epB (nam j.toNat) (endOf y)).toNat = spA (frontOf x))) &&
  (decide (ellB (frontOf x) (endOf y) (nam j.toNat) = fitB x y j) && decide ((nam j.toNat).length ≤ 1000))
theorem chk_all : (four.all fun x => four.all fun y => splitB (patOf x y) (frontOf x) (endOf y) && four.all fun j => chkB x y j) = true := by kernel_rfl
theorem in_four {x : Int} (h : In4 x) : x ∈ four := by
  unfold four
  rcases h with rfl | rfl | rfl | rfl <;> simp
theorem names_all : (four.all fun x => four.all fun y => !Txt.contains (nam x.toNat) "..." && decide (decide (nam x.toNat = nam y.toNat) = decide (x = y))) = true := by kernel_rfl
section
variable {W : Wd} {c3 P3 c4 P4 : Addr}
theorem c_ell (B : Base W c3 P3 c4 P4) {x y : Int} (hx : In4 x) (hy : In4 y) (j : Nat) (hj : j < 4) : Contract W 1 "_ellipsis_match" [.str (patOf x y), .str (nam j)] (.bool (fitB x y j)) := by
  have h := List.all_eq_true.mp (List.all_eq_true.mp chk_all x (in_four hx)) y (in_four hy)
  rw [Bool.and_eq_true] at h
  obtain ⟨h1, h2⟩ := h
  have h2 := List.all_eq_true.mp h2 (j : Int) (in_four (by unfold In4; omega))
  simp only [splitB, chkB, Bool.and_eq_true, Bool.not_eq_true', decide_eq_true_eq, Bool.or_eq_true, List.all_eq_true, Int.toNat_natCast] at h1 h2
  obtain ⟨g1, g2, g3, g4, g5, g6, g7, g8⟩ := h1
  obtain ⟨k1, k2, k3⟩ := h2
  rw [← k2]
  exact (def_ell B).contract rfl (tri_ell (std_good (lv := 0) (res := fun _ _ => .none) B) (by kernel_rfl) (frontOf x) (endOf y) (nam j) (patOf x y) ⟨g1, g2, g3, g4, g5⟩ g6 g7 k3 g8 fun h _ => k1.resolve_left h)
theorem tri_ell_name {C : Cfg} {lv : Nat} {P : Params} (Gd : Good W C lv) (hG : C.Γ "ELLIPSIS_MARKER" = some (.str "...")) (w g : Str) (h : Txt.contains w "..." = false) :
    Tri W lv (nm P 63) (Def.wr (nm P 63)) (execs (bd P 63)) (args0 ["want", "got"] [.str w, .str g]) (fun _ => False) (fun d => d = .bool (decide (w = g))) := by
  refine Tri.seq (Tri.iteS (b := true) (STe.cmp (a := .str "...") (b := .str w) (SEv.name Gd (Eq.trans (b := C.Γ "ELLIPSIS_MARKER") (by kernel_rfl) hG)) (SEv.of Gd 5 (by kernel_rfl)) ?_ rfl) (fun _ => ?_) fun h => by cases h)
  · show some (!Txt.contains w "...") = _
    rw [h]; rfl
  · exact Tri.seq (Tri.ret Gd 5 (d := .bool (w == g)) (by kernel_rfl) rfl)
theorem c_ell_name (B : Base W c3 P3 c4 P4) {z : Int} (hz : In4 z) (j : Nat) (hj : j < 4) : Contract W 1 "_ellipsis_match" [.str (nam z.toNat), .str (nam j)] (.bool (decide (z = j))) := by
  have h := List.all_eq_true.mp (List.all_eq_true.mp names_all z (in_four hz)) (j : Int) (in_four (by unfold In4; omega))
  simp only [Bool.and_eq_true, Bool.not_eq_true', decide_eq_true_eq, Int.toNat_natCast] at h
  rw [← h.2]
  exact (def_ell B).contract rfl (tri_ell_name (std_good (lv := 0) (res := fun _ _ => .none) B) (by kernel_rfl) (nam z.toNat) (nam j) h.1)
end
end Mine
set_option maxRecDepth 100000
set_option linter.unusedVariables false
namespace Mine
open Lean.Grind.CommRing
theorem pe_eq (ctx : Context Int) (a b : Expr) (h : a.toPoly = b.toPoly) : a.denote ctx = b.denote ctx := by
  rw [← Expr.denote_toPoly, ← Expr.denote_toPoly, h]
noncomputable def det3 (a b c d e f g h i : Int) : Int := a * (e * i - f * h) - b * (d * i - f * g) + c * (d * h - e * g)
noncomputable def det4 (a b c d e f g h i j k l m n o p : Int) : Int := a * det3 f g h j k l n o p - b * det3 e g h i k l m o p + c * det3 e f h i j l m n p - d * det3 e f g i j k m n o
theorem bareiss3 (a b c d e f g h i : Int) : (a * e - d * b) * (a * i - g * c) - (a * h - g * b) * (a * f - d * c) = a * det3 a b c d e f g h i := by
  unfold det3; grind
theorem bareiss4 (a b c d e f g h i j k l m n o p : Int) :
    det3 a b c e f g i j k * det3 a b d e f h m n p - det3 a b c e f g m n o * det3 a b d e f h i j l = (a * f - e * b) * det4 a b c d e f g h i j k l m n o p := by
  unfold det4 det3; grind
end Mine
set_option maxRecDepth 100000
set_option linter.unusedVariables false
namespace Mine
open PySem PySem.W PyProof.Rows PySem.Calls
theorem row1 {C : Cfg} {c t0 r0 t1 x1 q1 : Int} (h1 : CellOk C c (t0 * x1 - r0 * t1) q1) (hs : r0.natAbs < big) : RowOk C c [t0, t1] [r0, x1] [q1] := by
  refine ⟨rfl, rfl, fun j x q t0' r0' tj hx ht hq h0 h0' => ?_, fun r h => ?_⟩
  · cases h0; cases h0'
    rcases j with _ | j
    · cases hx; cases ht; cases hq; exact h1
    · simp at hq
  · cases h; exact hs
theorem row2 {C : Cfg} {c t0 r0 t1 x1 q1 t2 x2 q2 : Int} (h1 : CellOk C c (t0 * x1 - r0 * t1) q1) (h2 : CellOk C c (t0 * x2 - r0 * t2) q2) (hs : r0.natAbs < big) : RowOk C c [t0, t1, t2] [r0, x1, x2] [q1, q2] := by
  refine ⟨rfl, rfl, fun j x q t0' r0' tj hx ht hq h0 h0' => ?_, fun r h => ?_⟩
  · cases h0; cases h0'
    rcases j with _ | _ | j
    · cases hx; cases ht; cases hq; exact h1
    · cases hx; cases ht; cases hq; exact h2
    · simp at hq
  · cases h; exact hs
theorem row3 {C : Cfg} {c t0 r0 t1 x1 q1 t2 x2 q2 t3 x3 q3 : Int} (h1 : CellOk C c (t0 * x1 - r0 * t1) q1) (h2 : CellOk C c (t0 * x2 - r0 * t2) q2) (h3 : CellOk C c (t0 * x3 - r0 * t3) q3) (hs : r0.natAbs < big) :
    RowOk C c [t0, t1, t2, t3] [r0, x1, x2, x3] [q1, q2, q3] := by
  refine ⟨rfl, rfl, fun j x q t0' r0' tj hx ht hq h0 h0' => ?_, fun r h => ?_⟩
  · cases h0; cases h0'
    rcases j with _ | _ | _ | j
    · cases hx; cases ht; cases hq; exact h1
    · cases hx; cases ht; cases hq; exact h2
    · cases hx; cases ht; cases hq; exact h3
    · simp at hq
  · cases h; exact hs
theorem cell_one {C : Cfg} {z : Int} : CellOk C 1 z z := .inr ⟨by decide, rfl⟩
theorem cross_lt {x y u v : Int} {a b : Nat} (hx : x.natAbs < 2 ^ a) (hy : y.natAbs < 2 ^ b) (hu : u.natAbs < 2 ^ a) (hv : v.natAbs < 2 ^ b) : (x * y - u * v).natAbs < 2 ^ (a + b + 1) := by
  have h1 : (x * y).natAbs < 2 ^ a * 2 ^ b := by rw [Int.natAbs_mul]; exact Nat.mul_lt_mul'' hx hy
  have h2 : (u * v).natAbs < 2 ^ a * 2 ^ b := by rw [Int.natAbs_mul]; exact Nat.mul_lt_mul'' hu hv
  have e : 2 ^ (a + b + 1) = 2 ^ a * 2 ^ b + 2 ^ a * 2 ^ b := by rw [Nat.pow_succ, Nat.pow_add]; omega
  omega
theorem le_quot {z c q : Int} (hz : z = c * q) (hc : 1 ≤ c) : q.natAbs ≤ z.natAbs := by
  rw [hz, Int.natAbs_mul]
  exact Nat.le_mul_of_pos_left _ (by omega)
section
variable {W : Wd} {c3 P3 c4 P4 : Addr}
theorem fit_of {z c : Int} {j : Nat} (hj : 1 ≤ j) (hc : 2 ^ j ≤ c) (hz : z.natAbs < 2 ^ (7 * j)) : Fit z c := by
  unfold Fit
  have hn : j < Builtin.Int.intBits c := by
    rcases Nat.lt_or_ge j (Builtin.Int.intBits c) with h | h
    · exact h
    · have h1 := intBits_le_iff.mp h
      have hp : (0 : Int) < 2 ^ j := Int.pow_pos (by decide)
      have h2 : ((c.natAbs : Nat) : Int) < ((2 ^ j : Nat) : Int) := Int.ofNat_lt.mpr h1
      rw [Int.natAbs_of_nonneg (by omega)] at h2
      have : (((2 ^ j : Nat) : Int)) = 2 ^ j := by simp
      omega
  have hm := intBits_le_iff.mpr hz
  have h3 : 7 * j ≤ 7 * Builtin.Int.intBits c := by omega
  have h4 : Builtin.Int.intBits z + Builtin.Int.intBits c - 1 < 8 * Builtin.Int.intBits c := by omega
  have := Nat.div_lt_of_lt_mul (m := Builtin.Int.intBits z + Builtin.Int.intBits c - 1) (n := Builtin.Int.intBits c) (k := 8) (by omega)
  omega
theorem cell_div (B : Base W c3 P3 c4 P4) {z c q : Int} {j : Nat} (hj : 1 ≤ j) (hzq : z = c * q) (hc : 2 ^ j ≤ c) (hcb : c.natAbs < big) (hz : z.natAbs < 2 ^ (7 * j)) : CellOk (cfg (stdΦ W 13 resA)) c z q := by
  have hp : (2 : Int) ≤ 2 ^ j := by
    have h1 : 2 ^ 1 ≤ 2 ^ j := Nat.pow_le_pow_right (by decide) hj
    have : (((2 ^ j : Nat) : Int)) = 2 ^ j := by simp
    omega
  have hc0 : 0 < c := by omega
  refine .inl ⟨by omega, ?_⟩
  have h := c_divmod B z c hc0 hcb (fit_of hj hc hz) fun hneg => fit_of hj hc (by omega)
  have e1 : z.fdiv c = q := by
    rw [hzq, Int.fdiv_eq_ediv_of_nonneg _ (by omega), Int.mul_ediv_cancel_left _ (by omega)]
  have e2 : z.fmod c = 0 := by rw [Int.fmod_def, e1, hzq]; omega
  rw [e1, e2] at h
  exact std_some h (by show AV.tuple [.int (z.fdiv c), .int (z.fmod c)] = _; rw [e1, e2])
theorem elim0 {C : Cfg} : Elim C 1 [] 1 := .nil 1
theorem elim1 {C : Cfg} {c a : Int} (ha : a.natAbs < big) : Elim C c [[a]] a := .cons (lower := []) rfl ha (by simp) (by simp) .nil (.nil a)
theorem lt_big {x : Int} {a : Nat} (h : x.natAbs < 2 ^ a) (ha : a ≤ 64) : x.natAbs < big := Nat.lt_of_lt_of_le h (Nat.pow_le_pow_right (by decide) ha)
theorem elim2 {C : Cfg} {a b c d : Int} (ha : a.natAbs < 2 ^ 13) (hb : b.natAbs < 2 ^ 13) (hc : c.natAbs < 2 ^ 13) (hd : d.natAbs < 2 ^ 13) : Elim C 1 [[a, b], [c, d]] (a * d - c * b) :=
  .cons (lower := [[a * d - c * b]]) rfl (lt_big ha (by decide)) (by simp) (by simp) (.cons (row1 cell_one (lt_big hc (by decide))) .nil) (elim1 (lt_big (cross_lt ha hd hc hb) (by decide)))
theorem elim3 (B : Base W c3 P3 c4 P4) {a b c d e f g h i : Int} (ha : a.natAbs < 2 ^ 13) (hb : b.natAbs < 2 ^ 13) (hc : c.natAbs < 2 ^ 13) (hd : d.natAbs < 2 ^ 13) (he : e.natAbs < 2 ^ 13) (hf : f.natAbs < 2 ^ 13) (hg : g.natAbs < 2 ^ 13) (hh : h.natAbs < 2 ^ 13) (hi : i.natAbs < 2 ^ 13)
    (h0 : 2 ^ 12 ≤ a) : Elim (cfg (stdΦ W 13 resA)) 1 [[a, b, c], [d, e, f], [g, h, i]] (det3 a b c d e f g h i) := by
  have p1 := cross_lt ha he hd hb
  have p2 := cross_lt ha hf hd hc
  have p3 := cross_lt ha hh hg hb
  have p4 := cross_lt ha hi hg hc
  have z := cross_lt p1 p4 p3 p2
  have hq := bareiss3 a b c d e f g h i
  refine .cons (lower := [[a * e - d * b, a * f - d * c], [a * h - g * b, a * i - g * c]]) rfl (lt_big ha (by decide)) (by simp) (by simp) (.cons (row2 cell_one cell_one (lt_big hd (by decide))) (.cons (row2 cell_one cell_one (lt_big hg (by decide))) .nil)) ?_
  refine .cons (lower := [[det3 a b c d e f g h i]]) rfl (lt_big p1 (by decide)) (by simp) (by simp) (.cons (row1 (cell_div B (j := 12) (by decide) hq h0 (lt_big ha (by decide)) (Nat.lt_of_lt_of_le z (Nat.pow_le_pow_right (by decide) (by decide)))) (lt_big p3 (by decide))) .nil) ?_
  exact elim1 (lt_big (Nat.lt_of_le_of_lt (le_quot hq (by omega)) z) (by decide))
theorem elim4 (B : Base W c3 P3 c4 P4) {a b c d e f g h i j k l m n o p : Int} (ha : a.natAbs < 2 ^ 13) (hb : b.natAbs < 2 ^ 13) (hc : c.natAbs < 2 ^ 13) (hd : d.natAbs < 2 ^ 13) (he : e.natAbs < 2 ^ 13) (hf : f.natAbs < 2 ^ 13) (hg : g.natAbs < 2 ^ 13) (hh : h.natAbs < 2 ^ 13)
    (hi : i.natAbs < 2 ^ 13) (hj : j.natAbs < 2 ^ 13) (hk : k.natAbs < 2 ^ 13) (hl : l.natAbs < 2 ^ 13) (hm : m.natAbs < 2 ^ 13) (hn : n.natAbs < 2 ^ 13) (ho : o.natAbs < 2 ^ 13) (hp : p.natAbs < 2 ^ 13) (h0 : 2 ^ 12 ≤ a) (h1 : 2 ^ 24 ≤ a * f - e * b) (hD : (det4 a b c d e f g h i j k l m n o p).natAbs < big) :
    Elim (cfg (stdΦ W 13 resA)) 1 [[a, b, c, d], [e, f, g, h], [i, j, k, l], [m, n, o, p]] (det4 a b c d e f g h i j k l m n o p) := by
  have p11 := cross_lt ha hf he hb
  have p12 := cross_lt ha hg he hc
  have p13 := cross_lt ha hh he hd
  have p21 := cross_lt ha hj hi hb
  have p22 := cross_lt ha hk hi hc
  have p23 := cross_lt ha hl hi hd
  have p31 := cross_lt ha hn hm hb
  have p32 := cross_lt ha ho hm hc
  have p33 := cross_lt ha hp hm hd
  have z22 := cross_lt p11 p22 p21 p12
  have z23 := cross_lt p11 p23 p21 p13
  have z32 := cross_lt p11 p32 p31 p12
  have z33 := cross_lt p11 p33 p31 p13
  have q22 := bareiss3 a b c e f g i j k
  have q23 := bareiss3 a b d e f h i j l
  have q32 := bareiss3 a b c e f g m n o
  have q33 := bareiss3 a b d e f h m n p
  have d22 := Nat.lt_of_le_of_lt (le_quot q22 (by omega)) z22
  have d23 := Nat.lt_of_le_of_lt (le_quot q23 (by omega)) z23
  have d32 := Nat.lt_of_le_of_lt (le_quot q32 (by omega)) z32
  have d33 := Nat.lt_of_le_of_lt (le_quot q33 (by omega)) z33
  have zz := cross_lt d22 d33 d32 d23
  have qq := bareiss4 a b c d e f g h i j k l m n o p
  have sm : ∀ {z : Int}, z.natAbs < 2 ^ (13 + 13 + 1 + (13 + 13 + 1) + 1) → z.natAbs < 2 ^ (7 * 12) := fun h => Nat.lt_of_lt_of_le h (Nat.pow_le_pow_right (by decide) (by decide))
  refine .cons (lower := [[a * f - e * b, a * g - e * c, a * h - e * d], [a * j - i * b, a * k - i * c, a * l - i * d], [a * n - m * b, a * o - m * c, a * p - m * d]]) rfl (lt_big ha (by decide)) (by simp) (by simp)
    (.cons (row3 cell_one cell_one cell_one (lt_big he (by decide))) (.cons (row3 cell_one cell_one cell_one (lt_big hi (by decide))) (.cons (row3 cell_one cell_one cell_one (lt_big hm (by decide))) .nil))) ?_
  refine .cons (lower := [[det3 a b c e f g i j k, det3 a b d e f h i j l], [det3 a b c e f g m n o, det3 a b d e f h m n p]]) rfl (lt_big p11 (by decide)) (by simp) (by simp)
    (.cons (row2 (cell_div B (j := 12) (by decide) q22 h0 (lt_big ha (by decide)) (sm z22)) (cell_div B (j := 12) (by decide) q23 h0 (lt_big ha (by decide)) (sm z23)) (lt_big p21 (by decide)))
      (.cons (row2 (cell_div B (j := 12) (by decide) q32 h0 (lt_big ha (by decide)) (sm z32)) (cell_div B (j := 12) (by decide) q33 h0 (lt_big ha (by decide)) (sm z33)) (lt_big p31 (by decide))) .nil)) ?_
  refine .cons (lower := [[det4 a b c d e f g h i j k l m n o p]]) rfl (lt_big d22 (by decide)) (by simp) (by simp)
    (.cons (row1 (cell_div B (j := 24) (by decide) qq h1 (lt_big p11 (by decide)) (Nat.lt_of_lt_of_le zz (Nat.pow_le_pow_right (by decide) (by decide)))) (lt_big d32 (by decide))) .nil) ?_
  exact elim1 hD
end
end Mine
set_option maxRecDepth 100000
set_option linter.unusedVariables false
namespace Mine
open PySem PySem.W PyProof.Rows PySem.Calls
/-! ## the forests' sum -/
noncomputable def Uof (left : List Int) (i : Int) : List Int := if left.contains i then [0, 1, 2, 3] else [i]
/-- what a choice counts -/
noncomputable def Fw (left : List Int) (B : Int) : List Int → Int
  | [a, b, c, d] => if acyc a b c d then B ^ rootsOf a b c d left else 0
  | _ => 0
noncomputable def sumW (ws : List Way) (F : List Int → Int) : Int := (ws.map fun w => w.2 * F w.1).sum
theorem numOf_set {B : Int} : ∀ {l : List Int} {r : Nat} (x : Int), r < l.length → numOf B (l.set r ((l[r]?).getD 0 + x)) = numOf B l + x * B ^ r
  | [], r, x, h => by simp at h
  | a :: l, 0, x, h => by simp [numOf]; omega
  | a :: l, r + 1, x, h => by
    simp only [List.set_cons_succ, numOf, List.getElem?_cons_succ, Int.pow_succ]
    rw [numOf_set x (by simpa using h)]
    grind
theorem numOf_step {left tot : List Int} {B : Int} {w : Way} (h : tot.length = left.length + 1) : numOf B (totStep left tot w) = numOf B tot + w.2 * Fw left B w.1 := by
  obtain ⟨w, x⟩ := w
  unfold totStep
  split
  · rename_i a b c d x' e
    cases e
    show _ = _ + x * (if acyc a b c d then B ^ rootsOf a b c d left else 0)
    have hr : rootsOf a b c d left ≤ left.length := List.length_filter_le ..
    by_cases hac : acyc a b c d = true
    · rw [if_pos hac, if_pos hac, numOf_set x (by omega)]
    · rw [if_neg hac, if_neg hac]; omega
  · rename_i h'
    have : Fw left B w = 0 := by
      unfold Fw
      split
      · rename_i a b c d; exact absurd rfl (h' a b c d x)
      · rfl
    show _ = _ + x * Fw left B w
    rw [this]; omega
theorem numOf_fold {left : List Int} {B : Int} : ∀ (ws : List Way) (tot : List Int), tot.length = left.length + 1 → numOf B (ws.foldl (totStep left) tot) = numOf B tot + sumW ws (Fw left B)
  | [], tot, _ => by simp [sumW]
  | w :: ws, tot, h => by
    rw [List.foldl_cons, numOf_fold ws _ (by rw [totStep_len]; exact h), numOf_step h]
    simp only [sumW, List.map_cons, List.sum_cons]
    omega
theorem numOf_zero (B : Int) : ∀ n, numOf B (List.replicate n 0) = 0
  | 0 => rfl
  | n + 1 => by simp [List.replicate_succ, numOf, numOf_zero B n]
theorem numOf_forest (cs : List Cal) (left : List Int) (B : Int) : numOf B (forestTotals cs left) = sumW (waysAt cs left 4) (Fw left B) := by
  unfold forestTotals
  rw [numOf_fold _ _ (by simp), numOf_zero, Int.zero_add]
theorem sum_mul (x : Int) : ∀ l : List Int, x * l.sum = (l.map fun y => x * y).sum
  | [] => by simp
  | a :: l => by simp [Int.mul_add, sum_mul x l]
theorem sumW_step (h0 h1 h2 h3 : Int) (us : List Int) (F : List Int → Int) : ∀ ws : List Way, sumW (step4 h0 h1 h2 h3 us ws) F = sumW ws fun p => (us.map fun u => pick4 h0 h1 h2 h3 u * F (p ++ [u])).sum
  | [] => rfl
  | w :: ws => by
    have ih := sumW_step h0 h1 h2 h3 us F ws
    unfold step4 at ih ⊢
    simp only [sumW, List.map_cons, List.flatten_cons, List.map_append, List.sum_append, List.sum_cons] at ih ⊢
    rw [ih, sum_mul, List.map_map, List.map_map]
    congr 3
    funext u
    show w.2 * pick4 h0 h1 h2 h3 u * F (w.1 ++ [u]) = w.2 * (pick4 h0 h1 h2 h3 u * F (w.1 ++ [u]))
    exact Int.mul_assoc ..
theorem sum_filter (h F : Int → Int) : ∀ l : List Int, (∀ u ∈ l, 0 ≤ h u) → ((l.filter fun u => decide (0 < h u)).map fun u => h u * F u).sum = (l.map fun u => h u * F u).sum
  | [], _ => rfl
  | a :: l, hl => by
    have ih := sum_filter h F l fun u hu => hl u (List.mem_cons_of_mem _ hu)
    have ha := hl a List.mem_cons_self
    rw [List.filter_cons]
    by_cases hp : 0 < h a
    · rw [decide_eq_true hp, if_pos rfl, List.map_cons, List.map_cons, List.sum_cons, List.sum_cons, ih]
    · rw [decide_eq_false hp, if_neg Bool.false_ne_true, ih, List.map_cons, List.sum_cons, show h a = 0 by omega]; omega
theorem ups_sum {cs : List Cal} (hw : WtOk cs) (left : List Int) (i : Int) (F : Int → Int) :
    ((upsOf (Hv cs i 0) (Hv cs i 1) (Hv cs i 2) (Hv cs i 3) left i).map fun u => pick4 (Hv cs i 0) (Hv cs i 1) (Hv cs i 2) (Hv cs i 3) u * F u).sum = ((Uof left i).map fun u => pick4 (Hv cs i 0) (Hv cs i 1) (Hv cs i 2) (Hv cs i 3) u * F u).sum := by
  unfold upsOf Uof
  split
  · exact sum_filter _ F _ fun u _ => (pick4_ok (Hv_ok hw i 0) (Hv_ok hw i 1) (Hv_ok hw i 2) (Hv_ok hw i 3) u).1
  · rfl
noncomputable def Ssum (cs : List Cal) (left : List Int) (F : List Int → Int) : Int :=
  ((Uof left 0).map fun a => Hv cs 0 a * ((Uof left 1).map fun b => Hv cs 1 b * ((Uof left 2).map fun c => Hv cs 2 c * ((Uof left 3).map fun d => Hv cs 3 d * F [a, b, c, d]).sum).sum).sum).sum
theorem Uof_in {left : List Int} {i : Int} (hi : In4 i) : ∀ u ∈ Uof left i, In4 u := by
  intro u hu
  unfold Uof at hu
  split at hu
  · simpa [In4] using hu
  · rw [List.mem_singleton.mp hu]; exact hi
theorem pick_Hv (cs : List Cal) (i : Int) {u : Int} (hu : In4 u) : pick4 (Hv cs i 0) (Hv cs i 1) (Hv cs i 2) (Hv cs i 3) u = Hv cs i u := by
  rcases hu with rfl | rfl | rfl | rfl <;> rfl
theorem ways_sum {cs : List Cal} (hw : WtOk cs) (left : List Int) (F : List Int → Int) : sumW (waysAt cs left 4) F = Ssum cs left F := by
  have st : ∀ (k : Nat) (G : List Int → Int), k < 4 → sumW (waysAt cs left (k + 1)) G = sumW (waysAt cs left k) fun p => ((Uof left k).map fun u => Hv cs k u * G (p ++ [u])).sum := fun k G hk => by
    show sumW (step4 _ _ _ _ _ _) G = _
    rw [sumW_step]
    congr 1
    funext p
    rw [ups_sum hw left k fun u => G (p ++ [u])]
    congr 1
    refine List.map_congr_left fun u hu => ?_
    rw [pick_Hv cs k (Uof_in (by unfold In4; omega) u hu)]
  rw [st 3 F (by omega), st 2 _ (by omega), st 1 _ (by omega), st 0 _ (by omega)]
  show (([([], 1)] : List Way).map _).sum = _
  simp only [List.map_cons, List.map_nil, List.sum_cons, List.sum_nil, Int.add_zero, Int.one_mul]
  rfl
end Mine
set_option maxRecDepth 100000
set_option linter.unusedVariables false
namespace Mine
open PySem PySem.W PyProof.Rows PySem.Calls
noncomputable abbrev PE := Lean.Grind.CommRing.Expr
noncomputable def sumE : List PE → PE
  | [] => .num 0
  | e :: r => .add e (sumE r)
noncomputable def hE (i j : Int) : PE := if i = j then .num 1 else .var (4 * i + j).toNat
noncomputable def SE (left : List Int) : PE := sumE ((Uof left 0).map fun a => .mul (hE 0 a) (sumE ((Uof left 1).map fun b => .mul (hE 1 b) (sumE ((Uof left 2).map fun c => .mul (hE 2 c) (sumE ((Uof left 3).map fun d => .mul (hE 3 d) (if acyc a b c d then .pow (.var 16) (rootsOf a b c d left) else .num 0))))))))
noncomputable def mE (i j : Int) : PE := if j = i then .add (.var 16) (sumE ((four.filter fun q => decide (q ≠ i)).map fun q => .var (4 * i + q).toNat)) else .neg (.var (4 * i + j).toNat)
noncomputable def det3E (a b c d e f g h i : PE) : PE := .add (.sub (.mul a (.sub (.mul e i) (.mul f h))) (.mul b (.sub (.mul d i) (.mul f g)))) (.mul c (.sub (.mul d h) (.mul e g)))
noncomputable def det4E (a b c d e f g h i j k l m n o p : PE) : PE := .sub (.add (.sub (.mul a (det3E f g h j k l n o p)) (.mul b (det3E e g h i k l m o p))) (.mul c (det3E e f h i j l m n p))) (.mul d (det3E e f g i j k m n o))
noncomputable def detE : List Int → PE
  | [] => .num 1
  | [i] => mE i i
  | [i, j] => .sub (.mul (mE i i) (mE j j)) (.mul (mE j i) (mE i j))
  | [i, j, k] => det3E (mE i i) (mE i j) (mE i k) (mE j i) (mE j j) (mE j k) (mE k i) (mE k j) (mE k k)
  | [i, j, k, l] => det4E (mE i i) (mE i j) (mE i k) (mE i l) (mE j i) (mE j j) (mE j k) (mE j l) (mE k i) (mE k j) (mE k k) (mE k l) (mE l i) (mE l j) (mE l k) (mE l l)
  | _ => .num 0
/-- the square's entries, by the drawn calls -/
noncomputable def mI (cs : List Cal) (B i j : Int) : Int := if j = i then B + ((four.filter fun q => decide (q ≠ i)).map fun q => wt cs i q).sum else -(wt cs i j)
noncomputable def detM (m : Int → Int → Int) : List Int → Int
  | [] => 1
  | [i] => m i i
  | [i, j] => m i i * m j j - m j i * m i j
  | [i, j, k] => det3 (m i i) (m i j) (m i k) (m j i) (m j j) (m j k) (m k i) (m k j) (m k k)
  | [i, j, k, l] => det4 (m i i) (m i j) (m i k) (m i l) (m j i) (m j j) (m j k) (m j l) (m k i) (m k j) (m k k) (m k l) (m l i) (m l j) (m l k) (m l l)
  | _ => 0
noncomputable def ctxF (cs : List Cal) (B : Int) (i : Fin 17) : Int := if i.val < 16 then wt cs ((i.val / 4 : Nat) : Int) ((i.val % 4 : Nat) : Int) else B
noncomputable def ctxO (cs : List Cal) (B : Int) : Lean.Grind.CommRing.Context Int := Lean.RArray.ofFn (ctxF cs B) (by decide)
section
variable {cs : List Cal} {B : Int}
theorem den_var (n : Nat) (h : n < 17) : Lean.Grind.CommRing.Expr.denote (ctxO cs B) (.var n) = ctxF cs B ⟨n, h⟩ := Lean.RArray.get_ofFn (ctxF cs B) (by decide) ⟨n, h⟩
theorem den_B : Lean.Grind.CommRing.Expr.denote (ctxO cs B) (.var 16) = B := den_var 16 (by decide)
theorem den_w {i j : Int} (hi : In4 i) (hj : In4 j) : Lean.Grind.CommRing.Expr.denote (ctxO cs B) (.var (4 * i + j).toNat) = wt cs i j := by
  rcases hi with rfl | rfl | rfl | rfl <;> rcases hj with rfl | rfl | rfl | rfl <;> (refine Eq.trans (den_var _ ?_) ?_ <;> first | decide | rfl)
theorem den_add (a b : PE) : Lean.Grind.CommRing.Expr.denote (ctxO cs B) (.add a b) = Lean.Grind.CommRing.Expr.denote (ctxO cs B) a + Lean.Grind.CommRing.Expr.denote (ctxO cs B) b := rfl
theorem den_sub (a b : PE) : Lean.Grind.CommRing.Expr.denote (ctxO cs B) (.sub a b) = Lean.Grind.CommRing.Expr.denote (ctxO cs B) a - Lean.Grind.CommRing.Expr.denote (ctxO cs B) b := rfl
theorem den_mul (a b : PE) : Lean.Grind.CommRing.Expr.denote (ctxO cs B) (.mul a b) = Lean.Grind.CommRing.Expr.denote (ctxO cs B) a * Lean.Grind.CommRing.Expr.denote (ctxO cs B) b := rfl
theorem den_neg (a : PE) : Lean.Grind.CommRing.Expr.denote (ctxO cs B) (.neg a) = -Lean.Grind.CommRing.Expr.denote (ctxO cs B) a := rfl
theorem den_zero : Lean.Grind.CommRing.Expr.denote (ctxO cs B) (.num 0) = 0 := rfl
theorem den_one : Lean.Grind.CommRing.Expr.denote (ctxO cs B) (.num 1) = 1 := rfl
theorem den_sum : ∀ l : List PE, Lean.Grind.CommRing.Expr.denote (ctxO cs B) (sumE l) = (l.map (Lean.Grind.CommRing.Expr.denote (ctxO cs B))).sum
  | [] => den_zero
  | e :: r => by rw [sumE, den_add, den_sum r, List.map_cons, List.sum_cons]
theorem den_h {i j : Int} (hi : In4 i) (hj : In4 j) : Lean.Grind.CommRing.Expr.denote (ctxO cs B) (hE i j) = Hv cs i j := by
  unfold hE Hv
  split
  · exact den_one
  · exact den_w hi hj
theorem den_S (left : List Int) : Lean.Grind.CommRing.Expr.denote (ctxO cs B) (SE left) = Ssum cs left (Fw left B) := by
  unfold SE Ssum
  rw [den_sum, List.map_map]
  congr 1
  refine List.map_congr_left fun a ha => ?_
  have ha' := Uof_in (by unfold In4; omega) a ha
  show Lean.Grind.CommRing.Expr.denote (ctxO cs B) (.mul _ _) = _
  rw [den_mul, den_h (by unfold In4; omega) ha', den_sum, List.map_map]
  congr 2
  refine List.map_congr_left fun b hb => ?_
  have hb' := Uof_in (by unfold In4; omega) b hb
  show Lean.Grind.CommRing.Expr.denote (ctxO cs B) (.mul _ _) = _
  rw [den_mul, den_h (by unfold In4; omega) hb', den_sum, List.map_map]
  congr 2
  refine List.map_congr_left fun c hc => ?_
  have hc' := Uof_in (by unfold In4; omega) c hc
  show Lean.Grind.CommRing.Expr.denote (ctxO cs B) (.mul _ _) = _
  rw [den_mul, den_h (by unfold In4; omega) hc', den_sum, List.map_map]
  congr 2
  refine List.map_congr_left fun d hd => ?_
  have hd' := Uof_in (by unfold In4; omega) d hd
  show Lean.Grind.CommRing.Expr.denote (ctxO cs B) (.mul _ _) = _
  rw [den_mul, den_h (by unfold In4; omega) hd']
  congr 1
  show Lean.Grind.CommRing.Expr.denote (ctxO cs B) (if acyc a b c d then .pow (.var 16) (rootsOf a b c d left) else .num 0) = if acyc a b c d then B ^ rootsOf a b c d left else 0
  split
  · show (Lean.Grind.CommRing.Expr.denote (ctxO cs B) (.var 16)) ^ _ = _
    rw [den_B]
  · exact den_zero
theorem den_m {i j : Int} (hi : In4 i) (hj : In4 j) : Lean.Grind.CommRing.Expr.denote (ctxO cs B) (mE i j) = mI cs B i j := by
  unfold mE mI
  split
  · rw [den_add, den_B, den_sum, List.map_map]
    congr 2
    refine List.map_congr_left fun q hq => ?_
    exact den_w hi (by have := (List.mem_filter.mp hq).1; simpa [four, In4] using this)
  · rw [den_neg, den_w hi hj]
theorem den_det {left : List Int} (h : ∀ i ∈ left, In4 i) (hl : left.length ≤ 4) : Lean.Grind.CommRing.Expr.denote (ctxO cs B) (detE left) = detM (mI cs B) left := by
  rcases left with _ | ⟨i, _ | ⟨j, _ | ⟨k, _ | ⟨l, _ | ⟨m, r⟩⟩⟩⟩⟩
  · exact den_one
  · exact den_m (h i (by simp)) (h i (by simp))
  · have hi := h i (by simp)
    have hj := h j (by simp)
    show Lean.Grind.CommRing.Expr.denote (ctxO cs B) (.sub (.mul _ _) (.mul _ _)) = _
    rw [den_sub, den_mul, den_mul, den_m hi hi, den_m hj hj, den_m hj hi, den_m hi hj]; rfl
  · have hi := h i (by simp)
    have hj := h j (by simp)
    have hk := h k (by simp)
    have e : ∀ a b c d e f g h i : PE, Lean.Grind.CommRing.Expr.denote (ctxO cs B) (det3E a b c d e f g h i) = det3 (Lean.Grind.CommRing.Expr.denote (ctxO cs B) a) (Lean.Grind.CommRing.Expr.denote (ctxO cs B) b) (Lean.Grind.CommRing.Expr.denote (ctxO cs B) c) (Lean.Grind.CommRing.Expr.denote (ctxO cs B) d) (Lean.Grind.CommRing.Expr.denote (ctxO cs B) e) (Lean.Grind.CommRing.Expr.denote (ctxO cs B) f) (Lean.Grind.CommRing.Expr.denote (ctxO cs B) g) (Lean.Grind.CommRing.Expr.denote (ctxO cs B) h) (Lean.Grind.CommRing.Expr.denote (ctxO cs B) i) := fun _ _ _ _ _ _ _ _ _ => rfl
    show Lean.Grind.CommRing.Expr.denote (ctxO cs B) (det3E ..) = det3 ..
    rw [e, den_m hi hi, den_m hi hj, den_m hi hk, den_m hj hi, den_m hj hj, den_m hj hk, den_m hk hi, den_m hk hj, den_m hk hk]
  · have hi := h i (by simp)
    have hj := h j (by simp)
    have hk := h k (by simp)
    have hl := h l (by simp)
    show det4 (Lean.Grind.CommRing.Expr.denote (ctxO cs B) (mE i i)) (Lean.Grind.CommRing.Expr.denote (ctxO cs B) (mE i j)) (Lean.Grind.CommRing.Expr.denote (ctxO cs B) (mE i k)) (Lean.Grind.CommRing.Expr.denote (ctxO cs B) (mE i l)) (Lean.Grind.CommRing.Expr.denote (ctxO cs B) (mE j i)) (Lean.Grind.CommRing.Expr.denote (ctxO cs B) (mE j j)) (Lean.Grind.CommRing.Expr.denote (ctxO cs B) (mE j k)) (Lean.Grind.CommRing.Expr.denote (ctxO cs B) (mE j l))
      (Lean.Grind.CommRing.Expr.denote (ctxO cs B) (mE k i)) (Lean.Grind.CommRing.Expr.denote (ctxO cs B) (mE k j)) (Lean.Grind.CommRing.Expr.denote (ctxO cs B) (mE k k)) (Lean.Grind.CommRing.Expr.denote (ctxO cs B) (mE k l)) (Lean.Grind.CommRing.Expr.denote (ctxO cs B) (mE l i)) (Lean.Grind.CommRing.Expr.denote (ctxO cs B) (mE l j)) (Lean.Grind.CommRing.Expr.denote (ctxO cs B) (mE l k)) (Lean.Grind.CommRing.Expr.denote (ctxO cs B) (mE l l)) = det4 ..
    rw [den_m hi hi, den_m hi hj, den_m hi hk, den_m hi hl, den_m hj hi, den_m hj hj, den_m hj hk, den_m hj hl, den_m hk hi, den_m hk hj, den_m hk hk, den_m hk hl, den_m hl hi, den_m hl hj, den_m hl hk, den_m hl hl]
  · simp at hl
end
/-- the choices of rows -/
noncomputable def lefts : List (List Int) := [[], [0], [1], [2], [3], [0, 1], [0, 2], [0, 3], [1, 2], [1, 3], [2, 3], [0, 1, 2], [0, 1, 3], [0, 2, 3], [1, 2, 3], [0, 1, 2, 3]]
theorem mt_all : ∀ left ∈ lefts, (SE left).toPoly = (detE left).toPoly := by
  intro left h
  simp only [lefts, List.mem_cons, List.not_mem_nil, or_false] at h
  rcases h with rfl | rfl | rfl | rfl | rfl | rfl | rfl | rfl | rfl | rfl | rfl | rfl | rfl | rfl | rfl | rfl <;> kernel_rfl
theorem matrix_tree {cs : List Cal} (hw : WtOk cs) {left : List Int} (h : left ∈ lefts) (hin : ∀ i ∈ left, In4 i) (hl : left.length ≤ 4) (B : Int) : numOf B (forestTotals cs left) = detM (mI cs B) left := by
  rw [numOf_forest, ways_sum hw, ← den_S, ← den_det hin hl]
  exact pe_eq _ _ _ (mt_all left h)
end Mine
set_option maxRecDepth 100000
set_option linter.unusedVariables false
namespace Mine
open PySem PySem.W PyProof.Rows PySem.Calls
/-! ## sizes -/
noncomputable def rI (cs : List Cal) (i : Int) : Int := ((four.filter fun q => decide (q ≠ i)).map fun q => wt cs i q).sum
noncomputable def allW (cs : List Cal) : Int := (four.map fun i => (four.map fun j => wt cs i j).sum).sum
structure CalsOk (cs : List Cal) : Prop where
  ok : ∀ x ∈ cs, x.ok
  c : ∀ x ∈ cs, 1 ≤ x.c ∧ x.c ≤ 3
  len : cs.length ≤ 8
theorem natI (p i : Nat) : ((p : Int) == (i : Int)) = (p == i) := by
  by_cases h : p = i
  · subst h; simp
  · have : (p : Int) ≠ i := by omega
    rw [beq_eq_false_iff_ne.mpr h, beq_eq_false_iff_ne.mpr this]
theorem wt_cons (x : Cal) (cs : List Cal) (i j : Int) : wt (x :: cs) i j = (if ((x.p : Int) == i && (x.q : Int) == j) = true then x.c else 0) + wt cs i j := by
  unfold wt
  rw [List.filter_cons]
  split <;> simp
theorem sum_add (f g : Int → Int) : ∀ l : List Int, (l.map fun j => f j + g j).sum = (l.map f).sum + (l.map g).sum
  | [] => rfl
  | a :: l => by simp only [List.map_cons, List.sum_cons, sum_add f g l]; omega
theorem sum_hit (c : Int) (b : Bool) {q : Nat} (hq : q < 4) : (four.map fun j => if (b && ((q : Int) == j)) = true then c else 0).sum = if b = true then c else 0 := by
  unfold four
  rcases nat4 hq with rfl | rfl | rfl | rfl <;> cases b <;> simp
theorem wt_nonneg {cs : List Cal} (h : ∀ x ∈ cs, 1 ≤ x.c ∧ x.c ≤ 3) (i j : Int) : 0 ≤ wt cs i j := by
  induction cs with
  | nil => exact Int.le_refl _
  | cons x cs ih =>
    have h1 := h x List.mem_cons_self
    have h2 := ih fun y hy => h y (List.mem_cons_of_mem _ hy)
    rw [wt_cons]
    split <;> omega
theorem allW_le : ∀ {cs : List Cal}, (∀ x ∈ cs, x.ok) → (∀ x ∈ cs, 1 ≤ x.c ∧ x.c ≤ 3) → allW cs ≤ 3 * cs.length
  | [], _, _ => by decide
  | ⟨p, q, c⟩ :: cs, h, h' => by
    have ih := allW_le (fun y hy => h y (List.mem_cons_of_mem _ hy)) (fun y hy => h' y (List.mem_cons_of_mem _ hy))
    obtain ⟨hp, hq⟩ := h _ List.mem_cons_self
    have hc := h' _ List.mem_cons_self
    have e : allW (⟨p, q, c⟩ :: cs) = c + allW cs := by
      unfold allW
      have e1 : (fun i : Int => (four.map fun j => wt (⟨p, q, c⟩ :: cs) i j).sum) = fun i => (if (true && ((p : Int) == i)) = true then c else 0) + (four.map fun j => wt cs i j).sum := by
        funext i
        have e2 : (fun j : Int => wt (⟨p, q, c⟩ :: cs) i j) = fun j => (if (((p : Int) == i) && ((q : Int) == j)) = true then c else 0) + wt cs i j := by
          funext j; exact wt_cons ..
        rw [e2, sum_add, sum_hit c _ hq, Bool.true_and]
      rw [e1, sum_add, sum_hit c _ hp, if_pos rfl]
    rw [e, List.length_cons]
    have : c ≤ 3 := hc.2
    omega
theorem CalsOk.all {cs : List Cal} (h : CalsOk cs) : allW cs ≤ 24 := by
  have := allW_le h.ok h.c
  have := h.len
  omega
theorem allW_eq (cs : List Cal) : allW cs = (wt cs 0 0 + wt cs 1 1 + wt cs 2 2 + wt cs 3 3) + (rI cs 0 + rI cs 1 + rI cs 2 + rI cs 3) := by
  show ([wt cs 0 0, wt cs 0 1, wt cs 0 2, wt cs 0 3].sum + ([wt cs 1 0, wt cs 1 1, wt cs 1 2, wt cs 1 3].sum + ([wt cs 2 0, wt cs 2 1, wt cs 2 2, wt cs 2 3].sum + ([wt cs 3 0, wt cs 3 1, wt cs 3 2, wt cs 3 3].sum + 0)))) = _ + ([wt cs 0 1, wt cs 0 2, wt cs 0 3].sum + [wt cs 1 0, wt cs 1 2, wt cs 1 3].sum + [wt cs 2 0, wt cs 2 1, wt cs 2 3].sum + [wt cs 3 0, wt cs 3 1, wt cs 3 2].sum)
  simp only [List.sum_cons, List.sum_nil]
  omega
theorem rI_nonneg {cs : List Cal} (h : CalsOk cs) (i : Int) : 0 ≤ rI cs i := by
  unfold rI
  generalize four.filter (fun q => decide (q ≠ i)) = l
  induction l with
  | nil => exact Int.le_refl _
  | cons a l ih => rw [List.map_cons, List.sum_cons]; exact Int.add_nonneg (wt_nonneg h.c i a) ih
theorem wt_le_rI {cs : List Cal} (h : CalsOk cs) {i j : Int} (hj : In4 j) (hij : j ≠ i) : wt cs i j ≤ rI cs i := by
  unfold rI
  have hm : j ∈ four.filter (fun q => decide (q ≠ i)) := List.mem_filter.mpr ⟨in_four hj, decide_eq_true hij⟩
  generalize four.filter (fun q => decide (q ≠ i)) = l at hm
  induction l with
  | nil => cases hm
  | cons a l ih =>
    rw [List.map_cons, List.sum_cons]
    have h1 := wt_nonneg h.c i a
    rcases List.mem_cons.mp hm with rfl | hm
    · have : 0 ≤ (l.map fun q => wt cs i q).sum := by
        clear ih hm
        induction l with
        | nil => exact Int.le_refl _
        | cons b l ih => rw [List.map_cons, List.sum_cons]; exact Int.add_nonneg (wt_nonneg h.c i b) ih
      omega
    · have := ih hm
      omega
theorem rI_sum {cs : List Cal} (h : CalsOk cs) : rI cs 0 + rI cs 1 + rI cs 2 + rI cs 3 ≤ 24 := by
  have h1 := h.all
  rw [allW_eq] at h1
  have := wt_nonneg h.c 0 0
  have := wt_nonneg h.c 1 1
  have := wt_nonneg h.c 2 2
  have := wt_nonneg h.c 3 3
  omega
theorem rI_le {cs : List Cal} (h : CalsOk cs) {i : Int} (hi : In4 i) : rI cs i ≤ 24 := by
  have h1 := rI_sum h
  have h0 := rI_nonneg h 0
  have h2 := rI_nonneg h 1
  have h3 := rI_nonneg h 2
  have h4 := rI_nonneg h 3
  rcases hi with rfl | rfl | rfl | rfl <;> omega
theorem wt_le {cs : List Cal} (h : CalsOk cs) {i j : Int} (hi : In4 i) (hj : In4 j) : wt cs i j ≤ 24 := by
  by_cases hij : j = i
  · subst hij
    have h1 := h.all
    rw [allW_eq] at h1
    have := wt_nonneg h.c 0 0
    have := wt_nonneg h.c 1 1
    have := wt_nonneg h.c 2 2
    have := wt_nonneg h.c 3 3
    have := rI_nonneg h 0
    have := rI_nonneg h 1
    have := rI_nonneg h 2
    have := rI_nonneg h 3
    rcases hj with rfl | rfl | rfl | rfl <;> omega
  · exact Int.le_trans (wt_le_rI h hj hij) (rI_le h hi)
theorem wt_out {cs : List Cal} (h : ∀ x ∈ cs, x.ok) {i j : Int} (hij : ¬ (In4 i ∧ In4 j)) : wt cs i j = 0 := by
  unfold wt
  rw [List.filter_eq_nil_iff.mpr]
  · rfl
  · intro x hx hb
    obtain ⟨hp, hq⟩ := h x hx
    simp only [Bool.and_eq_true, beq_iff_eq] at hb
    exact hij ⟨by unfold In4; omega, by unfold In4; omega⟩
theorem CalsOk.wtOk {cs : List Cal} (h : CalsOk cs) : WtOk cs := ⟨wt_nonneg h.c, fun i j => by
  by_cases hij : In4 i ∧ In4 j
  · exact wt_le h hij.1 hij.2
  · rw [wt_out h.ok hij]; omega⟩
/-! ## the totals -/
theorem numOf_one : ∀ l : List Int, numOf 1 l = l.sum
  | [] => rfl
  | a :: l => by simp [numOf, numOf_one l]
theorem tot_mono {left : List Int} : ∀ (ws : List Way) (tot : List Int), tot.length = left.length + 1 → (∀ w ∈ ws, 0 ≤ w.2) → ∀ r : Nat, (tot[r]?).getD 0 ≤ ((ws.foldl (totStep left) tot)[r]?).getD 0
  | [], tot, _, _, r => Int.le_refl _
  | w :: ws, tot, h, hw, r => by
    refine Int.le_trans ?_ (tot_mono ws _ (by rw [totStep_len]; exact h) (fun w' hw' => hw w' (List.mem_cons_of_mem _ hw')) r)
    have h0 := hw w List.mem_cons_self
    unfold totStep
    split
    · rename_i a b c d x
      split
      · have hr : rootsOf a b c d left ≤ left.length := List.length_filter_le ..
        rw [List.getElem?_set]
        split
        · rename_i e
          rw [if_pos (by omega), ← e]
          show _ ≤ (tot[rootsOf a b c d left]?).getD 0 + x
          have : 0 ≤ x := h0
          omega
        · exact Int.le_refl _
      · exact Int.le_refl _
    · exact Int.le_refl _
theorem tot_hit {left : List Int} {a b c d x : Int} (hac : acyc a b c d = true) : ∀ (ws : List Way) (tot : List Int), tot.length = left.length + 1 → (∀ w ∈ ws, 0 ≤ w.2) → ([a, b, c, d], x) ∈ ws → (∀ r : Nat, 0 ≤ (tot[r]?).getD 0) → x ≤ ((ws.foldl (totStep left) tot)[rootsOf a b c d left]?).getD 0
  | [], _, _, _, hm, _ => by cases hm
  | w :: ws, tot, h, hw, hm, h0 => by
    rw [List.foldl_cons]
    have hl : (totStep left tot w).length = left.length + 1 := by rw [totStep_len]; exact h
    have hw' : ∀ w ∈ ws, 0 ≤ w.2 := fun w' hw' => hw w' (List.mem_cons_of_mem _ hw')
    rcases List.mem_cons.mp hm with rfl | hm
    · refine Int.le_trans ?_ (tot_mono ws _ hl hw' _)
      have hr : rootsOf a b c d left ≤ left.length := List.length_filter_le ..
      show _ ≤ ((if acyc a b c d = true then tot.set (rootsOf a b c d left) ((tot[rootsOf a b c d left]?).getD 0 + x) else tot)[rootsOf a b c d left]?).getD 0
      rw [if_pos hac, List.getElem?_set, if_pos rfl, if_pos (by omega)]
      have := h0 (rootsOf a b c d left)
      show _ ≤ (tot[rootsOf a b c d left]?).getD 0 + x
      omega
    · exact tot_hit hac ws _ hl hw' hm fun r => Int.le_trans (h0 r) (tot_mono [w] tot h (fun w' hw'' => by rw [List.mem_singleton.mp hw'']; exact hw w List.mem_cons_self) r)
theorem rep0 (n r : Nat) : ((List.replicate n (0 : Int))[r]?).getD 0 = 0 := by
  rw [List.getElem?_replicate]
  split <;> rfl
end Mine
set_option maxRecDepth 100000
set_option linter.unusedVariables false
namespace Mine
open PySem PySem.W PyProof.Rows PySem.Calls
theorem sum_le {f g : Int → Int} : ∀ {l : List Int}, (∀ a ∈ l, f a ≤ g a) → (l.map f).sum ≤ (l.map g).sum
  | [], _ => Int.le_refl _
  | a :: l, h => by
    rw [List.map_cons, List.map_cons, List.sum_cons, List.sum_cons]
    exact Int.add_le_add (h a List.mem_cons_self) (sum_le fun b hb => h b (List.mem_cons_of_mem _ hb))
theorem sum_mul_r (x : Int) (f : Int → Int) (l : List Int) : (l.map fun a => f a * x).sum = (l.map f).sum * x := by
  rw [Int.mul_comm, sum_mul, List.map_map]
  congr 1
  refine List.map_congr_left fun a _ => ?_
  show f a * x = x * f a
  exact Int.mul_comm ..
noncomputable def Xi (cs : List Cal) (left : List Int) (i : Int) : Int := ((Uof left i).map fun u => Hv cs i u).sum
theorem sum_nn {f : Int → Int} {l : List Int} (h : ∀ a ∈ l, 0 ≤ f a) : 0 ≤ (l.map f).sum := by
  induction l with
  | nil => exact Int.le_refl _
  | cons a l ih => rw [List.map_cons, List.sum_cons]; exact Int.add_nonneg (h a List.mem_cons_self) (ih fun b hb => h b (List.mem_cons_of_mem _ hb))
theorem Ssum_le {cs : List Cal} (hw : WtOk cs) (left : List Int) (F : List Int → Int) (hF : ∀ p, F p ≤ 1) : Ssum cs left F ≤ Xi cs left 0 * (Xi cs left 1 * (Xi cs left 2 * Xi cs left 3)) := by
  have hn : ∀ i u : Int, 0 ≤ Hv cs i u := fun i u => (Hv_ok hw i u).1
  have xn : ∀ i, 0 ≤ Xi cs left i := fun i => sum_nn fun a _ => hn i a
  have st : ∀ (i X : Int) (G : Int → Int), (∀ u, G u ≤ X) → ((Uof left i).map fun u => Hv cs i u * G u).sum ≤ Xi cs left i * X := fun i X G hG => by
    rw [Xi, ← sum_mul_r]
    exact sum_le fun u _ => Int.mul_le_mul_of_nonneg_left (hG u) (hn i u)
  refine st 0 _ _ fun a => st 1 _ _ fun b => st 2 _ _ fun c => ?_
  have := st 3 1 (fun d => F [a, b, c, d]) fun d => hF _
  rw [Int.mul_one] at this
  exact this
theorem Xi_le {cs : List Cal} (h : CalsOk cs) (left : List Int) {i : Int} (hi : In4 i) : Xi cs left i ≤ 1 + rI cs i ∧ 0 ≤ Xi cs left i := by
  have hr := rI_nonneg h i
  refine ⟨?_, sum_nn fun a _ => (Hv_ok h.wtOk i a).1⟩
  unfold Xi Uof
  split
  · refine Int.le_of_eq ?_
    rcases hi with rfl | rfl | rfl | rfl
    · show [1, wt cs 0 1, wt cs 0 2, wt cs 0 3].sum = 1 + [wt cs 0 1, wt cs 0 2, wt cs 0 3].sum
      simp only [List.sum_cons, List.sum_nil]
    · show [wt cs 1 0, 1, wt cs 1 2, wt cs 1 3].sum = 1 + [wt cs 1 0, wt cs 1 2, wt cs 1 3].sum
      simp only [List.sum_cons, List.sum_nil]; omega
    · show [wt cs 2 0, wt cs 2 1, 1, wt cs 2 3].sum = 1 + [wt cs 2 0, wt cs 2 1, wt cs 2 3].sum
      simp only [List.sum_cons, List.sum_nil]; omega
    · show [wt cs 3 0, wt cs 3 1, wt cs 3 2, 1].sum = 1 + [wt cs 3 0, wt cs 3 1, wt cs 3 2].sum
      simp only [List.sum_cons, List.sum_nil]; omega
  · have e : Hv cs i i = 1 := if_pos rfl
    simp only [List.map_cons, List.map_nil, List.sum_cons, List.sum_nil, e]
    omega
theorem sq_nonneg (x : Int) : 0 ≤ x * x := by
  rcases Int.le_total 0 x with h | h
  · exact Int.mul_nonneg h h
  · exact Int.mul_nonneg_of_nonpos_of_nonpos h h
theorem four_le {x y : Int} : 4 * (x * y) ≤ (x + y) * (x + y) := by
  have h := sq_nonneg (x - y)
  have e : (x + y) * (x + y) = 4 * (x * y) + (x - y) * (x - y) := by grind
  omega
theorem prod_le {x y z w : Int} (hx : 0 ≤ x) (hy : 0 ≤ y) (hz : 0 ≤ z) (hw : 0 ≤ w) (h : x + y + z + w ≤ 28) : x * (y * (z * w)) ≤ 2401 := by
  have h1 := four_le (x := x) (y := y)
  have h2 := four_le (x := z) (y := w)
  have h3 := four_le (x := x + y) (y := z + w)
  have h4 : ((x + y) + (z + w)) * ((x + y) + (z + w)) ≤ 28 * 28 := Int.mul_le_mul (by omega) (by omega) (by omega) (by omega)
  have h5 : (x + y) * (z + w) ≤ 196 := by omega
  have h6 : (4 * (x * y)) * (4 * (z * w)) ≤ ((x + y) * (x + y)) * ((z + w) * (z + w)) := Int.mul_le_mul h1 h2 (Int.mul_nonneg (by omega) (Int.mul_nonneg hz hw)) (sq_nonneg _)
  have h7 : ((x + y) * (z + w)) * ((x + y) * (z + w)) ≤ 196 * 196 := Int.mul_le_mul h5 h5 (Int.mul_nonneg (by omega) (by omega)) (by omega)
  have e1 : (4 * (x * y)) * (4 * (z * w)) = 16 * (x * (y * (z * w))) := by grind
  have e2 : ((x + y) * (x + y)) * ((z + w) * (z + w)) = ((x + y) * (z + w)) * ((x + y) * (z + w)) := by grind
  omega
theorem Fw_one (left : List Int) (p : List Int) : Fw left 1 p ≤ 1 := by
  unfold Fw
  split
  · split
    · rw [Int.one_pow]; omega
    · omega
  · omega
theorem total_le {cs : List Cal} (h : CalsOk cs) (left : List Int) : (forestTotals cs left).sum ≤ 2401 := by
  rw [← numOf_one, numOf_forest, ways_sum h.wtOk]
  refine Int.le_trans (Ssum_le h.wtOk left _ (Fw_one left)) ?_
  have x0 := Xi_le h left (i := 0) (.inl rfl)
  have x1 := Xi_le h left (i := 1) (.inr (.inl rfl))
  have x2 := Xi_le h left (i := 2) (.inr (.inr (.inl rfl)))
  have x3 := Xi_le h left (i := 3) (.inr (.inr (.inr rfl)))
  have hr := rI_sum h
  exact prod_le x0.2 x1.2 x2.2 x3.2 (by omega)
theorem mem_step {h0 h1 h2 h3 : Int} {us : List Int} {ws : List Way} {v : Way} {u : Int} (hv : v ∈ ws) (hu : u ∈ us) : ((v.1 ++ [u], v.2 * pick4 h0 h1 h2 h3 u) : Way) ∈ step4 h0 h1 h2 h3 us ws :=
  List.mem_flatten.mpr ⟨_, List.mem_map.mpr ⟨v, hv, rfl⟩, List.mem_map.mpr ⟨u, hu, rfl⟩⟩
theorem self_ups (cs : List Cal) (left : List Int) {i : Int} (hi : In4 i) : i ∈ upsOf (Hv cs i 0) (Hv cs i 1) (Hv cs i 2) (Hv cs i 3) left i := by
  unfold upsOf
  split
  · refine List.mem_filter.mpr ⟨in_four hi, ?_⟩
    rw [pick_Hv cs i hi, show Hv cs i i = 1 from if_pos rfl]; rfl
  · exact List.mem_singleton.mpr rfl
theorem id_way (cs : List Cal) (left : List Int) : (([0, 1, 2, 3], 1) : Way) ∈ waysAt cs left 4 := by
  have st : ∀ (k : Nat) (p : List Int), k < 4 → ((p, 1) : Way) ∈ waysAt cs left k → ((p ++ [(k : Int)], 1) : Way) ∈ waysAt cs left (k + 1) := fun k p hk hm => by
    have hi : In4 (k : Int) := by unfold In4; omega
    have h := mem_step (h0 := Hv cs k 0) (h1 := Hv cs k 1) (h2 := Hv cs k 2) (h3 := Hv cs k 3) hm (self_ups cs left hi)
    rw [pick_Hv cs k hi, show Hv cs (k : Int) k = 1 from if_pos rfl] at h
    exact h
  exact st 3 _ (by omega) (st 2 _ (by omega) (st 1 _ (by omega) (st 0 [] (by omega) (List.mem_singleton.mpr rfl))))
structure TotOk (l : List Int) (n : Nat) : Prop where
  len : l.length = n + 1
  dig : ∀ d ∈ l, 0 ≤ d ∧ d < 4096
  last : 1 ≤ (l[n]?).getD 0
theorem le_sum {l : List Int} (h : ∀ d ∈ l, 0 ≤ d) : ∀ d ∈ l, d ≤ l.sum := by
  induction l with
  | nil => intro d hd; cases hd
  | cons a l ih =>
    intro d hd
    have hl : 0 ≤ l.sum := by
      have := sum_nn (f := id) (l := l) fun b hb => h b (List.mem_cons_of_mem _ hb)
      simpa using this
    rw [List.sum_cons]
    rcases List.mem_cons.mp hd with rfl | hd
    · omega
    · have h1 := ih (fun b hb => h b (List.mem_cons_of_mem _ hb)) d hd
      have h2 := h a List.mem_cons_self
      omega
theorem totals_ok {cs : List Cal} (h : CalsOk cs) {left : List Int} (hin : ∀ j ∈ left, In4 j) : TotOk (forestTotals cs left) left.length := by
  have hww : ∀ w ∈ waysAt cs left 4, 0 ≤ w.2 := fun w hw => ((waysAt_ok h.wtOk left 4 (by omega)).2 w hw).2.1
  have hlen : (forestTotals cs left).length = left.length + 1 := by
    unfold forestTotals
    have : ∀ (l : List Way) (t : List Int), (l.foldl (totStep left) t).length = t.length := by
      intro l
      induction l with
      | nil => intro t; rfl
      | cons y l ih => intro t; rw [List.foldl_cons, ih, totStep_len]
    rw [this]; simp
  have hnn : ∀ d ∈ forestTotals cs left, 0 ≤ d := fun d hd => by
    obtain ⟨r, hr, rfl⟩ := List.mem_iff_getElem.mp hd
    have h1 := tot_mono (left := left) (waysAt cs left 4) (List.replicate (left.length + 1) 0) (by simp) hww r
    rw [rep0] at h1
    have h2 : ((forestTotals cs left)[r]?).getD 0 = (forestTotals cs left)[r] := by rw [List.getElem?_eq_getElem hr]; rfl
    rw [← h2]; exact h1
  refine ⟨hlen, fun d hd => ⟨hnn d hd, ?_⟩, ?_⟩
  · have h1 := le_sum hnn d hd
    have h2 := total_le h left
    omega
  · have h1 := tot_hit (left := left) (a := 0) (b := 1) (c := 2) (d := 3) (x := 1) (by decide) (waysAt cs left 4) (List.replicate (left.length + 1) 0) (by simp) hww (id_way cs left) (fun r => by rw [rep0]; omega)
    have e : rootsOf 0 1 2 3 left = left.length := by
      unfold rootsOf
      rw [List.filter_eq_self.mpr]
      intro j hj
      rcases hin j hj with rfl | rfl | rfl | rfl <;> rfl
    rw [e] at h1
    exact h1
theorem digs_of {B : Int} (hB : 0 < B) : ∀ {l : List Int}, (∀ d ∈ l, 0 ≤ d ∧ d < B) → digs B l.length (numOf B l) = l
  | [], _ => rfl
  | a :: l, h => by
    have ha := h a List.mem_cons_self
    simp only [List.length_cons, digs, numOf]
    rw [Int.add_mul_emod_self_left, Int.emod_eq_of_lt ha.1 ha.2, Int.add_mul_ediv_left _ _ (by omega), Int.ediv_eq_zero_of_lt ha.1 ha.2, Int.zero_add, digs_of hB fun d hd => h d (List.mem_cons_of_mem _ hd)]
theorem numOf_ge {B : Int} (hB : 1 ≤ B) : ∀ {l : List Int} {n : Nat}, l.length = n + 1 → (∀ d ∈ l, 0 ≤ d) → 1 ≤ (l[n]?).getD 0 → B ^ n ≤ numOf B l
  | [a], 0, _, _, h => by simp [numOf] at h ⊢; exact h
  | a :: b :: l, n + 1, hl, h0, h => by
    have ih := numOf_ge hB (l := b :: l) (n := n) (by simpa using hl) (fun d hd => h0 d (List.mem_cons_of_mem _ hd)) (by simpa using h)
    have ha := h0 a List.mem_cons_self
    rw [numOf, Int.pow_succ, Int.mul_comm]
    have := Int.mul_le_mul_of_nonneg_left ih (show 0 ≤ B by omega)
    omega
theorem bits_of {D : Int} {n : Nat} (h1 : (4096 : Int) ^ n ≤ D) (h2 : D < 4096 ^ (n + 1)) : (Builtin.Int.intBits D + 12 - 1) / 12 = n + 1 := by
  have e : ∀ j, (4096 : Int) ^ j = 2 ^ (12 * j) := fun j => by rw [Int.pow_mul]; rfl
  rw [e] at h1 h2
  have hp : (0 : Int) < 2 ^ (12 * n) := Int.pow_pos (by decide)
  have hb := bits_le (by omega) h2
  have hlow : 12 * n < Builtin.Int.intBits D := by
    rcases Nat.lt_or_ge (12 * n) (Builtin.Int.intBits D) with h | h
    · exact h
    · have h3 := intBits_le_iff.mp h
      have h4 : ((D.natAbs : Nat) : Int) < ((2 ^ (12 * n) : Nat) : Int) := Int.ofNat_lt.mpr h3
      rw [Int.natAbs_of_nonneg (by omega)] at h4
      have : (((2 ^ (12 * n) : Nat) : Int)) = 2 ^ (12 * n) := by simp
      omega
  omega
end Mine
set_option maxRecDepth 100000
set_option linter.unusedVariables false
namespace Mine
open PySem PySem.W PyProof.Rows PySem.Calls
theorem sum_hit2 (c : Int) (b : Bool) {q i : Nat} (hq : q < 4) (hi : i < 4) : ((four.filter fun j => decide (j ≠ (i : Int))).map fun j => if (b && ((q : Int) == j)) = true then c else 0).sum = if (b && q != i) = true then c else 0 := by
  unfold four
  rcases nat4 hq with rfl | rfl | rfl | rfl <;> rcases nat4 hi with rfl | rfl | rfl | rfl <;> cases b <;> simp
theorem cc_r {cs : List Cal} (h : ∀ x ∈ cs, x.ok) {i : Nat} (hi : i < 4) : ccI cs i = rI cs i := by
  induction cs with
  | nil =>
    rcases nat4 hi with rfl | rfl | rfl | rfl <;> rfl
  | cons x cs ih =>
    obtain ⟨p, q, c⟩ := x
    obtain ⟨hp, hq⟩ := h _ List.mem_cons_self
    have ih := ih fun y hy => h y (List.mem_cons_of_mem _ hy)
    have e1 : ccI (⟨p, q, c⟩ :: cs) i = (if (((p : Int) == (i : Int)) && q != i) = true then c else 0) + ccI cs i := by
      unfold ccI
      rw [List.filter_cons, natI]
      show (List.map _ (if (p == i && q != i) = true then _ else _)).sum = _
      split <;> simp
    have e2 : rI (⟨p, q, c⟩ :: cs) i = (if (((p : Int) == (i : Int)) && q != i) = true then c else 0) + rI cs i := by
      unfold rI
      have e3 : (fun j : Int => wt (⟨p, q, c⟩ :: cs) i j) = fun j => (if (((p : Int) == (i : Int)) && ((q : Int) == j)) = true then c else 0) + wt cs i j := by
        funext j; exact wt_cons ..
      rw [e3, sum_add, sum_hit2 c _ hq hi]
    rw [e1, e2, ih]
theorem mat_eq {cs : List Cal} (h : CalsOk cs) {e : Nat → Ent} (he : BookAt ent0 e cs) {i j : Int} (hi : In4 i) (hj : In4 j) : matE e i j = mI cs 4096 i j := by
  have ei : ((i.toNat : Nat) : Int) = i := Int.toNat_of_nonneg (by unfold In4 at hi; omega)
  have ej : ((j.toNat : Nat) : Int) = j := Int.toNat_of_nonneg (by unfold In4 at hj; omega)
  unfold matE mI
  split
  · have h1 := he.cc i.toNat
    have h2 := cc_r h.ok (i := i.toNat) (by unfold In4 at hi; omega)
    rw [ei] at h2
    rw [h1, h2]
    show 4096 + (0 + rI cs i) = 4096 + rI cs i
    omega
  · have h1 := he.get i.toNat j.toNat (by unfold In4 at hj; omega)
    rw [ei, ej] at h1
    rw [h1]
    show -(0 + wt cs i j) = _
    omega
theorem matV_eq {cs : List Cal} (h : CalsOk cs) {e : Nat → Ent} (he : BookAt ent0 e cs) {left : List Int} (hin : ∀ i ∈ left, In4 i) : matV e left = left.map fun i => left.map fun j => mI cs 4096 i j := by
  unfold matV
  exact List.map_congr_left fun i hi => List.map_congr_left fun j hj => mat_eq h he (hin i hi) (hin j hj)
theorem mb {cs : List Cal} (h : CalsOk cs) {i j : Int} (hi : In4 i) (hj : In4 j) : (mI cs 4096 i j).natAbs < 2 ^ 13 := by
  unfold mI
  split
  · have h1 := rI_nonneg h i
    have h2 := rI_le h hi
    show (4096 + rI cs i).natAbs < 8192
    omega
  · have h1 := wt_nonneg h.c i j
    have h2 := wt_le h hi hj
    show (-(wt cs i j)).natAbs < 8192
    omega
theorem mdiag {cs : List Cal} (i : Int) : mI cs 4096 i i = 4096 + rI cs i := if_pos rfl
theorem moff {cs : List Cal} {i j : Int} (h : j ≠ i) : mI cs 4096 i j = -(wt cs i j) := if_neg h
theorem corner1 {cs : List Cal} (h : CalsOk cs) (i : Int) : 2 ^ 12 ≤ mI cs 4096 i i := by
  have h1 := rI_nonneg h i
  rw [mdiag]
  show 4096 ≤ 4096 + rI cs i
  omega
theorem corner2 {cs : List Cal} (h : CalsOk cs) {i j : Int} (hi : In4 i) (hj : In4 j) (hij : i ≠ j) : 2 ^ 24 ≤ mI cs 4096 i i * mI cs 4096 j j - mI cs 4096 j i * mI cs 4096 i j := by
  have h1 := wt_le_rI h hj (Ne.symm hij)
  have h2 := wt_le_rI h hi hij
  have h3 := wt_nonneg h.c i j
  have h4 := wt_nonneg h.c j i
  rw [mdiag, mdiag, moff (Ne.symm hij), moff hij]
  have h5 : (4096 + wt cs i j) * (4096 + wt cs j i) ≤ (4096 + rI cs i) * (4096 + rI cs j) := Int.mul_le_mul (by omega) (by omega) (by omega) (by omega)
  have e : (4096 + wt cs i j) * (4096 + wt cs j i) - -wt cs j i * -wt cs i j = 16777216 + 4096 * (wt cs i j + wt cs j i) := by grind
  show (16777216 : Int) ≤ _
  omega
section
variable {W : Wd} {c3 P3 c4 P4 : Addr}
theorem elim_all (B : Base W c3 P3 c4 P4) {cs : List Cal} (h : CalsOk cs) {left : List Int} (hin : ∀ i ∈ left, In4 i) (hnd : left.Nodup) (hl : left.length ≤ 4) (hD : (detM (mI cs 4096) left).natAbs < big) :
    Elim (cfg (stdΦ W 13 resA)) 1 (left.map fun i => left.map fun j => mI cs 4096 i j) (detM (mI cs 4096) left) := by
  rcases left with _ | ⟨i, _ | ⟨j, _ | ⟨k, _ | ⟨l, _ | ⟨m, r⟩⟩⟩⟩⟩
  · exact elim0
  · exact elim1 hD
  · have hi := hin i (by simp)
    have hj := hin j (by simp)
    exact elim2 (mb h hi hi) (mb h hi hj) (mb h hj hi) (mb h hj hj)
  · have hi := hin i (by simp)
    have hj := hin j (by simp)
    have hk := hin k (by simp)
    exact elim3 B (mb h hi hi) (mb h hi hj) (mb h hi hk) (mb h hj hi) (mb h hj hj) (mb h hj hk) (mb h hk hi) (mb h hk hj) (mb h hk hk) (corner1 h i)
  · have hi := hin i (by simp)
    have hj := hin j (by simp)
    have hk := hin k (by simp)
    have hl' := hin l (by simp)
    have hij : i ≠ j := fun e => by subst e; simp at hnd
    exact elim4 B (mb h hi hi) (mb h hi hj) (mb h hi hk) (mb h hi hl') (mb h hj hi) (mb h hj hj) (mb h hj hk) (mb h hj hl') (mb h hk hi) (mb h hk hj) (mb h hk hk) (mb h hk hl') (mb h hl' hi) (mb h hl' hj) (mb h hl' hk) (mb h hl' hl') (corner1 h i) (corner2 h hi hj hij) hD
  · simp at hl
theorem c_figures (B : Base W c3 P3 c4 P4) {cs : List Cal} (h : CalsOk cs) {e : Nat → Ent} (he : BookAt ent0 e cs) {left : List Int} (hm : left ∈ lefts) (hin : ∀ i ∈ left, In4 i) (hnd : left.Nodup) (hl : left.length ≤ 4) :
    Contract W 14 "_law_figures" [rowsV (matV e left)] (rowV (forestTotals cs left)) := by
  have T := totals_ok h hin
  have hD := matrix_tree h.wtOk hm hin hl 4096
  have hlo := numOf_ge (B := 4096) (by decide) T.len (fun d hd => (T.dig d hd).1) T.last
  have hhi := numOf_lt (B := 4096) (by decide) T.dig
  rw [T.len] at hhi
  rw [hD] at hlo hhi
  have hp : (0 : Int) < 4096 ^ left.length := Int.pow_pos (by decide)
  have h60 : (4096 : Int) ^ (left.length + 1) ≤ 4096 ^ 5 := by
    have : (4096 : Nat) ^ (left.length + 1) ≤ 4096 ^ 5 := Nat.pow_le_pow_right (by decide) (by omega)
    have e : ∀ n : Nat, (((4096 : Nat) ^ n : Nat) : Int) = (4096 : Int) ^ n := fun n => by simp
    rw [← e, ← e]
    exact Int.ofNat_le.mpr this
  have hbig : (detM (mI cs 4096) left).natAbs < big := by
    unfold big
    have : (4096 : Int) ^ 5 = 1152921504606846976 := by decide
    omega
  have hN := bits_of hlo hhi
  have hdig : digs (2 ^ 12) (left.length + 1) (detM (mI cs 4096) left) = forestTotals cs left := by
    have := digs_of (B := 4096) (by decide) T.dig
    rw [T.len, hD] at this
    exact this
  have hc := c_i2d B 12 (by decide) (detM (mI cs 4096) left) (by omega) (by rw [hN]; omega)
  rw [hN, hdig] at hc
  rw [matV_eq h he hin]
  refine (def_figures B).contract rfl (tri_figures (std_good (lv := 13) (res := resA) B) _ _ _ (elim_all B h hin hnd hl hbig) (std_some (hc.le (by omega)) ?_))
  show AV.list ((digs (2 ^ 12) ((Builtin.Int.intBits (detM (mI cs 4096) left) + 12 - 1) / 12) (detM (mI cs 4096) left)).map .int) = _
  rw [hN, hdig]; rfl
theorem c_forests (B : Base W c3 P3 c4 P4) {cs : List Cal} (h : CalsOk cs) {left : List Int} (hin : ∀ i ∈ left, In4 i) (hl : left.length ≤ 4) : Contract W 1 "_law_forests" [callsV cs, rowV left] (rowV (forestTotals cs left)) :=
  (def_forests B).contract rfl (tri_forests (std_good (lv := 0) (res := fun _ _ => .none) B) cs (by have := h.len; omega) h.wtOk left (by omega) hin)
theorem left_of (m : Int → Bool) : leftOf (([0, 1, 2, 3] : List Int).filter m) ∈ lefts ∧ (leftOf (([0, 1, 2, 3] : List Int).filter m)).Nodup ∧ (leftOf (([0, 1, 2, 3] : List Int).filter m)).length ≤ 4 ∧ ∀ i ∈ leftOf (([0, 1, 2, 3] : List Int).filter m), In4 i := by
  have e : ([0, 1, 2, 3] : List Int).filter m = (if m 0 then [0] else []) ++ ((if m 1 then [1] else []) ++ ((if m 2 then [2] else []) ++ (if m 3 then [3] else []))) := by
    simp only [List.filter_cons, List.filter_nil]
    cases m 0 <;> cases m 1 <;> cases m 2 <;> cases m 3 <;> rfl
  rw [e]
  refine ⟨?_, ?_, List.length_filter_le .., fun i hi => by have := (List.mem_filter.mp hi).1; simpa [In4] using this⟩
  · cases m 0 <;> cases m 1 <;> cases m 2 <;> cases m 3 <;> decide
  · cases m 0 <;> cases m 1 <;> cases m 2 <;> cases m 3 <;> decide
noncomputable def resC (r : List Int) (m : Int → Bool) (f : Str) (args : List AV) : AV := if f == ("_ellipsis_match" : Str) then (match args with
  | [_, .str g] => .bool (if g = nA then m 0 else if g = nB then m 1 else if g = nC then m 2 else m 3)
  | _ => .none) else rowV r
theorem c_counted (B : Base W c3 P3 c4 P4) {cs : List Cal} (h : CalsOk cs) {e : Nat → Ent} (he : BookAt ent0 e cs) (w : Str) (m : Int → Bool) (hm : ∀ j : Nat, j < 4 → Contract W 1 "_ellipsis_match" [.str w, .str (nam j)] (.bool (m j))) :
    Contract W 15 "_law_counted" [.dict (bookV e), .list namesV, callsV cs, .str w, rowV (([0, 1, 2, 3] : List Int).filter m)] (.bool true) := by
  obtain ⟨l1, l2, l3, l4⟩ := left_of m
  have T := totals_ok h l4
  refine (def_counted B).contract rfl (tri_counted (std_good (lv := 14) (res := resC (forestTotals cs (leftOf (([0, 1, 2, 3] : List Int).filter m))) m) B) e (fun i => ⟨(DictOk.of (he.ok i)).allI⟩) (callsV cs) w m (fun j hj => std_some ((hm j hj).le (by omega)) ?_) (forestTotals cs (leftOf (([0, 1, 2, 3] : List Int).filter m))) (by have := T.len; omega)
    (std_some (c_figures B h he l1 l4 l2 l3) rfl) (std_some ((c_forests B h l4 l3).le (by omega)) rfl))
  rcases nat4 hj with rfl | rfl | rfl | rfl <;> rfl
end
end Mine
set_option maxRecDepth 100000
set_option linter.unusedVariables false
namespace Mine
open PySem PySem.W PyProof.Rows PySem.Calls
noncomputable def resL (e : Nat → Ent) (f : Str) (args : List AV) : AV := if f == ("_law_book" : Str) then .dict (bookV e) else if f == ("_law_counted" : Str) then .bool true else match args with
  | [.dict m] => .int (sumv m)
  | [.tuple [.str a, .int i, .str g]] => .str (if a = "~" then nD else if a = "b" then nC else if i = 1 then nA else nB)
  | _ => .none
section
variable {W : Wd} {c3 P3 c4 P4 : Addr}
theorem calOf_all (ds : List Int) (h : ds.length ≤ 8) : CalsOk (ds.map calOf) :=
  ⟨fun x hx => let ⟨d, _, e⟩ := List.mem_map.mp hx; e ▸ calOf_ok d, fun x hx => let ⟨d, _, e⟩ := List.mem_map.mp hx; e ▸ calOf_c d, by simpa using h⟩
theorem c_law (B : Base W c3 P3 c4 P4) (script : List Int) (hs : script.length ≤ 63) : Contract W 16 "law" [rowV script] (.bool true) := by
  obtain ⟨cs, hcs⟩ : ∃ cs, cs = [calOf (drawOf script 0 17), calOf (drawOf script 1 2), calOf (drawOf script 2 38), calOf (drawOf script 3 9), calOf (drawOf script 4 1), calOf (drawOf script 5 11), calOf (drawOf script 6 31), calOf (drawOf script 7 12)] := ⟨_, rfl⟩
  have h : CalsOk cs := by
    rw [hcs]
    exact calOf_all [drawOf script 0 17, drawOf script 1 2, drawOf script 2 38, drawOf script 3 9, drawOf script 4 1, drawOf script 5 11, drawOf script 6 31, drawOf script 7 12] (by simp)
  have he := book_at cs ent0 h.ok ent0_ok
  have hb := c_book B cs h.ok (by have := h.len; omega)
  generalize hE : enterAll ent0 cs = e at he hb
  have nc : ∀ i : Nat, (e i).nc = madeI cs i := fun i => by
    rw [he.nc]
    show 0 + madeI cs i = _
    omega
  have hc : ∀ i : Nat, Contract W 15 "count_calls" [.dict (e i).t] (.int (madeI cs i)) ∧ sumv (e i).t = madeI cs i := fun i => by
    obtain ⟨is, hi⟩ := (he.ok i).2.2
    have h1 := sumv_is hi
    have h2 := he.sum i
    have h3 : sumv (e i).t = madeI cs i := by
      rw [h2]
      show 0 + madeI cs i = _
      omega
    have h4 := c_count B (e i).t is hi (by have := (DictOk.of (he.ok i)).len; omega)
    rw [← h1, h3] at h4
    exact ⟨h4.le (by omega), h3⟩
  have cnt : ∀ i : Nat, (cfg (stdΦ W 15 (resL e))).Φ "count_calls" [.dict (e i).t] = some (.int (madeI cs i)) := fun i => std_some (hc i).1 (by show AV.int (sumv (e i).t) = _; rw [(hc i).2])
  refine (def_law B).contract rfl (tri_law (std_good (lv := 15) (res := resL e) B) ⟨std_some ((c_std0 B).le (by omega)) rfl, std_some ((c_std1 B).le (by omega)) rfl, std_some ((c_std2 B).le (by omega)) rfl, std_some ((c_std3 B).le (by omega)) rfl⟩
    script hs cs e 0 0 hcs (std_some (hb.le (by omega)) rfl) (nc 0) (nc 1) (nc 2) (nc 3) (cnt 0) (cnt 1) (cnt 2) (cnt 3) (fun x y hx hy => std_some (c_counted B h he (patOf x y) (fitB x y) fun j hj => c_ell B hx hy j hj) rfl) fun z hz => ?_)
  have e1 : rowV [z] = rowV (([0, 1, 2, 3] : List Int).filter fun j => decide (z = j)) := by
    rcases hz with rfl | rfl | rfl | rfl <;> rfl
  rw [e1]
  exact std_some (c_counted B h he (nam z.toNat) (fun j => decide (z = j)) fun j hj => c_ell_name B hz j hj) rfl
end
end Mine
set_option Elab.async false
set_option maxRecDepth 100000
set_option maxHeartbeats 8000000
set_option linter.unusedVariables false
namespace Mine
open PySem PySem.W PyProof.Rows PySem.Calls
theorem maker_of {mg mb : Str → Option Value} {mean : ExcName → Option Value} {h : Heap} (T : Top view (looseW view []) mean mg mb h) {k i : Nat} {P : Params} (e : (recsOf view)[i]? = some ⟨dnm k, prm k, bd P k, scp k, dps k⟩) : ∃ c Pl, Maker h mg k c Pl ∧ isCodeTable h Pl := by
  obtain ⟨a, o, fd, c, Pl, h1, h2, h3, h4, h5, h6⟩ := T.tab _ (List.mem_of_getElem? e)
  exact ⟨c, Pl, ⟨⟨a, o, fd, h1, h2, h3, h4⟩, CodeHd.of h5 h6, h6.2⟩, h6.isCodeTable⟩
theorem ints_rep {P : Params} {D : Fz} {vs : List Value} {ns : List Int} (h : IntsAre vs ns) : RepL P D (ns.map .int) vs := by
  induction h with
  | nil => exact .nil
  | cons n t _ ih => exact .cons (.int n t) ih
theorem law_end {w : World} {s₁ : Shared} {mg mb : Str → Option Value} {mean : ExcName → Option Value} (T : Top view (looseW view []) mean mg mb s₁.heap) {fa L : Addr} (hmg : mg lawRec.name = some (.ref fa)) {script : List Int} {vs : List Value}
    (hL : s₁.heap.IsList L vs.toArray) (hw : Well w.params s₁.heap (.ref L) (ofPy (.list (script.map .int)))) (hI : IntsAre vs script) (hlen : ¬ (63 : Int) < script.length) (p : Program) :
    wpAny (model p w) callerA (call (.ref fa) [.ref L]) (fun v s' => v = .bool true ∧ OldK s₁.heap s'.heap ∧ s'.os = s₁.os ∧ s'.gens = s₁.gens) NoE s₁ := by
  obtain ⟨c3, P3, m3, t3⟩ := maker_of (k := 35) (i := 2) (P := w.params) T (by kernel_rfl)
  obtain ⟨c4, P4, m4, t4⟩ := maker_of (k := 42) (i := 3) (P := w.params) T (by kernel_rfl)
  have S : Start s₁ mg mb mean c3 P3 c4 P4 := ⟨T, m3, m4⟩
  have B := base_of p w S
  obtain ⟨a, o', fd, h1, h2, h3, h4⟩ := c_law B script (by omega)
  have e1 : lawRec.name = "law" := by kernel_rfl
  have e2 : mg "law" = some (.ref a) := h1
  rw [e1, e2] at hmg
  cases hmg
  obtain ⟨oL, g1, g2, nL, g3⟩ := hL
  have g4 : s₁.heap.get? L = some (lObj vs 0) := by
    have e : ofPy (.list (script.map .int)) = .list (ofPys (script.map .int)) := rfl
    rw [e] at hw
    cases hw with
    | @list _ vs2 _ k1 _ =>
      rw [g1] at k1
      cases k1
      have : vs2.toArray = vs.toArray := by cases g3; rfl
      have : vs2 = vs := by simpa using congrArg Array.toList this
      rw [this] at g1
      exact g1
  have nT : ∀ t ∈ [P3, P4], t ≠ L := fun t ht e => by
    simp only [List.mem_cons, List.not_mem_nil, or_false] at ht
    rcases ht with rfl | rfl
    · have := m3.tab; rw [e, g4] at this; cases this
    · have := m4.tab; rw [e, g4] at this; cases this
  have hR : Room callerA 16 := ⟨rfl, by decide, by decide⟩
  have hok : Ok (theWd p w S) (addF (fun _ => none) L (lObj vs 0)) s₁ := ⟨GG.start S, fun b o e => by
    by_cases hb : b = L
    · subst hb; rw [addF_self] at e; cases e; exact g4
    · rw [addF_ne hb] at e; cases e⟩
  refine wpAny_mono (h4 callerA (addF (fun _ => none) L (lObj vs 0)) s₁ [.ref L] hR hok (fun t ht => by rw [addF_ne (nT t ht)]) (.cons (.list_ (addF_self ..) (ints_rep hI)) .nil)) (fun v s' h => ?_) fun _ _ x => x
  obtain ⟨D', x, rv⟩ := h
  refine ⟨rv.bool', ⟨fun b ob e => ?_, fun b ob e => ?_⟩, x.os, x.gens⟩
  · by_cases hb : b ∈ [P3, P4]
    · simp only [List.mem_cons, List.not_mem_nil, or_false] at hb
      have g := x.glob
      rcases hb with rfl | rfl
      · rw [m3.tab] at e; cases e
        obtain ⟨ps, hP, _⟩ := g.2.1
        exact .inr (.inl ⟨t3, rfl, #[], ps, rfl, by rw [Array.empty_append]; exact hP⟩)
      · rw [m4.tab] at e; cases e
        obtain ⟨ps, hP, _⟩ := g.2.2
        exact .inr (.inl ⟨t4, rfl, #[], ps, rfl, by rw [Array.empty_append]; exact hP⟩)
    · exact .inl (x.keep b ob hb e)
  · by_cases hb : b ∈ [P3, P4]
    · simp only [List.mem_cons, List.not_mem_nil, or_false] at hb
      have g := x.glob
      rcases hb with rfl | rfl
      · obtain ⟨ps, hP, _⟩ := g.2.1; exact ⟨_, hP⟩
      · obtain ⟨ps, hP, _⟩ := g.2.2; exact ⟨_, hP⟩
    · exact ⟨ob, x.keep b ob hb e⟩
end Mine
open PySem PySem.W PyProof.Rows PySem.Calls
theorem PySem.Challenge.cw_pe0190_01_holds : PySem.Challenge.rw_pe0190_01.Holds := by
  refine Mine.hdN ?_
  intro w s₀ s₁ mg mb G Y fa o pm cd doc dV kV ho hd hcd hD hmg hg args vals as hpre hlay hrd hwl hlo
  have T := G.T
  clear G Y ho hd hcd hD
  wrow_args hpre hlay hrd hwl hlo
  rename_i script _ _ _ _ _ _ _ L vs _ hL _ hw _ hI _ hlen _
  refine wpAny_mono (Mine.law_end T hmg hL hw hI hlen _) (fun v s' h => ?_) fun _ _ x => x.elim
  obtain ⟨rfl, h1, h2, h3⟩ := h
  exact ⟨.inl ⟨.bool true, .bool true, [], rfl, fun _ => by rfl, .bool true, by wrow_post, fun _ => ⟨List.nodup_nil, nofun⟩⟩, h1, h2, .of_eq (h3.trans hg)⟩
