import PyProof.Rows.All
import Wide.All
import OpenK.AllK
import Wide.FinOn
import PySem.Challenge.RW_sh0015_01
set_option Elab.async false

section
set_option maxRecDepth 100000
set_option linter.unusedVariables false
open PySem PySem.W PyProof.Rows PySem.Calls
namespace Mine

/-- a datum of the call: what a value stands for; a list or a tuple stands in the heap H by its number -/
inductive AV where
  | unb | none | bool (b : Bool) | int (i : Int) | str (s : Str) | ref (i : Nat)
  deriving DecidableEq
inductive AO where
  | list (xs : List AV)
  | tup (xs : List AV)
  deriving DecidableEq
structure St where
  m : List AV
  H : List AO
  z : Nat := 0

noncomputable def VRel (σ : List Addr) : AV → Value → Prop
  | .none, .none => True
  | .bool b, .bool b' => b = b'
  | .int i, .int j _ => i = j
  | .str x, .str y _ => x = y
  | .ref i, .ref a => σ[i]? = some a
  | _, _ => False

theorem VRel.mono {σ σ' : List Addr} (h : σ <+: σ') : ∀ {v : AV} {a : Value}, VRel σ v a → VRel σ' v a := by
  intro v a r
  cases v <;> cases a <;> first | exact r | skip
  obtain ⟨t, rfl⟩ := h
  rename_i i a
  have r' : σ[i]? = some a := r
  show (σ ++ t)[i]? = some a
  have hl : i < σ.length := (List.getElem?_eq_some_iff.mp r').1
  rw [List.getElem?_append_left hl]; exact r'

noncomputable def VsRel (σ : List Addr) : List AV → List Value → Prop
  | [], [] => True
  | v :: vs, a :: as => VRel σ v a ∧ VsRel σ vs as
  | _, _ => False
theorem VsRel.mono {σ σ' : List Addr} (h : σ <+: σ') : ∀ {vs : List AV} {as : List Value}, VsRel σ vs as → VsRel σ' vs as
  | [], [], _ => trivial
  | _ :: _, _ :: _, r => ⟨VRel.mono h r.1, VsRel.mono h r.2⟩
  | [], _ :: _, r => r.elim
  | _ :: _, [], r => r.elim
theorem VsRel.length {σ : List Addr} : ∀ {vs : List AV} {as : List Value}, VsRel σ vs as → as.length = vs.length
  | [], [], _ => rfl
  | _ :: _, _ :: _, r => congrArg (· + 1) (VsRel.length r.2)
  | [], _ :: _, r => r.elim
  | _ :: _, [], r => r.elim
theorem VsRel.get {σ : List Addr} : ∀ {vs : List AV} {as : List Value}, VsRel σ vs as → ∀ {i : Nat} {v : AV}, vs[i]? = some v → ∃ a, as[i]? = some a ∧ VRel σ v a
  | [], [], _, _, _, e => by simp at e
  | _ :: _, a :: _, r, 0, _, e => ⟨a, rfl, by cases e; exact r.1⟩
  | _ :: vs, _ :: as, r, i + 1, v, e => VsRel.get (vs := vs) (as := as) r.2 (i := i) (v := v) (by simpa using e)
  | [], _ :: _, r, _, _, _ => r.elim
  | _ :: _, [], r, _, _, _ => r.elim
theorem VsRel.append {σ : List Addr} : ∀ {vs ws : List AV} {as bs : List Value}, VsRel σ vs as → VsRel σ ws bs → VsRel σ (vs ++ ws) (as ++ bs)
  | [], _, [], _, _, h => h
  | _ :: _, _, _ :: _, _, r, h => ⟨r.1, VsRel.append r.2 h⟩
  | [], _, _ :: _, _, r, _ => r.elim
  | _ :: _, _, [], _, r, _ => r.elim
theorem VsRel.one {σ : List Addr} {v : AV} {a : Value} (h : VRel σ v a) : VsRel σ [v] [a] := ⟨h, trivial⟩
theorem VsRel.take {σ : List Addr} : ∀ (n : Nat) {vs : List AV} {as : List Value}, VsRel σ vs as → VsRel σ (vs.take n) (as.take n)
  | 0, _, _, _ => by simp [VsRel]
  | n + 1, [], [], _ => by simp [VsRel]
  | n + 1, _ :: _, _ :: _, r => ⟨r.1, VsRel.take n r.2⟩
  | _, [], _ :: _, r => r.elim
  | _, _ :: _, [], r => r.elim
theorem VsRel.drop {σ : List Addr} : ∀ (n : Nat) {vs : List AV} {as : List Value}, VsRel σ vs as → VsRel σ (vs.drop n) (as.drop n)
  | 0, _, _, h => h
  | n + 1, [], [], _ => by simp [VsRel]
  | n + 1, _ :: _, _ :: _, r => VsRel.drop n r.2
  | _, [], _ :: _, r => r.elim
  | _, _ :: _, [], r => r.elim
theorem VsRel.cons_inv {σ : List Addr} {v : AV} {vs : List AV} {as : List Value} (h : VsRel σ (v :: vs) as) : ∃ a as', as = a :: as' ∧ VRel σ v a ∧ VsRel σ vs as' := by
  cases as with
  | nil => exact h.elim
  | cons a as => exact ⟨a, as, rfl, h.1, h.2⟩
theorem VsRel.nil_inv {σ : List Addr} {as : List Value} (h : VsRel σ [] as) : as = [] := by
  cases as with
  | nil => rfl
  | cons a as => exact h.elim

theorem VRel.int_inv {σ : List Addr} {i : Int} {a : Value} (h : VRel σ (.int i) a) : ∃ t, a = .int i t := by
  cases a <;> first | exact h.elim | (cases h; exact ⟨_, rfl⟩)
theorem VRel.str_inv {σ : List Addr} {x : Str} {a : Value} (h : VRel σ (.str x) a) : ∃ t, a = .str x t := by
  cases a <;> first | exact h.elim | (cases h; exact ⟨_, rfl⟩)
theorem VRel.bool_inv {σ : List Addr} {b : Bool} {a : Value} (h : VRel σ (.bool b) a) : a = .bool b := by
  cases a <;> first | exact h.elim | (cases h; rfl)
theorem VRel.none_inv {σ : List Addr} {a : Value} (h : VRel σ .none a) : a = .none := by
  cases a <;> first | exact h.elim | rfl
theorem VRel.ref_inv {σ : List Addr} {i : Nat} {a : Value} (h : VRel σ (.ref i) a) : ∃ c, a = .ref c ∧ σ[i]? = some c := by
  cases a <;> first | exact h.elim | exact ⟨_, rfl, h⟩

noncomputable def listObj (vs : List Value) (n : Nat) : Obj := { cls := .type "list", dict := none, data := .seq vs.toArray n, slots := #[] }
noncomputable def tupObj (vs : List Value) (n : Nat) : Obj := { cls := .type "tuple", dict := none, data := .seq vs.toArray n, slots := #[] }

noncomputable def ObjAt (σ : List Addr) (h : Heap) (a : Addr) : AO → Prop
  | .list xs => ∃ vs n, h.get? a = some (listObj vs n) ∧ VsRel σ xs vs
  | .tup xs => ∃ vs n, h.get? a = some (tupObj vs n) ∧ VsRel σ xs vs
theorem ObjAt.lt {σ : List Addr} {h : Heap} {a : Addr} {o : AO} (x : ObjAt σ h a o) : a < h.objs.size := by
  cases o <;> (obtain ⟨vs, n, e, _⟩ := x; exact Heap.lt_size e)
theorem ObjAt.mono {σ σ' : List Addr} {h h' : Heap} {a : Addr} {o : AO} (hp : σ <+: σ') (hk : ∀ ob, h.get? a = some ob → h'.get? a = some ob) (x : ObjAt σ h a o) : ObjAt σ' h' a o := by
  cases o <;> (obtain ⟨vs, n, e, r⟩ := x; exact ⟨vs, n, hk _ e, r.mono hp⟩)

/-- the frame at hand: ns: its names in order, each local to the frame's dict (none) or standing in a cell -/
structure Cx where
  prog : Program
  w : World
  B : Heap
  env : Env
  ns : List (Str × Option Addr)
  mt : List Addr
  fz : Nat := 0

noncomputable def LV (σ : List Addr) : AV → Option Value → Prop
  | .unb, _ => True
  | _, none => False
  | v, some a => VRel σ v a
theorem LV.mono {σ σ' : List Addr} (h : σ <+: σ') {v : AV} {a : Option Value} (r : LV σ v a) : LV σ' v a := by
  cases v <;> cases a <;> first | exact r | exact VRel.mono h r
theorem LV.of {σ : List Addr} {v : AV} {a : Value} (r : VRel σ v a) : LV σ v (some a) := by
  cases v <;> first | trivial | exact r
theorem LV.get {σ : List Addr} {v : AV} {a : Option Value} (r : LV σ v a) (hv : v ≠ .unb) : ∃ x, a = some x ∧ VRel σ v x := by
  cases v <;> cases a <;> first | exact absurd rfl hv | exact r.elim | exact ⟨_, rfl, r⟩

structure Rel (c : Cx) (σ : List Addr) (S : St) (s : Shared) : Prop where
  len : σ.length = S.H.length
  base : ∀ b o, c.B.get? b = some o → s.heap.get? b = some o
  ns : ∃ cm, s.heap.Ns c.env.locals cm ∧ ∀ (i : Nat) (x : Str), c.ns[i]? = some (x, none) → LV σ ((S.m[i]?).getD AV.unb) (cm x)
  cl : ∀ (i : Nat) (x : Str) (a : Addr), c.ns[i]? = some (x, some a) → ∃ ov, s.heap.IsCell a ov ∧ LV σ ((S.m[i]?).getD AV.unb) ov
  obj : ∀ (i : Nat) (a : Addr) (o : AO), σ[i]? = some a → S.H[i]? = some o → ObjAt σ s.heap a o
  nd : σ.Nodup
  ap : ∀ a ∈ σ, a ∉ c.mt ∧ a ≠ c.env.locals ∧ ∀ x b, (x, some b) ∈ c.ns → a ≠ b
  fr : ∀ a ∈ σ.drop c.fz, c.B.get? a = none
  ml : ∀ a ∈ c.mt, ∃ o, s.heap.get? a = some o
  zz : S.z = c.fz

noncomputable def GExt (g g' : Array GenState) : Prop := (∀ (i : Nat) (x : GenState), g[i]? = some x → g'[i]? = some x) ∧ (AllBare g → AllBare g')
theorem GExt.refl (g : Array GenState) : GExt g g := ⟨fun _ _ e => e, id⟩
theorem GExt.trans {a b c : Array GenState} (x : GExt a b) (y : GExt b c) : GExt a c := ⟨fun i z e => y.1 i z (x.1 i z e), fun h => y.2 (x.2 h)⟩

structure Ext (c : Cx) (σ : List Addr) (s : Shared) (σ' : List Addr) (s' : Shared) : Prop where
  pre : σ <+: σ'
  fresh : ∀ a ∈ σ', a ∉ σ → s.heap.get? a = none
  keep : ∀ b o, s.heap.get? b = some o → b ∉ c.mt → b ∉ σ.drop c.fz → s'.heap.get? b = some o
  dom : ∀ b o, s.heap.get? b = some o → ∃ o', s'.heap.get? b = some o'
  gens : GExt s.gens s'.gens
  os : s'.os = s.os

theorem Ext.refl (c : Cx) (σ : List Addr) (s : Shared) : Ext c σ s σ s :=
  ⟨List.prefix_refl _, fun a h n => absurd h n, fun _ _ e _ _ => e, fun _ o e => ⟨o, e⟩, .refl _, rfl⟩
theorem not_drop_of_prefix {σ σ' : List Addr} (h : σ <+: σ') (hn : σ'.Nodup) {k : Nat} {b : Addr} (hb : b ∈ σ) (hd : b ∉ σ.drop k) : b ∉ σ'.drop k := by
  obtain ⟨t, rfl⟩ := h
  rw [List.drop_append]
  intro hm
  rcases List.mem_append.mp hm with q | q
  · exact hd q
  · exact (List.nodup_append.mp hn).2.2 b hb b (List.mem_of_mem_drop q) rfl
theorem Ext.trans {c : Cx} {σ σ' σ'' : List Addr} {s s' s'' : Shared} (hn : σ'.Nodup) (x : Ext c σ s σ' s') (y : Ext c σ' s' σ'' s'') : Ext c σ s σ'' s'' := by
  refine ⟨x.pre.trans y.pre, fun a ha hna => ?_, fun b o e h1 h2 => ?_, fun b o e => (let ⟨o', e'⟩ := x.dom b o e; y.dom b o' e'), x.gens.trans y.gens, y.os.trans x.os⟩
  · by_cases h : a ∈ σ'
    · exact x.fresh a h hna
    · cases q : s.heap.get? a with
      | none => rfl
      | some o =>
        obtain ⟨o', e'⟩ := x.dom a o q
        have := y.fresh a ha h
        rw [e'] at this; cases this
  · refine y.keep b o (x.keep b o e h1 h2) h1 fun h3 => ?_
    by_cases hb : b ∈ σ
    · exact not_drop_of_prefix x.pre hn hb h2 h3
    · have := x.fresh b (List.mem_of_mem_drop h3) hb
      rw [e] at this; cases this

/-- what is around a tree: no exception is being handled; d more defs may be entered -/
structure Low (d : Nat) (A : Around) : Prop where
  handled : A.handled = none
  depth : A.depth + d < recursionLimit
  units : A.units + 20 * d + 100 < cLine
theorem Low.mono {d d' : Nat} {A : Around} (h : Low d A) (hd : d' ≤ d) : Low d' A := by
  obtain ⟨h1, h2, h3⟩ := h
  refine ⟨h1, ?_, ?_⟩ <;> omega
theorem Low.in1 {d : Nat} {A : Around} (h : Low (d + 1) A) : Low d A.in1 := by
  obtain ⟨h1, h2, h3⟩ := h
  refine ⟨h1, ?_, ?_⟩
  · show A.depth + d < _; omega
  · show A.units + 1 + 20 * d + 100 < _; omega
theorem Low.deeper {d : Nat} {A : Around} {env : Env} (h : Low (d + 1) A) : Low d (A.deeper env) := by
  obtain ⟨h1, h2, h3⟩ := h
  refine ⟨h1, ?_, ?_⟩
  · show A.depth + 1 + d < _; omega
  · show A.units + 3 + 20 * d + 100 < _; omega

variable {c : Cx} {d : Nat}

noncomputable abbrev M (c : Cx) : Model := model c.prog c.w

/-- the tree t does what f says -/
structure Den (c : Cx) (d : Nat) {α β : Type} (t : Sem α) (R : List Addr → β → α → Prop) (f : St → Option (β × St)) : Prop where
  run : ∀ A, Low d A → ∀ σ S s, Rel c σ S s → ∀ b S', f S = some (b, S') → ∀ (Q : α → Shared → Prop) (E : Value → Shared → Prop),
    (∀ σ' s' a, Rel c σ' S' s' → Ext c σ s σ' s' → R σ' b a → Q a s') → wpAny (M c) A t Q E s

theorem Rel.of_same {σ : List Addr} {S : St} {s s' : Shared} (r : Rel c σ S s) (h : s'.heap = s.heap) : Rel c σ S s' := by
  obtain ⟨h1, h2, h3, h4, h5, h6, h7, h8, h9, h10⟩ := r
  exact ⟨h1, by rw [h]; exact h2, by rw [h]; exact h3, by rw [h]; exact h4, by rw [h]; exact h5, h6, h7, h8, by rw [h]; exact h9, h10⟩
theorem Ext.of_same {σ : List Addr} {s s' : Shared} (h : s'.heap = s.heap) (hg : s'.gens = s.gens) (ho : s'.os = s.os) : Ext c σ s σ s' :=
  ⟨List.prefix_refl _, fun a h n => absurd h n, fun _ _ e _ _ => by rw [h]; exact e, fun _ o e => ⟨o, by rw [h]; exact e⟩, by rw [hg]; exact .refl _, ho⟩

/-- the heap has grown (garbage, or objects that nothing here names) and nothing of it was changed -/
theorem Rel.grown {σ : List Addr} {S : St} {s s' : Shared} (r : Rel c σ S s) (hk : ∀ b o, s.heap.get? b = some o → s'.heap.get? b = some o) : Rel c σ S s' := by
  obtain ⟨h1, h2, ⟨cm, h3, h3'⟩, h4, h5, h6, h7, h8, h9, h10⟩ := r
  refine ⟨h1, fun b o e => hk _ _ (h2 b o e), ⟨cm, h3.keeps hk, h3'⟩, fun i x a e => ?_, fun i a o e e' => ObjAt.mono (List.prefix_refl _) (hk a) (h5 i a o e e'), h6, h7, h8, fun a ha => (let ⟨o, e⟩ := h9 a ha; ⟨o, hk a o e⟩), h10⟩
  obtain ⟨ov, q, l⟩ := h4 i x a e
  exact ⟨ov, q.keeps hk, l⟩
theorem Ext.grown {σ : List Addr} {s s' : Shared} (hk : ∀ b o, s.heap.get? b = some o → s'.heap.get? b = some o) (hg : s'.gens = s.gens) (ho : s'.os = s.os) : Ext c σ s σ s' :=
  ⟨List.prefix_refl _, fun a h n => absurd h n, fun b o e _ _ => hk b o e, fun b o e => ⟨o, hk b o e⟩, by rw [hg]; exact .refl _, ho⟩

/-- an object of the datum heap is made -/
theorem Rel.push {σ : List Addr} {S : St} {s : Shared} (r : Rel c σ S s) {ob : Obj} {o : AO} {tk : Nat} {s' : Shared} (hs : s' = { s with heap := s.heap.push ob, toks := tk }) (hf : ob.isFreed = false)
    (ho : ObjAt (σ ++ [s.heap.objs.size]) (s.heap.push ob) s.heap.objs.size o) :
    Rel c (σ ++ [s.heap.objs.size]) { S with H := S.H ++ [o] } s' ∧ Ext c σ s (σ ++ [s.heap.objs.size]) s' := by
  subst hs
  have hk : ∀ b o', s.heap.get? b = some o' → (s.heap.push ob).get? b = some o' := fun b o' e => Heap.get?_push_of_some _ e
  have hpre : σ <+: σ ++ [s.heap.objs.size] := ⟨_, rfl⟩
  have hlt : ∀ a ∈ σ, a < s.heap.objs.size := fun a ha => by
    obtain ⟨i, hi, rfl⟩ := List.getElem_of_mem ha
    have hi' : i < S.H.length := r.len ▸ hi
    exact (r.obj i _ _ (List.getElem?_eq_getElem hi) (List.getElem?_eq_getElem hi')).lt
  have hL : c.env.locals < s.heap.objs.size := by obtain ⟨cm, h, _⟩ := r.ns; exact h.lt
  have hcl : ∀ x b, (x, some b) ∈ c.ns → b < s.heap.objs.size := fun x b hx => by
    obtain ⟨i, hi, e⟩ := List.getElem_of_mem hx
    obtain ⟨ov, q, _⟩ := r.cl i x b (by rw [List.getElem?_eq_getElem hi, e])
    exact q.lt
  refine ⟨⟨by simp [r.len], fun b o' e => hk _ _ (r.base b o' e), ?_, fun i x a e => ?_, fun i a o' e e' => ?_, ?_, fun a ha => ?_, fun a ha => ?_, fun a ha => (let ⟨o, e⟩ := r.ml a ha; ⟨o, hk a o e⟩), r.zz⟩, ⟨hpre, fun a ha hna => ?_, fun b o' e _ _ => hk b o' e, fun b o' e => ⟨o', hk b o' e⟩, .refl _, rfl⟩⟩
  · obtain ⟨cm, h3, h3'⟩ := r.ns
    exact ⟨cm, h3.push ob, fun i x e => (h3' i x e).mono hpre⟩
  · obtain ⟨ov, q, l⟩ := r.cl i x a e
    exact ⟨ov, q.keeps hk, l.mono hpre⟩
  · by_cases hi : i < σ.length
    · rw [List.getElem?_append_left hi] at e
      have hi' : i < S.H.length := r.len ▸ hi
      simp only at e'
      rw [List.getElem?_append_left hi'] at e'
      exact ObjAt.mono hpre (hk a) (r.obj i a o' e e')
    · have hi' : ¬ i < S.H.length := by rw [← r.len]; exact hi
      simp only at e'
      rw [List.getElem?_append_right (Nat.not_lt.mp hi)] at e
      rw [List.getElem?_append_right (Nat.not_lt.mp hi')] at e'
      have h1 : i - σ.length = 0 := by
        by_cases q : i - σ.length = 0
        · exact q
        · rw [List.getElem?_eq_none (by simp; omega)] at e; cases e
      have h2 : i - S.H.length = 0 := by rw [← r.len]; exact h1
      rw [h1] at e
      rw [h2] at e'
      simp at e e'
      subst e e'
      exact ho
  · rw [List.nodup_append]
    refine ⟨r.nd, by simp, fun a ha b hb => ?_⟩
    rw [List.mem_singleton] at hb
    subst hb
    exact Nat.ne_of_lt (hlt a ha)
  · rcases List.mem_append.mp ha with ha | ha
    · exact r.ap a ha
    · rw [List.mem_singleton] at ha
      subst ha
      exact ⟨fun hm' => (let ⟨o', e'⟩ := r.ml _ hm'; Nat.lt_irrefl _ (Heap.lt_size e')), Nat.ne_of_gt hL, fun x b hx => Nat.ne_of_gt (hcl x b hx)⟩
  · have : a ∈ σ.drop c.fz ∨ a = s.heap.objs.size := by
      rw [List.drop_append] at ha
      rcases List.mem_append.mp ha with h | h
      · exact .inl h
      · exact .inr (by simpa using List.mem_of_mem_drop h)
    rcases this with h | h
    · exact r.fr a h
    · subst h
      cases q : c.B.get? s.heap.objs.size with
      | none => rfl
      | some o' => exact absurd (Heap.lt_size (r.base _ _ q)) (Nat.lt_irrefl _)
  · rcases List.mem_append.mp ha with ha | ha
    · exact absurd ha hna
    · rw [List.mem_singleton] at ha
      subst ha
      cases q : s.heap.get? s.heap.objs.size with
      | none => rfl
      | some o' => exact absurd (Heap.lt_size q) (Nat.lt_irrefl _)

/-- an object of the datum heap is changed (never the first: the script) -/
theorem Rel.update {σ : List Addr} {S : St} {s s' : Shared} (r : Rel c σ S s) {i : Nat} {a : Addr} {o : AO} (hi : σ[i]? = some a) (h1 : c.fz ≤ i) (hs : Heap.SameBut a s.heap s'.heap) (hg : s'.gens = s.gens) (hos : s'.os = s.os)
    (ho : ObjAt σ s'.heap a o) : Rel c σ { S with H := S.H.set i o } s' ∧ Ext c σ s σ s' := by
  have ham : a ∈ σ := List.mem_of_getElem? hi
  have hap := r.ap a ham
  have had : a ∈ σ.drop c.fz := by
    rw [List.mem_iff_getElem?]
    exact ⟨i - c.fz, by rw [List.getElem?_drop]; rw [show c.fz + (i - c.fz) = i by omega]; exact hi⟩
  have hne : ∀ b o', s.heap.get? b = some o' → b ≠ a → s'.heap.get? b = some o' := fun b o' e h => (hs.2 b h).trans e
  have hdom : ∀ b o', s.heap.get? b = some o' → ∃ o'', s'.heap.get? b = some o'' := fun b o' e => by
    by_cases q : b = a
    · subst q
      cases o <;> (obtain ⟨vs, n, e', _⟩ := ho; exact ⟨_, e'⟩)
    · exact ⟨o', hne b o' e q⟩
  refine ⟨⟨by simp [r.len], fun b o' e => ?_, ?_, fun j x b e => ?_, fun j b o' e e' => ?_, r.nd, r.ap, r.fr, fun a ha => (let ⟨o', e⟩ := r.ml a ha; hdom a o' e), r.zz⟩, ⟨List.prefix_refl _, fun b hb hnb => absurd hb hnb, fun b o' e _ hb => hne b o' e fun q => hb (q ▸ had), hdom, by rw [hg]; exact .refl _, hos⟩⟩
  · refine hne b o' (r.base b o' e) fun q => ?_
    have := r.fr a had
    rw [← q, e] at this; cases this
  · obtain ⟨cm, h3, h3'⟩ := r.ns
    exact ⟨cm, h3.sameBut hs (Ne.symm hap.2.1), h3'⟩
  · obtain ⟨ov, q, l⟩ := r.cl j x b e
    exact ⟨ov, q.sameBut hs (Ne.symm (hap.2.2 x b (List.mem_of_getElem? e))), l⟩
  · simp only at e'
    rw [List.getElem?_set] at e'
    by_cases hij : i = j
    · subst hij
      rw [hi] at e; cases e
      split at e' 
      · split at e'
        · cases e'; exact ho
        · cases e'
      · rename_i q; exact absurd rfl q
    · rw [if_neg hij] at e'
      have hba : b ≠ a := fun q => by
        subst q
        exact hij ((List.getElem?_inj (List.getElem?_eq_some_iff.mp hi).1 r.nd).mp (hi.trans e.symm))
      exact ObjAt.mono (List.prefix_refl _) (fun ob q => hne b ob q hba) (r.obj j b o' e e')

end Mine
end

section
set_option maxRecDepth 100000
set_option linter.unusedVariables false
open PySem PySem.W PyProof.Rows PySem.Calls
namespace Mine

noncomputable abbrev F (β : Type) := St → Option (β × St)
namespace F
noncomputable def pure {β : Type} (b : β) : F β := fun S => some (b, S)
noncomputable def fail {β : Type} : F β := fun _ => none
noncomputable def bind {α β : Type} (f : F α) (g : α → F β) : F β := fun S => match f S with
  | none => none
  | some (a, S') => g a S'
end F
theorem bind_some {α β : Type} {f : F α} {g : α → F β} {S S' : St} {b : β} (h : F.bind f g S = some (b, S')) : ∃ a S₁, f S = some (a, S₁) ∧ g a S₁ = some (b, S') := by
  unfold F.bind at h
  cases hf : f S with
  | none => rw [hf] at h; cases h
  | some r => obtain ⟨a, S₁⟩ := r; rw [hf] at h; exact ⟨a, S₁, rfl, h⟩

variable {c : Cx} {d : Nat}

theorem Rel.nodup {σ : List Addr} {S : St} {s : Shared} (r : Rel c σ S s) : σ.Nodup := r.nd

/-- what a tree that is met with values in hand does: from this state -/
noncomputable def At (c : Cx) (d : Nat) {α β : Type} (σ : List Addr) (t : Sem α) (R : List Addr → β → α → Prop) (f : F β) : Prop :=
  ∀ A, Low d A → ∀ S s, Rel c σ S s → ∀ b S', f S = some (b, S') → ∀ (Q : α → Shared → Prop) (E : Value → Shared → Prop),
    (∀ σ' s' a, Rel c σ' S' s' → Ext c σ s σ' s' → R σ' b a → Q a s') → wpAny (M c) A t Q E s
theorem Den.at {α β : Type} {t : Sem α} {R : List Addr → β → α → Prop} {f : F β} (h : Den c d t R f) (σ : List Addr) : At c d σ t R f := fun A hA S s r b S' e Q E k => h.run A hA σ S s r b S' e Q E k

theorem At.bind {α β γ δ : Type} {σ : List Addr} {t : Sem α} {k : α → Sem γ} {R : List Addr → β → α → Prop} {T : List Addr → δ → γ → Prop} {f : F β} {g : β → F δ}
    (h : At c d σ t R f) (hk : ∀ σ' b a, σ <+: σ' → R σ' b a → At c d σ' (k a) T (g b)) : At c d σ (t >>= k) T (F.bind f g) := by
  intro A hA S s r b S' e Q E K
  obtain ⟨b₁, S₁, e1, e2⟩ := bind_some e
  exact wpAny_bind (h A hA S s r b₁ S₁ e1 _ E fun σ₁ s₁ a r₁ x₁ y₁ => hk σ₁ b₁ a x₁.pre y₁ A hA S₁ s₁ r₁ b S' e2 Q E fun σ₂ s₂ a₂ r₂ x₂ y₂ => K σ₂ s₂ a₂ r₂ (x₁.trans r₁.nd x₂) y₂)
theorem At.pure {α β : Type} {σ : List Addr} {R : List Addr → β → α → Prop} {a : α} {b : β} (h : R σ b a) : At c d σ (Pure.pure a) R (F.pure b) := by
  intro A hA S s r b' S' e Q E K
  cases e
  exact wpAny_pure (K σ s a r (.refl ..) h)
theorem At.fail {α β : Type} {σ : List Addr} {t : Sem α} {R : List Addr → β → α → Prop} : At c d σ t R F.fail := by
  intro A hA S s r b' S' e; cases e
theorem At.standAt {γ δ : Type} {σ : List Addr} {pos : Pos} {t : Sem γ} {T : List Addr → δ → γ → Prop} {f : F δ} (h : At c d σ t T f) : At c d σ (standAt pos >>= fun _ => t) T f :=
  fun A hA S s r b S' e Q E K => wpAny_bind (wpAny_standAt (h A hA S s r b S' e Q E K))
theorem At.holding {β : Type} {σ : List Addr} {vs : List Value} {t : Sem Value} {T : List Addr → β → Value → Prop} {f : F β} (h : At c d σ t T f) : At c d σ (holding vs t) T f :=
  fun A hA S s r b S' e Q E K => wpAny_holding (h A hA S s r b S' e Q E K)
theorem At.holding' {α β : Type} {σ : List Addr} {vs : List Value} {t : Sem α} {T : List Addr → β → α → Prop} {f : F β} (h : At c d σ t T f) : At c d σ (PySem.holding vs t) T f :=
  fun A hA S s r b S' e Q E K => wpAny_holding (h A hA S s r b S' e Q E K)
theorem wpAny_operateM {M : Model} {A : Around} {vs : List Value} {m : Sem Value} {Q : Value → Shared → Prop} {E : Value → Shared → Prop} {s : Shared} (h : wpAny M A m Q E s) : wpAny M A (operate vs m) Q E s :=
  fun Γ p hΓ => by rw [Sem.wp_operate]; exact h Γ p hΓ
theorem At.operate {β : Type} {σ : List Addr} {vs : List Value} {t : Sem Value} {T : List Addr → β → Value → Prop} {f : F β} (h : At c d σ t T f) : At c d σ (operate vs t) T f :=
  fun A hA S s r b S' e Q E K => wpAny_operateM (h A hA S s r b S' e Q E K)
theorem At.congr {α β : Type} {σ : List Addr} {t t' : Sem α} {T : List Addr → β → α → Prop} {f : F β} (e : t = t') (h : At c d σ t' T f) : At c d σ t T f := e ▸ h
theorem Den.of_at {α β : Type} {t : Sem α} {R : List Addr → β → α → Prop} {f : F β} (h : ∀ σ, At c d σ t R f) : Den c d t R f := ⟨fun A hA σ S s r b S' e Q E k => h σ A hA S s r b S' e Q E k⟩
theorem At.mono {α β : Type} {σ : List Addr} {t : Sem α} {R R' : List Addr → β → α → Prop} {f : F β} (h : At c d σ t R f) (k : ∀ σ' b a, R σ' b a → R' σ' b a) : At c d σ t R' f :=
  fun A hA S s r b S' e Q E K => h A hA S s r b S' e Q E fun σ' s' a r' x y => K σ' s' a r' x (k _ _ _ y)

/-- a value that is handed back with nothing of the heap turned -/
theorem At.val {α : Type} {β : Type} {σ : List Addr} {t : Sem α} {R : List Addr → β → α → Prop} {b : β}
    (h : ∀ A, Low d A → ∀ (s : Shared) (Q : α → Shared → Prop) (E : Value → Shared → Prop), (∀ s' a, s'.heap = s.heap → s'.gens = s.gens → s'.os = s.os → R σ b a → Q a s') → wpAny (M c) A t Q E s) : At c d σ t R (F.pure b) := by
  intro A hA S s r b' S' e Q E K
  cases e
  exact h A hA s Q E fun s' a h1 h2 h3 h4 => K σ s' a (r.of_same h1) (.of_same h1 h2 h3) h4

-- names
noncomputable def getVar (i : Nat) : F AV := fun S => match (S.m[i]?).getD AV.unb with
  | .unb => none
  | v => some (v, S)
theorem getVar_some {i : Nat} {S S' : St} {v : AV} (h : getVar i S = some (v, S')) : S' = S ∧ (S.m[i]?).getD AV.unb = v ∧ v ≠ .unb := by
  unfold getVar at h
  split at h
  · cases h
  · rename_i w hw; cases h; exact ⟨rfl, rfl, hw⟩
theorem den_loc {i : Nat} {x : Str} {pos : Pos} (hi : c.ns[i]? = some (x, none)) (hk : c.env.scope.kind = .function) (hl : c.env.kindOf x = some .local) (hd : (x == ("__debug__" : Str)) = false) :
    Den c d (eval (.Name x pos) c.env) VRel (getVar i) := by
  refine ⟨fun A hA σ S s r b S' e Q E K => ?_⟩
  obtain ⟨rfl, hv, hn⟩ := getVar_some e
  obtain ⟨cm, h1, h2⟩ := r.ns
  have h3 := h2 i x hi
  rw [hv] at h3
  obtain ⟨a, h4, h5⟩ := h3.get hn
  exact wpAny_Name (wpAny_loadName_local hk hl h1 h4 (K σ s a r (.refl ..) h5)) hd
theorem den_cell {i : Nat} {x : Str} {a : Addr} {pos : Pos} (hi : c.ns[i]? = some (x, some a)) (hk : c.env.scope.kind = .function) (hl : c.env.kindOf x = some .cell) (hc : c.env.cells.lookup x = some a) (hd : (x == ("__debug__" : Str)) = false) :
    Den c d (eval (.Name x pos) c.env) VRel (getVar i) := by
  refine ⟨fun A hA σ S s r b S' e Q E K => ?_⟩
  obtain ⟨rfl, hv, hn⟩ := getVar_some e
  obtain ⟨ov, h1, h2⟩ := r.cl i x a hi
  rw [hv] at h2
  obtain ⟨v, rfl, h5⟩ := h2.get hn
  exact wpAny_Name (wpAny_loadName_cell hk hl hc h1 (K σ s v r (.refl ..) h5)) hd

-- constants
theorem den_int {i : Int} {k : Nat} {pos : Pos} : Den c d (eval (.Constant (.int i) k pos) c.env) VRel (F.pure (.int i)) :=
  .of_at fun σ => .val fun A hA s Q E K => wpAny_Constant_int (K _ _ rfl rfl rfl rfl)
theorem den_str {x : Str} {k : Nat} {pos : Pos} : Den c d (eval (.Constant (.str x) k pos) c.env) VRel (F.pure (.str x)) :=
  .of_at fun σ => .val fun A hA s Q E K => Constant_str (K _ _ rfl rfl rfl rfl)
theorem den_bool {b : Bool} {k : Nat} {pos : Pos} : Den c d (eval (.Constant (.bool b) k pos) c.env) VRel (F.pure (.bool b)) :=
  .of_at fun σ => .val fun A hA s Q E K => fun _ _ _ => K s (.bool b) rfl rfl rfl rfl
theorem den_none {k : Nat} {pos : Pos} : Den c d (eval (.Constant .none k pos) c.env) VRel (F.pure .none) :=
  .of_at fun σ => .val fun A hA s Q E K => fun _ _ _ => K s .none rfl rfl rfl trivial

-- two operands
noncomputable def Op2 (c : Cx) (d : Nat) {α β : Type} (t : Value → Value → Sem α) (R : List Addr → β → α → Prop) (h : AV → AV → F β) : Prop :=
  ∀ σ u v a b, VRel σ u a → VRel σ v b → At c d σ (t a b) R (h u v)
theorem den_bin {l r : Expr} {op : Operator} {pos : Pos} {f g : F AV} {h : AV → AV → F AV} (hl : Den c d (eval l c.env) VRel f) (hr : Den c d (eval r c.env) VRel g) (ho : Op2 c d (binaryOp op) VRel h) :
    Den c d (eval (.BinOp l op r pos) c.env) VRel (F.bind f fun u => F.bind g fun v => h u v) := by
  refine .of_at fun σ => ?_
  show At c d σ (eval l c.env >>= fun a => holding [a] (eval r c.env) >>= fun b => standAt pos >>= fun _ => operate [a, b] (binaryOp op a b)) VRel _
  refine (hl.at σ).bind fun σ₁ u a p₁ ra => ?_
  refine (At.holding (hr.at σ₁)).bind fun σ₂ v b p₂ rb => ?_
  exact .standAt (.operate (ho σ₂ u v a b (ra.mono p₂) rb))
theorem den_cmp {l r : Expr} {op : CmpOp} {pos : Pos} {f g : F AV} {h : AV → AV → F AV} (hl : Den c d (eval l c.env) VRel f) (hr : Den c d (eval r c.env) VRel g) (ho : Op2 c d (compareOp op) VRel h)
    (hm : behindInMarks op r = false) : Den c d (eval (.Compare l [op] [r] pos) c.env) VRel (F.bind f fun u => F.bind g fun v => h u v) := by
  refine .of_at fun σ => ?_
  show At c d σ (eval l c.env >>= fun a => holding [a] (markedBehindIn op r (eval r c.env)) >>= fun b => standAt pos >>= fun _ => operate [a, b] (compareOp op a b)) VRel _
  rw [markedBehindIn_of_false hm]
  refine (hl.at σ).bind fun σ₁ u a p₁ ra => ?_
  refine (At.holding (hr.at σ₁)).bind fun σ₂ v b p₂ rb => ?_
  exact .standAt (.operate (ho σ₂ u v a b (ra.mono p₂) rb))
noncomputable def Op1 (c : Cx) (d : Nat) {α β : Type} (t : Value → Sem α) (R : List Addr → β → α → Prop) (h : AV → F β) : Prop :=
  ∀ σ u a, VRel σ u a → At c d σ (t a) R (h u)
theorem den_un {e : Expr} {op : UnaryOp} {pos : Pos} {f : F AV} {h : AV → F AV} (he : Den c d (eval e c.env) VRel f) (ho : Op1 c d (unaryOp op) VRel h) :
    Den c d (eval (.UnaryOp op e pos) c.env) VRel (F.bind f h) := by
  refine .of_at fun σ => ?_
  show At c d σ (eval e c.env >>= fun v => standAt pos >>= fun _ => holding [v] (unaryOp op v)) VRel _
  exact (he.at σ).bind fun σ₁ u a p₁ ra => .standAt (.holding (ho σ₁ u a ra))

-- tests
noncomputable def BRel (_ : List Addr) (b a : Bool) : Prop := a = b
theorem den_test {e : Expr} {f : F AV} {h : AV → F Bool} (he : Den c d (eval e c.env) VRel f) (ho : Op1 c d truthy BRel h)
    (hp : isTrue e c.env (eval e c.env) = (eval e c.env >>= fun v => standAt e.pos >>= fun _ => holding [v] (truthy v))) : Den c d (isTrue e c.env (eval e c.env)) BRel (F.bind f h) := by
  refine .of_at fun σ => ?_
  rw [hp]
  exact (he.at σ).bind fun σ₁ u a p₁ ra => .standAt (.holding' (ho σ₁ u a ra))
theorem den_testcmp {l r : Expr} {op : CmpOp} {pos : Pos} {whole : Sem Value} {f g : F AV} {h : AV → AV → F AV} {k : AV → F Bool} (hl : Den c d (eval l c.env) VRel f) (hr : Den c d (eval r c.env) VRel g)
    (ho : Op2 c d (compareOp op) VRel h) (hk : Op1 c d truthy BRel k) (hm : behindInMarks op r = false) :
    Den c d (isTrue (.Compare l [op] [r] pos) c.env whole) BRel (F.bind f fun u => F.bind g fun v => F.bind (h u v) k) := by
  refine .of_at fun σ => ?_
  show At c d σ (eval l c.env >>= fun a => holding [a] (markedBehindIn op r (eval r c.env)) >>= fun b => standAt pos >>= fun _ => operate [a, b] (compareOp op a b) >>= fun cc => holding [cc] (truthy cc)) BRel _
  rw [markedBehindIn_of_false hm]
  refine (hl.at σ).bind fun σ₁ u a p₁ ra => ?_
  refine (At.holding (hr.at σ₁)).bind fun σ₂ v b p₂ rb => ?_
  exact .standAt ((At.operate (ho σ₂ u v a b (ra.mono p₂) rb)).bind fun σ₃ w x p₃ rw => .holding' (hk σ₃ w x rw))
theorem den_not {e : Expr} {pos : Pos} {whole : Sem Value} {f : F Bool} (he : Den c d (isTrue e c.env (eval e c.env)) BRel f) :
    Den c d (isTrue (.UnaryOp .Not e pos) c.env whole) BRel (F.bind f fun b => F.pure !b) := by
  refine .of_at fun σ => ?_
  show At c d σ (isTrue e c.env (eval e c.env) >>= fun b => Pure.pure !b) BRel _
  exact (he.at σ).bind fun σ₁ u a p₁ ra => .pure (by cases ra; rfl)
theorem allTrue_one (op : BoolOp) (x : Expr) (rest : List Expr) (env : Env) : allTrue op (x :: rest) env = (isTrue x env (eval x env) >>= fun b => match op, b with | .And, false => Pure.pure false | .Or, true => Pure.pure true | _, _ => allTrue op rest env) := rfl
theorem den_and2 {e₁ e₂ : Expr} {pos : Pos} {whole : Sem Value} {f g : F Bool} (h₁ : Den c d (isTrue e₁ c.env (eval e₁ c.env)) BRel f) (h₂ : Den c d (isTrue e₂ c.env (eval e₂ c.env)) BRel g) :
    Den c d (isTrue (.BoolOp .And [e₁, e₂] pos) c.env whole) BRel (F.bind f fun b => match b with | false => F.pure false | true => g) := by
  refine .of_at fun σ => ?_
  show At c d σ (allTrue .And [e₁, e₂] c.env) BRel _
  rw [allTrue_one]
  refine (h₁.at σ).bind fun σ₁ u a p₁ ra => ?_
  cases ra
  cases u with
  | false => exact .pure rfl
  | true =>
    show At c d σ₁ (allTrue .And [e₂] c.env) BRel g
    rw [allTrue_one]
    intro A hA S s r b S' e Q E K
    refine wpAny_bind (h₂.run A hA σ₁ S s r b S' e _ E fun σ' s' a r' x y => ?_)
    cases y
    cases b with
    | false => exact wpAny_pure (K σ' s' _ r' x rfl)
    | true => exact wpAny_pure (K σ' s' _ r' x rfl)
theorem den_or2 {e₁ e₂ : Expr} {pos : Pos} {whole : Sem Value} {f g : F Bool} (h₁ : Den c d (isTrue e₁ c.env (eval e₁ c.env)) BRel f) (h₂ : Den c d (isTrue e₂ c.env (eval e₂ c.env)) BRel g) :
    Den c d (isTrue (.BoolOp .Or [e₁, e₂] pos) c.env whole) BRel (F.bind f fun b => match b with | true => F.pure true | false => g) := by
  refine .of_at fun σ => ?_
  show At c d σ (allTrue .Or [e₁, e₂] c.env) BRel _
  rw [allTrue_one]
  refine (h₁.at σ).bind fun σ₁ u a p₁ ra => ?_
  cases ra
  cases u with
  | true => exact .pure rfl
  | false =>
    show At c d σ₁ (allTrue .Or [e₂] c.env) BRel g
    rw [allTrue_one]
    intro A hA S s r b S' e Q E K
    refine wpAny_bind (h₂.run A hA σ₁ S s r b S' e _ E fun σ' s' a r' x y => ?_)
    cases y
    cases b with
    | false => exact wpAny_pure (K σ' s' _ r' x rfl)
    | true => exact wpAny_pure (K σ' s' _ r' x rfl)

-- the value of a and b, a or b
theorem den_vand {e₁ e₂ : Expr} {pos : Pos} {f g : F AV} {k : AV → F Bool} (h₁ : Den c d (eval e₁ c.env) VRel f) (h₂ : Den c d (eval e₂ c.env) VRel g) (hk : Op1 c d truthy BRel k) :
    Den c d (eval (.BoolOp .And [e₁, e₂] pos) c.env) VRel (F.bind f fun u => F.bind (k u) fun b => match b with | false => F.pure u | true => g) := by
  refine .of_at fun σ => ?_
  show At c d σ (eval e₁ c.env >>= fun v => standAt pos >>= fun _ => holding [v] (truthy v) >>= fun t => match BoolOp.And, t with | .And, false | .Or, true => Pure.pure v | _, _ => boolOp pos .And [eval e₂ c.env]) VRel _
  refine (h₁.at σ).bind fun σ₁ u a p₁ ra => .standAt ((At.holding' (hk σ₁ u a ra)).bind fun σ₂ b t p₂ rb => ?_)
  cases rb
  cases b with
  | false => exact .pure (ra.mono p₂)
  | true => exact h₂.at σ₂
theorem den_vor {e₁ e₂ : Expr} {pos : Pos} {f g : F AV} {k : AV → F Bool} (h₁ : Den c d (eval e₁ c.env) VRel f) (h₂ : Den c d (eval e₂ c.env) VRel g) (hk : Op1 c d truthy BRel k) :
    Den c d (eval (.BoolOp .Or [e₁, e₂] pos) c.env) VRel (F.bind f fun u => F.bind (k u) fun b => match b with | true => F.pure u | false => g) := by
  refine .of_at fun σ => ?_
  show At c d σ (eval e₁ c.env >>= fun v => standAt pos >>= fun _ => holding [v] (truthy v) >>= fun t => match BoolOp.Or, t with | .And, false | .Or, true => Pure.pure v | _, _ => boolOp pos .Or [eval e₂ c.env]) VRel _
  refine (h₁.at σ).bind fun σ₁ u a p₁ ra => .standAt ((At.holding' (hk σ₁ u a ra)).bind fun σ₂ b t p₂ rb => ?_)
  cases rb
  cases b with
  | true => exact .pure (ra.mono p₂)
  | false => exact h₂.at σ₂
theorem den_ifexp {t e₁ e₂ : Expr} {pos : Pos} {ft : F Bool} {f g : F AV} (ht : Den c d (isTrue t c.env (eval t c.env)) BRel ft) (h₁ : Den c d (eval e₁ c.env) VRel f) (h₂ : Den c d (eval e₂ c.env) VRel g) :
    Den c d (eval (.IfExp t e₁ e₂ pos) c.env) VRel (F.bind ft fun b => match b with | true => f | false => g) := by
  refine .of_at fun σ => ?_
  show At c d σ (isTrue t c.env (eval t c.env) >>= fun b => if b then eval e₁ c.env else eval e₂ c.env) VRel _
  refine (ht.at σ).bind fun σ₁ u a p₁ ra => ?_
  cases ra
  cases u with
  | true => exact h₁.at σ₁
  | false => exact h₂.at σ₁

-- lists of expressions
noncomputable def DenL (c : Cx) (d : Nat) (es : List Expr) (f : F (List AV)) : Prop := ∀ pos, Den c d (spliced (backTo pos (starEach es c.env))) VsRel f
theorem denL_nil : DenL c d [] (F.pure []) := fun pos => .of_at fun σ => .pure trivial
theorem starEach_cons {e : Expr} {es : List Expr} {env : Env} (h : ∀ x p, e ≠ .Starred x p) : starEach (e :: es) env = (false, eval e env) :: starEach es env := by
  cases e <;> first | rfl | exact absurd rfl (h _ _)
theorem denL_cons {e : Expr} {es : List Expr} {f : F AV} {g : F (List AV)} (he : Den c d (eval e c.env) VRel f) (hes : DenL c d es g) (hs : ∀ x p, e ≠ .Starred x p) :
    DenL c d (e :: es) (F.bind f fun v => F.bind g fun vs => F.pure (v :: vs)) := by
  intro pos
  refine .of_at fun σ => ?_
  rw [starEach_cons hs]
  intro A hA S s r b S' e' Q E K
  obtain ⟨v, S₁, e1, e2⟩ := bind_some e'
  obtain ⟨vs, S₂, e3, e4⟩ := bind_some e2
  cases e4
  show wpAny _ _ (spliced ((false, eval e c.env) :: backTo pos (starEach es c.env))) _ _ _
  refine spliced_cons (he.run A hA σ S s r v S₁ e1 _ E fun σ₁ s₁ a r₁ x₁ y₁ => ?_)
  exact (hes pos).run A hA σ₁ S₁ s₁ r₁ vs S' e3 _ E fun σ₂ s₂ as r₂ x₂ y₂ => K σ₂ s₂ _ r₂ (x₁.trans r₁.nd x₂) ⟨y₁.mono x₂.pre, y₂⟩

noncomputable def AO.items : AO → List AV
  | .list xs => xs
  | .tup xs => xs
noncomputable def newAt (o : AO) : F AV := fun S => match Nat.ble o.items.length 1048576 with
  | true => some (.ref S.H.length, { S with H := S.H ++ [o] })
  | false => none
theorem newAt_some {o : AO} {S S' : St} {v : AV} (h : newAt o S = some (v, S')) : o.items.length ≤ 1048576 ∧ v = .ref S.H.length ∧ S' = { S with H := S.H ++ [o] } := by
  unfold newAt at h
  cases hb : Nat.ble o.items.length 1048576 with
  | false => rw [hb] at h; cases h
  | true => rw [hb] at h; cases h; exact ⟨Nat.le_of_ble_eq_true hb, rfl, rfl⟩
theorem small_fits {n : Nat} (h : n ≤ 1048576) : n ≤ sizeLine := by rw [sizeLine_eq]; omega
theorem at_newList {σ : List Addr} {vs : List AV} {as : List Value} (h : VsRel σ vs as) : At c d σ (newList as) VRel (newAt (.list vs)) := by
  intro A hA S s r b S' e Q E K
  obtain ⟨hl, rfl, rfl⟩ := newAt_some e
  refine wpAny_newList ?_ (small_fits (by rw [h.length]; exact hl))
  have := Rel.push (ob := listObj as 0) (o := .list vs) (tk := s.toks) r (s' := { s with heap := s.heap.push (listObj as 0) }) rfl rfl ⟨as, 0, Heap.get?_push_size _ rfl, h.mono ⟨_, rfl⟩⟩
  refine K _ _ _ this.1 this.2 ?_
  show (σ ++ [s.heap.objs.size])[S.H.length]? = some s.heap.objs.size
  rw [← r.len]; simp
theorem at_newTuple {σ : List Addr} {vs : List AV} {as : List Value} (h : VsRel σ vs as) : At c d σ (newTuple as) VRel (newAt (.tup vs)) := by
  intro A hA S s r b S' e Q E K
  obtain ⟨hl, rfl, rfl⟩ := newAt_some e
  refine wpAny_newTuple ?_ (small_fits (by rw [h.length]; exact hl))
  have := Rel.push (ob := tupObj as 0) (o := .tup vs) (tk := s.toks) r (s' := { s with heap := s.heap.push (tupObj as 0) }) rfl rfl ⟨as, 0, Heap.get?_push_size _ rfl, h.mono ⟨_, rfl⟩⟩
  refine K _ _ _ this.1 this.2 ?_
  show (σ ++ [s.heap.objs.size])[S.H.length]? = some s.heap.objs.size
  rw [← r.len]; simp
theorem den_list {es : List Expr} {pos : Pos} {f : F (List AV)} (h : DenL c d es f) : Den c d (eval (.List es pos) c.env) VRel (F.bind f fun vs => newAt (.list vs)) := by
  refine .of_at fun σ => ?_
  show At c d σ (standAt pos >>= fun _ => spliced (backTo pos (starEach es c.env)) >>= fun vs => newList vs) VRel _
  exact .standAt ((Den.at (h pos) σ).bind fun σ₁ u a p₁ ra => at_newList ra)
theorem den_tuple {es : List Expr} {k : Nat} {pos : Pos} {f : F (List AV)} (h : DenL c d es f) : Den c d (eval (.Tuple es k pos) c.env) VRel (F.bind f fun vs => newAt (.tup vs)) := by
  refine .of_at fun σ => ?_
  show At c d σ (standAt pos >>= fun _ => spliced (backTo pos (starEach es c.env)) >>= fun vs => newTuple vs) VRel _
  exact .standAt ((Den.at (h pos) σ).bind fun σ₁ u a p₁ ra => at_newTuple ra)

end Mine
end

section
set_option maxRecDepth 100000
set_option linter.unusedVariables false
open PySem PySem.W PyProof.Rows PySem.Calls
namespace Mine
variable {c : Cx} {d : Nat}

/-- what holds of a frame all along -/
structure CxOk (c : Cx) : Prop where
  kind : c.env.scope.kind = .function
  nodup : (c.ns.map (·.1)).Nodup
  lm : c.env.locals ∈ c.mt
  lb : c.B.get? c.env.locals = none
  cb : ∀ x a, (x, some a) ∈ c.ns → a ∈ c.mt → c.B.get? a = none
  cl : ∀ x a, (x, some a) ∈ c.ns → a ≠ c.env.locals
  cc : ∀ (i j : Nat) x y a, c.ns[i]? = some (x, some a) → c.ns[j]? = some (y, some a) → i = j

theorem ns_inj (ok : CxOk c) {i j : Nat} {x : Str} {l k : Option Addr} (hi : c.ns[i]? = some (x, l)) (hj : c.ns[j]? = some (x, k)) : i = j := by
  have h1 : (c.ns.map (·.1))[i]? = some x := by rw [List.getElem?_map, hi]; rfl
  have h2 : (c.ns.map (·.1))[j]? = some x := by rw [List.getElem?_map, hj]; rfl
  exact (List.getElem?_inj (List.getElem?_eq_some_iff.mp h1).1 ok.nodup).mp (h1.trans h2.symm)

noncomputable def setVar (i : Nat) (v : AV) : F Unit := fun S => some ((), { S with m := S.m.set i v })

theorem set_getD (m : List AV) (i j : Nat) (v : AV) : ((m.set i v)[j]?).getD AV.unb = if i = j ∧ j < m.length then v else (m[j]?).getD AV.unb := by
  rw [List.getElem?_set]
  by_cases h : i = j
  · subst h
    by_cases hl : i < m.length
    · simp [hl]
    · simp [hl]
  · simp [h]

theorem Rel.store {σ : List Addr} {S : St} {s s' : Shared} {i : Nat} {x : Str} {v : AV} {a : Value} {cm : Str → Option Value} (ok : CxOk c) (r : Rel c σ S s) (hi : c.ns[i]? = some (x, none)) (hv : VRel σ v a)
    (hcm : ∀ (j : Nat) (y : Str), c.ns[j]? = some (y, none) → LV σ ((S.m[j]?).getD AV.unb) (cm y))
    (hn : s'.heap.Ns c.env.locals (fun y => if y = x then some a else cm y)) (hs : Heap.SameBut c.env.locals s.heap s'.heap) (hg : s'.gens = s.gens) (ho : s'.os = s.os) :
    Rel c σ { S with m := S.m.set i v } s' ∧ Ext c σ s σ s' := by
  have hne : ∀ b o, s.heap.get? b = some o → b ≠ c.env.locals → s'.heap.get? b = some o := fun b o e h => (hs.2 b h).trans e
  have hdom : ∀ b o, s.heap.get? b = some o → ∃ o', s'.heap.get? b = some o' := fun b o e => by
    by_cases q : b = c.env.locals
    · obtain ⟨o', _, _, e', _⟩ := hn; exact ⟨o', q ▸ e'⟩
    · exact ⟨o, hne b o e q⟩
  refine ⟨⟨r.len, fun b o e => hne b o (r.base b o e) fun q => ?_, ⟨_, hn, fun j y e => ?_⟩, fun j y b e => ?_, fun j b o e e' => ?_, r.nd, r.ap, r.fr, fun b hb => (let ⟨o, e⟩ := r.ml b hb; hdom b o e), r.zz⟩,
    ⟨List.prefix_refl _, fun b h n => absurd h n, fun b o e h1 h2 => hne b o e fun q => h1 (q ▸ ok.lm), hdom, by rw [hg]; exact .refl _, ho⟩⟩
  · rw [q, ok.lb] at e; cases e
  · simp only
    rw [set_getD]
    by_cases hy : y = x
    · subst hy
      have : i = j := ns_inj ok hi e
      subst this
      rw [if_pos rfl]
      split
      · exact LV.of hv
      · rename_i q
        have : ¬ i < S.m.length := fun h => q ⟨rfl, h⟩
        rw [List.getElem?_eq_none (Nat.not_lt.mp this)]
        trivial
    · rw [if_neg hy, if_neg (fun q => hy (by have e' := q.1 ▸ hi; rw [e] at e'; cases e'; rfl))]
      exact hcm j y e
  · obtain ⟨ov, q, l⟩ := r.cl j y b e
    have hb := ok.cl y b (List.mem_of_getElem? e)
    refine ⟨ov, q.sameBut hs hb, ?_⟩
    simp only
    rw [set_getD, if_neg (fun z => by have e' := z.1 ▸ hi; rw [e] at e'; cases e')]
    exact l
  · have ha := r.ap b (List.mem_of_getElem? e)
    exact ObjAt.mono (List.prefix_refl _) (fun ob q => hne b ob q ha.2.1) (r.obj j b o e e')

theorem Rel.storeC {σ : List Addr} {S : St} {s s' : Shared} {i : Nat} {x : Str} {ca : Addr} {v : AV} {a : Value} (ok : CxOk c) (r : Rel c σ S s) (hi : c.ns[i]? = some (x, some ca)) (hm : ca ∈ c.mt) (hv : VRel σ v a)
    (hn : s'.heap.IsCell ca (some a)) (hs : Heap.SameBut ca s.heap s'.heap) (hg : s'.gens = s.gens) (ho : s'.os = s.os) :
    Rel c σ { S with m := S.m.set i v } s' ∧ Ext c σ s σ s' := by
  have hne : ∀ b o, s.heap.get? b = some o → b ≠ ca → s'.heap.get? b = some o := fun b o e h => (hs.2 b h).trans e
  have hdom : ∀ b o, s.heap.get? b = some o → ∃ o', s'.heap.get? b = some o' := fun b o e => by
    by_cases q : b = ca
    · obtain ⟨o', e', _⟩ := hn; exact ⟨o', q ▸ e'⟩
    · exact ⟨o, hne b o e q⟩
  have hcl := ok.cl x ca (List.mem_of_getElem? hi)
  obtain ⟨cm, h1, h2⟩ := r.ns
  refine ⟨⟨r.len, fun b o e => hne b o (r.base b o e) fun q => ?_, ⟨cm, h1.sameBut hs (Ne.symm hcl), fun j y e => ?_⟩, fun j y b e => ?_, fun j b o e e' => ?_, r.nd, r.ap, r.fr, fun b hb => (let ⟨o, e⟩ := r.ml b hb; hdom b o e), r.zz⟩,
    ⟨List.prefix_refl _, fun b h n => absurd h n, fun b o e h1 h2 => hne b o e fun q => h1 (q ▸ hm), hdom, by rw [hg]; exact .refl _, ho⟩⟩
  · rw [q, ok.cb x ca (List.mem_of_getElem? hi) hm] at e; cases e
  · simp only
    rw [set_getD, if_neg (fun z => by have e' := z.1 ▸ hi; rw [e] at e'; cases e')]
    exact h2 j y e
  · obtain ⟨ov, q, l⟩ := r.cl j y b e
    simp only
    rw [set_getD]
    by_cases hb : b = ca
    · subst hb
      have : i = j := ok.cc i j x y b hi e
      subst this
      refine ⟨some a, hn, ?_⟩
      split
      · exact LV.of hv
      · rename_i z
        have : ¬ i < S.m.length := fun h => z ⟨rfl, h⟩
        rw [List.getElem?_eq_none (Nat.not_lt.mp this)]
        trivial
    · rw [if_neg (fun z => by have e' := z.1 ▸ hi; rw [e] at e'; cases e'; exact hb rfl)]
      exact ⟨ov, q.sameBut hs hb, l⟩
  · have ha := r.ap b (List.mem_of_getElem? e)
    exact ObjAt.mono (List.prefix_refl _) (fun ob q => hne b ob q (ha.2.2 x ca (List.mem_of_getElem? hi))) (r.obj j b o e e')

noncomputable def UR (_ : List Addr) (_ : Unit) (_ : Unit) : Prop := True
/-- name x is variable i and may be stored -/
inductive Stores (c : Cx) (x : Str) (i : Nat) : Prop
  | loc (hi : c.ns[i]? = some (x, none)) (hl : c.env.kindOf x = some .local)
  | cell (a : Addr) (hi : c.ns[i]? = some (x, some a)) (hl : c.env.kindOf x = some .cell) (hc : c.env.cells.lookup x = some a) (hm : a ∈ c.mt)

theorem at_store {σ : List Addr} {x : Str} {i : Nat} {v : AV} {a : Value} (ok : CxOk c) (hx : Stores c x i) (hv : VRel σ v a) : At c d σ (storeName c.env x a) UR (setVar i v) := by
  intro A hA S s r b S' e Q E K
  cases e
  cases hx with
  | loc hi hl =>
    obtain ⟨cm, h1, h2⟩ := r.ns
    refine wpAny_storeName_local hl h1 (fun h' hn hs => ?_) (by rw [ok.kind]; rfl)
    have := Rel.store (s' := { s with heap := h', toks := s.toks + 1 }) ok r hi hv h2 hn hs rfl rfl
    exact K σ _ () this.1 this.2 trivial
  | cell ca hi hl hc hm =>
    obtain ⟨ov, q, l⟩ := r.cl i x ca hi
    refine wpAny_storeName_cell ok.kind hl hc q fun h' hn hs => ?_
    have := Rel.storeC (s' := { s with heap := h' }) ok r hi hm hv hn hs rfl rfl
    exact K σ _ () this.1 this.2 trivial
theorem at_bind {σ : List Addr} {x : Str} {i : Nat} {v : AV} {a : Value} (ok : CxOk c) (hx : Stores c x i) (hv : VRel σ v a) : At c d σ (bindName c.env x a) UR (setVar i v) :=
  fun A hA S s r b S' e Q E K => wpAny_bindName (at_store ok hx hv A hA S s r b S' e Q E K)
theorem at_assignName {σ : List Addr} {x : Str} {pos : Pos} {i : Nat} {v : AV} {a : Value} (ok : CxOk c) (hx : Stores c x i) (hv : VRel σ v a) : At c d σ (assign (.Name x pos) c.env a) UR (setVar i v) :=
  fun A hA S s r b S' e Q E K => wpAny_assign_Name (at_store ok hx hv A hA S s r b S' e Q E K)

-- statements
inductive AFlow where
  | next | brk | cont | ret (v : AV)
noncomputable def FRel (σ : List Addr) : AFlow → Flow → Prop
  | .next, .next => True
  | .brk, .brk => True
  | .cont, .cont => True
  | .ret v, .ret a => VRel σ v a
  | _, _ => False

theorem At.map {α β γ δ : Type} {σ : List Addr} {t : Sem α} {R : List Addr → β → α → Prop} {f : F β} {g : β → γ} {h : α → δ} {T : List Addr → γ → δ → Prop} (x : At c d σ t R f) (k : ∀ σ' b a, R σ' b a → T σ' (g b) (h a)) :
    At c d σ (t >>= fun a => Pure.pure (h a)) T (F.bind f fun b => F.pure (g b)) := x.bind fun σ' b a _ r => .pure (k σ' b a r)

theorem den_assign {x : Str} {p pos : Pos} {value : Expr} {i : Nat} {f : F AV} (ok : CxOk c) (hx : Stores c x i) (hv : Den c d (eval value c.env) VRel f) (hs : swapsWith value (some (.Name x p)) pos.line c.env = pure false) :
    Den c d (exec (.Assign [.Name x p] value pos) c.env) FRel (F.bind f fun v => F.bind (setVar i v) fun _ => F.pure .next) := by
  refine .of_at fun σ => ?_
  rw [exec_Assign_Name c.env x p value pos hs]
  exact .standAt ((hv.at σ).bind fun σ₁ v a p₁ ra => .standAt ((at_bind ok hx ra).bind fun σ₂ u w p₂ _ => .pure trivial))
theorem den_assign3 {x y z : Str} {p₁ p₂ p₃ pos : Pos} {value : Expr} {i j k : Nat} {f : F AV} (ok : CxOk c) (hx : Stores c x i) (hy : Stores c y j) (hz : Stores c z k) (hv : Den c d (eval value c.env) VRel f) :
    Den c d (exec (.Assign [.Name x p₁, .Name y p₂, .Name z p₃] value pos) c.env) FRel (F.bind f fun v => F.bind (setVar i v) fun _ => F.bind (setVar j v) fun _ => F.bind (setVar k v) fun _ => F.pure .next) := by
  refine ⟨fun A hA σ S s r b S' e Q E K => ?_⟩
  obtain ⟨v, S₁, e1, e⟩ := bind_some e
  obtain ⟨u₁, S₂, e2, e⟩ := bind_some e
  obtain ⟨u₂, S₃, e3, e⟩ := bind_some e
  obtain ⟨u₃, S₄, e4, e⟩ := bind_some e
  cases e
  refine wpAny_Assign_three (hv.run A hA σ S s r v S₁ e1 _ E fun σ₁ s₁ a r₁ x₁ y₁ => ?_)
  refine at_assignName ok hx y₁ A hA S₁ s₁ r₁ u₁ S₂ e2 _ E fun σ₂ s₂ _ r₂ x₂ _ => ?_
  refine at_assignName ok hy (y₁.mono x₂.pre) A hA S₂ s₂ r₂ u₂ S₃ e3 _ E fun σ₃ s₃ _ r₃ x₃ _ => ?_
  refine at_assignName ok hz ((y₁.mono x₂.pre).mono x₃.pre) A hA S₃ s₃ r₃ u₃ S' e4 _ E fun σ₄ s₄ _ r₄ x₄ _ => ?_
  exact K σ₄ s₄ _ r₄ (x₁.trans r₁.nd (x₂.trans r₂.nd (x₃.trans r₃.nd x₄))) trivial
theorem den_aug {x : Str} {p pos : Pos} {op : Operator} {value : Expr} {i : Nat} {f : F AV} {h : AV → AV → F AV} (ok : CxOk c) (hx : Stores c x i) (hn : Den c d (eval (.Name x p) c.env) VRel (getVar i)) (hv : Den c d (eval value c.env) VRel f)
    (ho : Op2 c d (inplaceOp op) VRel h) (hd : (x == ("__debug__" : Str)) = false) :
    Den c d (exec (.AugAssign (.Name x p) op value pos) c.env) FRel (F.bind (getVar i) fun u => F.bind f fun v => F.bind (h u v) fun w => F.bind (setVar i w) fun _ => F.pure .next) := by
  refine .of_at fun σ => ?_
  have e0 : exec (.AugAssign (.Name x p) op value pos) c.env = (eval (.Name x p) c.env >>= fun old => holding [old] (eval value c.env) >>= fun v => standAt pos >>= fun _ => operate [old, v] (inplaceOp op old v) >>= fun new => standAt p >>= fun _ => bindName c.env x new >>= fun _ => Pure.pure .next) := by
    rw [exec_AugAssign_Name, eval_Name c.env x p hd]; rfl
  rw [e0]
  refine (hn.at σ).bind fun σ₁ u a p₁ ra => (At.holding (hv.at σ₁)).bind fun σ₂ v b p₂ rb => .standAt ((At.operate (ho σ₂ u v a b (ra.mono p₂) rb)).bind fun σ₃ w z p₃ rw => .standAt ((at_bind ok hx rw).bind fun _ _ _ _ _ => .pure trivial))
theorem den_ret {e : Expr} {pos : Pos} {f : F AV} (h : Den c d (eval e c.env) VRel f) : Den c d (exec (.Return (some e) pos) c.env) FRel (F.bind f fun v => F.pure (.ret v)) := by
  refine .of_at fun σ => ?_
  rw [exec_Return_some]
  exact .standAt ((h.at σ).bind fun σ₁ v a p₁ ra => .pure ra)
theorem den_ret0 {pos : Pos} : Den c d (exec (.Return none pos) c.env) FRel (F.pure (.ret .none)) := by
  refine .of_at fun σ => ?_
  rw [exec_Return_none]
  exact .standAt (.pure trivial)
theorem den_if {t : Expr} {bd els : List Stmt} {pos : Pos} {ft : F Bool} {f g : F AFlow} (ht : Den c d (isTrue t c.env (eval t c.env)) BRel ft) (hb : Den c d (execs bd c.env) FRel f) (he : Den c d (execs els c.env) FRel g) :
    Den c d (exec (.If t bd els pos) c.env) FRel (F.bind ft fun b => match b with | true => f | false => g) := by
  refine .of_at fun σ => ?_
  rw [exec_If]
  refine .standAt ((ht.at σ).bind fun σ₁ b a p₁ ra => ?_)
  cases ra
  cases b with
  | true => exact hb.at σ₁
  | false => exact he.at σ₁
theorem den_nil : Den c d (execs [] c.env) FRel (F.pure .next) := .of_at fun σ => by rw [execs_nil]; exact .pure trivial
noncomputable def seqF (f g : F AFlow) : F AFlow := F.bind f fun fl => match fl with
  | .next => g
  | fl => F.pure fl
theorem den_cons {st : Stmt} {rest : List Stmt} {f g : F AFlow} (h : Den c d (exec st c.env) FRel f) (hr : Den c d (execs rest c.env) FRel g) : Den c d (execs (st :: rest) c.env) FRel (seqF f g) := by
  refine .of_at fun σ => ?_
  rw [execs_cons]
  refine (h.at σ).bind fun σ₁ b a p₁ ra => ?_
  cases b <;> cases a <;> first | exact ra.elim | exact hr.at σ₁ | exact .pure ra
/-- an expression that stands alone as a statement and gives None -/
theorem den_expr {e : Expr} {pos : Pos} {f : F AV} (h : Den c d (eval e c.env) VRel f) (hi : interactive c.env = false) (hs : swapsWith e none pos.line c.env = pure false) :
    Den c d (exec (.Expr e pos) c.env) FRel (F.bind f fun v => match v with | .none => F.pure .next | _ => F.fail) := by
  refine ⟨fun A hA σ S s r b S' e' Q E K => ?_⟩
  obtain ⟨v, S₁, e1, e2⟩ := bind_some e'
  refine wpAny_Expr (h.run A hA σ S s r v S₁ e1 _ E fun σ₁ s₁ a r₁ x₁ y₁ => ?_) hi hs
  cases v with
  | none =>
    cases e2
    have := y₁.none_inv
    subst this
    exact K σ₁ s₁ _ r₁ x₁ trivial
  | _ => cases e2

-- while
noncomputable def whileF (t : F Bool) (b : F AFlow) : Nat → F AFlow
  | 0 => F.fail
  | n + 1 => F.bind t fun x => match x with
    | false => F.pure .next
    | true => F.bind b fun fl => match fl with
      | .next => whileF t b n
      | .cont => whileF t b n
      | .brk => F.pure .next
      | .ret v => F.pure (.ret v)
theorem den_while {t : Expr} {bd : List Stmt} {pos : Pos} {ft : F Bool} {f : F AFlow} (n : Nat) (ht : Den c d (isTrue t c.env (eval t c.env)) BRel ft) (hb : Den c d (execs bd c.env) FRel f) :
    Den c d (exec (.While t bd [] pos) c.env) FRel (whileF ft f n) := by
  refine ⟨fun A hA σ S s r fl S' e Q E K => ?_⟩
  refine wpAny_While (codeAny_whileLoop (fun n s' => ∃ σ₁ S₁, Rel c σ₁ S₁ s' ∧ Ext c σ s σ₁ s' ∧ whileF ft f n S₁ = some (fl, S')) (fun n s' hI => ?_) n ⟨σ, S, r, .refl .., e⟩)
  obtain ⟨σ₁, S₁, r₁, x₁, e₁⟩ := hI
  cases n with
  | zero => cases e₁
  | succ n =>
    obtain ⟨b, S₂, e2, e3⟩ := bind_some e₁
    refine ht.run A hA σ₁ S₁ s' r₁ b S₂ e2 _ _ fun σ₂ s₂ a r₂ x₂ y₂ => ?_
    cases y₂
    cases b with
    | false =>
      cases e3
      exact wpAny_execs_nil (K σ₂ s₂ _ r₂ (x₁.trans r₁.nd x₂) trivial)
    | true =>
      obtain ⟨fl₁, S₃, e4, e5⟩ := bind_some e3
      refine hb.run A hA σ₂ S₂ s₂ r₂ fl₁ S₃ e4 _ _ fun σ₃ s₃ a₃ r₃ x₃ y₃ => ?_
      have x₁₃ := x₁.trans r₁.nd (x₂.trans r₂.nd x₃)
      cases fl₁ <;> cases a₃ <;> first | exact y₃.elim | skip
      · exact ⟨n, Nat.lt_succ_self _, σ₃, S₃, r₃, x₁₃, e5⟩
      · cases e5; exact K σ₃ s₃ _ r₃ x₁₃ trivial
      · exact ⟨n, Nat.lt_succ_self _, σ₃, S₃, r₃, x₁₃, e5⟩
      · cases e5; exact K σ₃ s₃ _ r₃ x₁₃ y₃
end Mine
end

section
set_option maxRecDepth 100000
set_option linter.unusedVariables false
open PySem PySem.W PyProof.Rows PySem.Calls
namespace Mine
variable {c : Cx} {d : Nat}

inductive Item where
  | one (v : AV)
  | two (v w : AV)
noncomputable def IRel (σ : List Addr) (h : Heap) : Item → Value → Prop
  | .one v, a => VRel σ v a
  | .two v w, a => ∃ T x y, a = .ref T ∧ h.IsTuple T #[x, y] ∧ VRel σ v x ∧ VRel σ w y

structure Moved (fp : List Addr) (gp : List Nat) (s s' : Shared) : Prop where
  keep : ∀ b o, s.heap.get? b = some o → b ∉ fp → s'.heap.get? b = some o
  gens : ∀ (i : Nat) x, s.gens[i]? = some x → i ∉ gp → s'.gens[i]? = some x
  bare : AllBare s.gens → AllBare s'.gens
  os : s'.os = s.os

noncomputable abbrev ItemF := Nat → List AO → Option (Option Item)

structure Off (c : Cx) (σ : List Addr) (fp : List Addr) : Prop where
  sg : ∀ b ∈ fp, b ∉ σ
  mt : ∀ b ∈ fp, b ∉ c.mt
  base : ∀ b ∈ fp, c.B.get? b = none
  loc : ∀ b ∈ fp, b ≠ c.env.locals
  cell : ∀ b ∈ fp, ∀ x a, (x, some a) ∈ c.ns → b ≠ a

theorem Rel.moved {σ : List Addr} {S : St} {s s' : Shared} {fp : List Addr} {gp : List Nat} (r : Rel c σ S s) (o : Off c σ fp) (m : Moved fp gp s s') : Rel c σ S s' := by
  obtain ⟨h1, h2, ⟨cm, h3, h3'⟩, h4, h5, h6, h7, h8, h9, h10⟩ := r
  have hne : ∀ b ob, b ∉ fp → s.heap.get? b = some ob → s'.heap.get? b = some ob := fun b ob hb e => m.keep b ob e hb
  refine ⟨h1, fun b ob e => hne b ob (fun hb => ?_) (h2 b ob e), ⟨cm, h3.at' fun ob e => hne _ ob (fun hb => o.loc _ hb rfl) e, h3'⟩, fun i x a e => ?_,
    fun i a ob e e' => ObjAt.mono (List.prefix_refl _) (fun z => hne a z fun hb => o.sg a hb (List.mem_of_getElem? e)) (h5 i a ob e e'), h6, h7, h8, fun a ha => (let ⟨ob, e⟩ := h9 a ha; ⟨ob, hne a ob (fun hb => o.mt a hb ha) e⟩), h10⟩
  · rw [o.base b hb] at e; cases e
  · obtain ⟨ov, q, l⟩ := h4 i x a e
    refine ⟨ov, ?_, l⟩
    obtain ⟨ob, e1, e2⟩ := q
    exact ⟨ob, hne a ob (fun hb => o.cell a hb x a (List.mem_of_getElem? e) rfl) e1, e2⟩

structure It (prog : Program) (w : World) (B : Heap) (A : Around) (d : Nat) (tgt : Expr) (I : Value) (item : ItemF) where
  P : Nat → List Addr → List Addr → List Nat → Shared → Prop
  keep : ∀ k σ σ' fp gp s s', P k σ fp gp s → σ <+: σ' → (∀ b ∈ fp, ∀ o, s.heap.get? b = some o → s'.heap.get? b = some o) → (∀ g ∈ gp, ∀ x, s.gens[g]? = some x → s'.gens[g]? = some x) → P k σ' fp gp s'
  live : ∀ k σ fp gp s, P k σ fp gp s → (∀ b ∈ fp, ∃ o, s.heap.get? b = some o)
  self : Low d A → ∀ k σ fp gp s, P k σ fp gp s → ∀ (Q : Value → Shared → Prop) (E : Value → Shared → Prop), Q I s → wpAny (model prog w) A (pyIter I) Q E s
  next : ∀ c : Cx, c.prog = prog → c.w = w → c.B = B → Low d A → ∀ k σ S s fp gp, Rel c σ S s → P k σ fp gp s → Off c σ fp → ∀ r, item k S.H = some r → ∀ (Q : Option Value → Shared → Prop) (E : Value → Shared → Prop),
    (r = none → ∀ s', Moved fp gp s s' → Q none s') →
    (∀ x, r = some x → ∀ a s' fp', P (k + 1) σ fp' gp s' → (∀ b ∈ fp', b ∉ fp → s.heap.get? b = none) → Moved fp gp s s' → IRel σ s'.heap x a → Q (some a) s') →
    wpAny (M c) A (pyNext I) (fun r s₁ => match r with
      | none => Q none s₁
      | some a => wpAny (M c) A (letOwnedTupleGo tgt I a) (fun _ s₂ => Q (some a) s₂) E s₁) E s

structure Fresh (s : Shared) (σ' fp : List Addr) (gp : List Nat) : Prop where
  hp : ∀ b ∈ fp, s.heap.get? b = none
  sg : ∀ b ∈ fp, b ∉ σ'
  gn : ∀ g ∈ gp, s.gens[g]? = none

structure Src (c : Cx) (d : Nat) (tgt iter : Expr) (f : F ItemF) : Prop where
  run : ∀ A, Low d A → ∀ σ S s, Rel c σ S s → ∀ item S', f S = some (item, S') → ∀ (Q : Value → Shared → Prop) (E : Value → Shared → Prop),
    (∀ σ' s' I (J : It c.prog c.w c.B A d tgt I item) fp gp, Rel c σ' S' s' → Ext c σ s σ' s' → J.P 0 σ' fp gp s' → Fresh s σ' fp gp → Q I s') →
    wpAny (M c) A (eval iter c.env) (fun x s₁ => wpAny (M c) A (pyIter x) Q E s₁) E s

structure Tgt (c : Cx) (d : Nat) (tgt : Expr) (st : Item → F Unit) : Prop where
  run : ∀ A, Low d A → ∀ σ S s, Rel c σ S s → ∀ x a, IRel σ s.heap x a → ∀ u S', st x S = some (u, S') → ∀ (Q : Unit → Shared → Prop) (E : Value → Shared → Prop),
    (∀ s', Rel c σ S' s' → Ext c σ s σ s' → Q () s') → wpAny (M c) A (assign tgt c.env a) Q E s

theorem at_store' {σ : List Addr} {x : Str} {i : Nat} {v : AV} {a : Value} (ok : CxOk c) (hx : Stores c x i) (hv : VRel σ v a) {A : Around} {S : St} {s : Shared} (r : Rel c σ S s) {Q : Unit → Shared → Prop} {E : Value → Shared → Prop}
    (K : ∀ s', Rel c σ { S with m := S.m.set i v } s' → Ext c σ s σ s' → Q () s') : wpAny (M c) A (storeName c.env x a) Q E s := by
  cases hx with
  | loc hi hl =>
    obtain ⟨cm, h1, h2⟩ := r.ns
    refine wpAny_storeName_local hl h1 (fun h' hn hs => ?_) (by rw [ok.kind]; rfl)
    have := Rel.store (s' := { s with heap := h', toks := s.toks + 1 }) ok r hi hv h2 hn hs rfl rfl
    exact K _ this.1 this.2
  | cell ca hi hl hc hm =>
    obtain ⟨ov, q, l⟩ := r.cl i x ca hi
    refine wpAny_storeName_cell ok.kind hl hc q fun h' hn hs => ?_
    have := Rel.storeC (s' := { s with heap := h' }) ok r hi hm hv hn hs rfl rfl
    exact K _ this.1 this.2

noncomputable def st1 (i : Nat) : Item → F Unit
  | .one v => setVar i v
  | .two _ _ => F.fail
noncomputable def st2 (i j : Nat) : Item → F Unit
  | .two v w => F.bind (setVar i v) fun _ => setVar j w
  | .one _ => F.fail
theorem tgt_name {x : Str} {p : Pos} {i : Nat} (ok : CxOk c) (hx : Stores c x i) : Tgt c d (.Name x p) (st1 i) := by
  refine ⟨fun A hA σ S s r it a hi u S' e Q E K => ?_⟩
  cases it with
  | one v => cases e; exact wpAny_assign_Name (at_store' ok hx hi r K)
  | two v w => cases e
theorem tgt_pair {x y : Str} {p q pt : Pos} {k : Nat} {i j : Nat} (ok : CxOk c) (hx : Stores c x i) (hy : Stores c y j) : Tgt c d (.Tuple [.Name x p, .Name y q] k pt) (st2 i j) := by
  refine ⟨fun A hA σ S s r it a hi u S' e Q E K => ?_⟩
  cases it with
  | one v => cases e
  | two v w =>
    cases e
    obtain ⟨T, xv, yv, rfl, hT, hv, hw⟩ := hi
    refine wpAny_assign_Tuple hA.handled hT rfl rfl fun h₃ hx₃ => ?_
    have up : ∀ b o, s.heap.get? b = some o → h₃.get? b = some o := fun b o e => hx₃ b o (Nat.ne_of_lt (Heap.lt_size e)) e
    have r₁ : Rel c σ S { s with heap := h₃ } := r.grown up
    have x₁ : Ext c σ s σ { s with heap := h₃ } := .grown up rfl rfl
    show wpAny _ A (do holding [yv] (assign (.Name x p) c.env xv); do holding [] (assign (.Name y q) c.env yv); pure ()) _ _ _
    refine wpAny_bind (wpAny_holding (wpAny_assign_Name (at_store' ok hx hv r₁ fun s₂ r₂ x₂ => ?_)))
    refine wpAny_bind (wpAny_holding (wpAny_assign_Name (at_store' ok hy hw r₂ fun s₃ r₃ x₃ => wpAny_pure ?_)))
    exact K s₃ r₃ (x₁.trans r₁.nd (x₂.trans r₂.nd x₃))

noncomputable def forF (item : ItemF) (st : Item → F Unit) (b : F AFlow) : Nat → Nat → F AFlow
  | 0, _ => F.fail
  | n + 1, k => fun S => match item k S.H with
    | none => none
    | some none => some (.next, S)
    | some (some x) => (F.bind (st x) fun _ => F.bind b fun fl => match fl with
      | .next => forF item st b n (k + 1)
      | .cont => forF item st b n (k + 1)
      | .brk => F.pure .next
      | .ret v => F.pure (.ret v)) S

theorem Ext.moved {σ σ' : List Addr} {s s₁ s₂ : Shared} {fp : List Addr} {gp : List Nat} (x : Ext c σ s σ' s₁) (m : Moved fp gp s₁ s₂) (hf : ∀ b ∈ fp, s.heap.get? b = none) (hg : ∀ g ∈ gp, s.gens[g]? = none) : Ext c σ s σ' s₂ := by
  refine ⟨x.pre, x.fresh, fun b o e h1 h2 => m.keep b o (x.keep b o e h1 h2) fun hb => ?_, fun b o e => (let ⟨o', e'⟩ := x.dom b o e; ⟨o', m.keep b o' e' fun hb => by rw [hf b hb] at e; cases e⟩), ⟨fun i z e => m.gens i z (x.gens.1 i z e) fun hi => ?_, fun h => m.bare (x.gens.2 h)⟩, m.os.trans x.os⟩
  · rw [hf b hb] at e; cases e
  · rw [hg i hi] at e; cases e

theorem Fresh.off {σ σ' : List Addr} {S : St} {s : Shared} {fp : List Addr} {gp : List Nat} (r : Rel c σ S s) (f : Fresh s σ' fp gp) : Off c σ' fp := by
  have nn : ∀ b ∈ fp, ∀ o, s.heap.get? b ≠ some o := fun b hb o e => by rw [f.hp b hb] at e; cases e
  refine ⟨f.sg, fun b hb hm => (let ⟨o, e⟩ := r.ml b hm; nn b hb o e), fun b hb => ?_, fun b hb h => ?_, fun b hb x a hx h => ?_⟩
  · cases e : c.B.get? b with
    | none => rfl
    | some o => exact absurd (r.base b o e) (nn b hb o)
  · obtain ⟨cm, ⟨o, _, _, e, _⟩, _⟩ := r.ns
    exact nn b hb o (h ▸ e)
  · obtain ⟨i, hi, e⟩ := List.getElem_of_mem hx
    obtain ⟨ov, ⟨o, e', _⟩, _⟩ := r.cl i x a (by rw [List.getElem?_eq_getElem hi, e])
    exact nn b hb o (h ▸ e')

theorem It.next' {tgt : Expr} {I : Value} {item : ItemF} {A : Around} (J : It c.prog c.w c.B A d tgt I item) (hA : Low d A) {k : Nat} {σ : List Addr} {S : St} {s : Shared} {fp : List Addr} {gp : List Nat} (r : Rel c σ S s) (hP : J.P k σ fp gp s)
    (ho : Off c σ fp) {rr : Option Item} (hi : item k S.H = some rr) (N : Shared → Prop) (Z : Value → Shared → Prop) (E : Value → Shared → Prop)
    (h0 : rr = none → ∀ s', Moved fp gp s s' → N s')
    (h1 : ∀ x, rr = some x → ∀ a s' fp', J.P (k + 1) σ fp' gp s' → (∀ b ∈ fp', b ∉ fp → s.heap.get? b = none) → Moved fp gp s s' → IRel σ s'.heap x a → Z a s') :
    wpAny (M c) A (pyNext I) (fun r s₁ => match r with
      | none => N s₁
      | some a => wpAny (M c) A (letOwnedTupleGo tgt I a) (fun _ s₂ => Z a s₂) E s₁) E s :=
  wpAny_mono (J.next c rfl rfl rfl hA k σ S s fp gp r hP ho rr hi (fun ro s₃ => match ro with | none => N s₃ | some a => Z a s₃) E h0 h1) (fun ro s₃ h => by cases ro <;> exact h) fun _ _ h => h

theorem den_for {tgt iter : Expr} {bd : List Stmt} {pos : Pos} {src : F ItemF} {st : Item → F Unit} {f : F AFlow} (n : Nat) (hs : Src c d tgt iter src) (ht : Tgt c d tgt st) (hb : Den c d (execs bd c.env) FRel f)
    (hf : ∀ x, foldedSetIterable iter c.env x = pure x) :
    Den c d (exec (.For tgt iter bd [] pos) c.env) FRel (F.bind src fun item => forF item st f n 0) := by
  refine ⟨fun A hA σ S s r fl S' e Q E K => ?_⟩
  obtain ⟨item, S₁, e1, e2⟩ := bind_some e
  refine wpAny_For (hs.run A hA σ S s r item S₁ e1 _ E fun σ₁ s₁ I J fp gp r₁ x₁ hP hF => ?_) hf
  refine codeAny_forLoop_any (fun n s' => ∃ σ₂ S₂ k fp₂, Rel c σ₂ S₂ s' ∧ Ext c σ s σ₂ s' ∧ J.P k σ₂ fp₂ gp s' ∧ Fresh s σ₂ fp₂ gp ∧ forF item st f n k S₂ = some (fl, S')) (fun n s' hI => ?_) n
    ⟨σ₁, S₁, 0, fp, r₁, x₁, hP, hF, e2⟩
  obtain ⟨σ₂, S₂, k, fp₂, r₂, x₂, hP₂, hF₂, e₂⟩ := hI
  cases n with
  | zero => cases e₂
  | succ n =>
    have hoff := hF₂.off r
    unfold forF at e₂
    cases hi : item k S₂.H with
    | none => rw [hi] at e₂; cases e₂
    | some rr =>
      rw [hi] at e₂
      refine J.next' hA r₂ hP₂ hoff hi _ _ _ (fun hr s₃ m => ?_) fun x hr a s₃ fp₃ hP₃ hfr m hR => ?_
      · subst hr
        cases e₂
        exact wpAny_execs_nil (K σ₂ s₃ .next (r₂.moved hoff m) (x₂.moved m hF₂.hp hF₂.gn) trivial)
      · subst hr
        obtain ⟨u, S₃, e3, e4⟩ := bind_some e₂
        have r₃ := r₂.moved hoff m
        have x₃ := x₂.moved m hF₂.hp hF₂.gn
        have hF₃ : Fresh s σ₂ fp₃ gp := by
          have old : ∀ b ∈ fp₃, b ∉ fp₂ → s.heap.get? b = none ∧ b ∉ σ₂ := fun b hb hn => by
            have h0 := hfr b hb hn
            refine ⟨?_, fun hs' => ?_⟩
            · cases e : s.heap.get? b with
              | none => rfl
              | some o => obtain ⟨o', e'⟩ := x₂.dom b o e; rw [h0] at e'; cases e'
            · obtain ⟨i, hi', e⟩ := List.getElem_of_mem hs'
              have hl : i < S₂.H.length := r₂.len ▸ hi'
              have hlt := (r₂.obj i b S₂.H[i] (by rw [List.getElem?_eq_getElem hi', e]) (List.getElem?_eq_getElem hl))
              generalize S₂.H[i] = oo at hlt
              cases oo <;> (obtain ⟨vs, n', e', _⟩ := hlt; rw [h0] at e'; cases e')
          refine ⟨fun b hb => ?_, fun b hb => ?_, hF₂.gn⟩
          · by_cases hq : b ∈ fp₂
            · exact hF₂.hp b hq
            · exact (old b hb hq).1
          · by_cases hq : b ∈ fp₂
            · exact hF₂.sg b hq
            · exact (old b hb hq).2
        refine ht.run A hA σ₂ S₂ s₃ r₃ x a hR u S₃ e3 _ _ fun s₄ r₄ x₄ => ?_
        obtain ⟨fl₁, S₅, e5, e6⟩ := bind_some e4
        refine hb.run A hA σ₂ S₃ s₄ r₄ fl₁ S₅ e5 _ _ fun σ₅ s₅ a₅ r₅ x₅ y₅ => ?_
        have x₀₅ := x₃.trans r₃.nd (x₄.trans r₄.nd x₅)
        have x₃₅ := x₄.trans r₄.nd x₅
        have hoff₃ := hF₃.off r
        have hP₅ : J.P (k + 1) σ₅ fp₃ gp s₅ := J.keep _ _ _ _ _ s₃ _ hP₃ x₃₅.pre
          (fun b hb o e => x₃₅.keep b o e (hoff₃.mt b hb) fun hd => hoff₃.sg b hb (List.mem_of_mem_drop hd)) fun g hg x e => x₃₅.gens.1 g x e
        have hF₅ : Fresh s σ₅ fp₃ gp := by
          refine ⟨hF₃.hp, fun b hb hs' => ?_, hF₃.gn⟩
          by_cases hq : b ∈ σ₂
          · exact hF₃.sg b hb hq
          · obtain ⟨o, e⟩ := J.live _ _ _ _ _ hP₃ b hb
            rw [x₃₅.fresh b hs' hq] at e; cases e
        cases fl₁ <;> cases a₅ <;> first | exact y₅.elim | skip
        · exact ⟨n, Nat.lt_succ_self _, σ₅, S₅, k + 1, fp₃, r₅, x₀₅, hP₅, hF₅, e6⟩
        · cases e6; exact K σ₅ s₅ _ r₅ x₀₅ trivial
        · exact ⟨n, Nat.lt_succ_self _, σ₅, S₅, k + 1, fp₃, r₅, x₀₅, hP₅, hF₅, e6⟩
        · cases e6; exact K σ₅ s₅ _ r₅ x₀₅ y₅
end Mine
end

section
set_option maxRecDepth 100000
set_option linter.unusedVariables false
open PySem PySem.W PyProof.Rows PySem.Calls
namespace Mine
variable {c : Cx} {d : Nat}

/-- a list of values is met with -/
noncomputable def OpL (c : Cx) (d : Nat) {α β : Type} (t : List Value → Sem α) (R : List Addr → β → α → Prop) (h : List AV → F β) : Prop :=
  ∀ σ us as, VsRel σ us as → At c d σ (t as) R (h us)

/-- the global names -/
structure GlobOk (B : Heap) (mg mb : Str → Option Value) : Prop where
  g : B.Ns mainGlobals mg
  b : B.Ns builtinsNs mb
  lim : B.NoLimit

noncomputable def GName (c : Cx) (x : Str) (v : Value) : Prop :=
  c.env.scope.kind = .function ∧ c.env.kindOf x = some .globalImplicit ∧ ∃ mg mb, GlobOk c.B mg mb ∧ c.env.globals = mainGlobals ∧ c.env.builtins = builtinsNs ∧
    (mg x = some v ∨ (mg x = none ∧ mb x = some v))
theorem GName.load {x : Str} {v : Value} {p : Pos} (g : GName c x v) {A : Around} {σ : List Addr} {S : St} {s : Shared} (r : Rel c σ S s) {Q : Value → Shared → Prop} {E : Value → Shared → Prop} (h : Q v s)
    (hd : (x == ("__debug__" : Str)) = false) : wpAny (M c) A (eval (.Name x p) c.env) Q E s := by
  obtain ⟨hk, hl, mg, mb, G, eg, eb, hv⟩ := g
  refine Name_function_global hk hl ?_ hd
  have hg : s.heap.Ns c.env.globals mg := by rw [eg]; exact G.g.keeps r.base
  have hb : s.heap.Ns c.env.builtins mb := by rw [eb]; exact G.b.keeps r.base
  rcases hv with hv | ⟨h1, h2⟩
  · exact loadGlobal_global hg hv h
  · exact loadGlobal_builtin hg h1 hb h2 h

inductive CalleeOk (c : Cx) : Value → Prop
  | builtin (id : String) : CalleeOk c (.builtin id)
  | type (T : String) : CalleeOk c (.type T)
  | fn (a : Addr) (o : Obj) (fd : FuncData) (ho : c.B.get? a = some o) (hd : o.data = .func fd) : CalleeOk c (.ref a)

theorem at_callWith {pos : Pos} {fv : Value} {e : Expr} {es : List Expr} {fl : F (List AV)} {h : List AV → F AV} {first : List Value} {σ : List Addr} (ck : CalleeOk c fv) (hl : DenL c d (e :: es) fl)
    (hn : ∀ x p, e ≠ .Starred x p) (hplain : (backTo pos (starEach es c.env)).any (·.1) = false)
    (ho : ∀ σ', σ <+: σ' → ∀ us as, VsRel σ' us as → At c d σ' (call fv (first ++ as)) VRel (h us)) : At c d σ (callWith pos fv first (backTo pos (starEach (e :: es) c.env)) []) VRel (F.bind fl h) := by
  intro A hA S s r b S' e' Q E K
  obtain ⟨us, S₁, e1, e2⟩ := bind_some e'
  have key : wpAny (M c) A (spliced (backTo pos (starEach (e :: es) c.env))) (fun as s₁ => ∃ σ₁, Rel c σ₁ S₁ s₁ ∧ wpAny (M c) A (call fv (first ++ as)) Q E s₁) E s :=
    (hl pos).run A hA σ S s r us S₁ e1 _ E fun σ₁ s₁ as r₁ x₁ y₁ => ⟨σ₁, r₁, ho σ₁ x₁.pre us as y₁ A hA S₁ s₁ r₁ b S' e2 Q E fun σ₂ s₂ a r₂ x₂ y₂ => K σ₂ s₂ a r₂ (x₁.trans r₁.nd x₂) y₂⟩
  rw [starEach_cons hn] at key ⊢
  have hp : (backTo pos ((false, eval e c.env) :: starEach es c.env)).any (·.1) = false := by
    show (false || (backTo pos (starEach es c.env)).any (·.1)) = false
    rw [hplain]; rfl
  cases ck with
  | builtin id => exact callWith_builtin hp (evalArgs_plain (wpAny_mono key (fun as s₁ h₁ => h₁.choose_spec.2) fun _ _ x => x))
  | type T => exact PyProof.Rows.callWith_type hp (evalArgs_plain (wpAny_mono key (fun as s₁ h₁ => h₁.choose_spec.2) fun _ _ x => x))
  | fn a o fd ho' hd => exact callWith_function (o := o) (fd := fd) (evalArgs_plain (wpAny_mono key (fun as s₁ h₁ => ⟨⟨h₁.choose_spec.1.base a o ho', hd⟩, h₁.choose_spec.2⟩) fun _ _ x => x))

theorem den_call {x : Str} {p pos : Pos} {fv : Value} {e : Expr} {es : List Expr} {fl : F (List AV)} {h : List AV → F AV} (hx : GName c x fv) (ck : CalleeOk c fv) (hl : DenL c d (e :: es) fl) (ho : OpL c d (fun as => call fv as) VRel h)
    (hn : ∀ x p, e ≠ .Starred x p) (hplain : ∀ pos, (backTo pos (starEach es c.env)).any (·.1) = false) (hd : (x == ("__debug__" : Str)) = false) :
    Den c d (eval (.Call (.Name x p) (e :: es) [] pos) c.env) VRel (F.bind fl h) := by
  refine ⟨fun A hA σ S s r b S' e' Q E K => ?_⟩
  exact Call_Name rfl (hx.load r (at_callWith (h := h) (first := []) ck hl hn (hplain pos) (fun σ' _ us as hv => ho σ' us as hv) A hA S s r b S' e' Q E K) hd)

theorem Rel.live {σ : List Addr} {S : St} {s : Shared} (r : Rel c σ S s) : ∀ b ∈ σ, ∃ o, s.heap.get? b = some o := fun b hb => by
  obtain ⟨i, hi, q⟩ := List.getElem_of_mem hb
  have hl : i < S.H.length := r.len ▸ hi
  have ob := r.obj i b S.H[i] (by rw [List.getElem?_eq_getElem hi, q]) (List.getElem?_eq_getElem hl)
  generalize S.H[i] = oo at ob
  cases oo <;> (obtain ⟨_, _, e', _⟩ := ob; exact ⟨_, e'⟩)
/-- the frame's own dict and its cells -/
noncomputable def Home (c : Cx) (b : Addr) : Prop := b = c.env.locals ∨ ∃ x, (x, some b) ∈ c.ns
theorem Rel.home {σ : List Addr} {S : St} {s : Shared} (r : Rel c σ S s) {b : Addr} (h : Home c b) : ∃ o, s.heap.get? b = some o := by
  rcases h with rfl | ⟨x, hx⟩
  · obtain ⟨cm, ⟨o, _, _, e', _⟩, _⟩ := r.ns; exact ⟨o, e'⟩
  · obtain ⟨i, hi, q⟩ := List.getElem_of_mem hx
    obtain ⟨ov, ⟨o, e', _⟩, _⟩ := r.cl i x b (by rw [List.getElem?_eq_getElem hi, q])
    exact ⟨o, e'⟩
/-- an object of the datum heap is made, wherever -/
theorem Rel.made {σ : List Addr} {S : St} {s s' : Shared} {a : Addr} {o : AO} (r : Rel c σ S s) (up : ∀ b o, s.heap.get? b = some o → s'.heap.get? b = some o) (ha : s.heap.get? a = none) (ho : ObjAt (σ ++ [a]) s'.heap a o) (hg : GExt s.gens s'.gens) (hos : s'.os = s.os) :
    Rel c (σ ++ [a]) { S with H := S.H ++ [o] } s' ∧ Ext c σ s (σ ++ [a]) s' := by
  have hpre : σ <+: σ ++ [a] := ⟨_, rfl⟩
  have nn : ∀ b o, s.heap.get? b = some o → a ≠ b := fun b o e q => by rw [← q, ha] at e; cases e
  have hlive : ∀ b ∈ σ, ∃ o, s.heap.get? b = some o := r.live
  refine ⟨⟨by simp [r.len], fun b o' e => up _ _ (r.base b o' e), ?_, fun i x b e => ?_, fun i b o' e e' => ?_, ?_, fun b hb => ?_, fun b hb => ?_, fun b hb => (let ⟨o, e⟩ := r.ml b hb; ⟨o, up b o e⟩), r.zz⟩, ⟨hpre, fun b hb hnb => ?_, fun b o' e _ _ => up b o' e, fun b o' e => ⟨o', up b o' e⟩, hg, hos⟩⟩
  · obtain ⟨cm, h3, h3'⟩ := r.ns
    exact ⟨cm, h3.keeps up, fun i x e => (h3' i x e).mono hpre⟩
  · obtain ⟨ov, q, l⟩ := r.cl i x b e
    exact ⟨ov, q.keeps up, l.mono hpre⟩
  · by_cases hi : i < σ.length
    · rw [List.getElem?_append_left hi] at e
      have hi' : i < S.H.length := r.len ▸ hi
      simp only at e'
      rw [List.getElem?_append_left hi'] at e'
      exact ObjAt.mono hpre (up b) (r.obj i b o' e e')
    · have hi' : ¬ i < S.H.length := by rw [← r.len]; exact hi
      simp only at e'
      rw [List.getElem?_append_right (Nat.not_lt.mp hi)] at e
      rw [List.getElem?_append_right (Nat.not_lt.mp hi')] at e'
      have h1 : i - σ.length = 0 := by
        by_cases q : i - σ.length = 0
        · exact q
        · rw [List.getElem?_eq_none (by simp; omega)] at e; cases e
      have h2 : i - S.H.length = 0 := by rw [← r.len]; exact h1
      rw [h1] at e
      rw [h2] at e'
      simp at e e'
      subst e e'
      exact ho
  · rw [List.nodup_append]
    refine ⟨r.nd, by simp, fun b hb b' hb' => ?_⟩
    rw [List.mem_singleton] at hb'
    subst hb'
    obtain ⟨o', e⟩ := hlive b hb
    exact (nn b o' e).symm
  · rcases List.mem_append.mp hb with hb | hb
    · exact r.ap b hb
    · rw [List.mem_singleton] at hb
      subst hb
      exact ⟨fun hm => (let ⟨o', e'⟩ := r.ml _ hm; nn _ o' e' rfl), fun q => (let ⟨o', e'⟩ := r.home (.inl rfl); nn _ o' e' q), fun x b' hx q => (let ⟨o', e'⟩ := r.home (.inr ⟨x, hx⟩); nn _ o' e' q)⟩
  · have : b ∈ σ.drop c.fz ∨ b = a := by
      rw [List.drop_append] at hb
      rcases List.mem_append.mp hb with h | h
      · exact .inl h
      · exact .inr (by simpa using List.mem_of_mem_drop h)
    rcases this with h | h
    · exact r.fr b h
    · subst h
      cases q : c.B.get? b with
      | none => rfl
      | some o' => exact absurd rfl (nn _ o' (r.base _ _ q))
  · rcases List.mem_append.mp hb with hb | hb
    · exact absurd hb hnb
    · rw [List.mem_singleton.mp hb]; exact ha

/-- a def's own context -/
noncomputable abbrev defCx (prog : Program) (w : World) (B : Heap) (name : Str) (scope : Scope) (a : Addr) (cd : Value) (xs : List Str) (z : Nat) (L : Addr) : Cx :=
  { prog := prog, w := w, B := B, env := envOf name scope L a cd, ns := xs.map fun x => (x, none), mt := [L], fz := z }


/-- a datum that names no other -/
noncomputable def plain : AV → Bool
  | .unb => false
  | .ref _ => false
  | _ => true
theorem VRel.plain {σ σ' : List Addr} {v : AV} {a : Value} (h : plain v = true) (r : VRel σ v a) : VRel σ' v a := by
  cases v <;> cases a <;> first | exact r | exact r.elim | (exact absurd h (by decide)) | skip
  all_goals exact absurd h (by simp [Mine.plain])
theorem VsRel.plain {σ σ' : List Addr} : ∀ {vs : List AV} {as : List Value}, vs.all Mine.plain = true → VsRel σ vs as → VsRel σ' vs as
  | [], [], _, _ => trivial
  | v :: vs, a :: as, h, r => by
    rw [List.all_cons, Bool.and_eq_true] at h
    exact ⟨VRel.plain h.1 r.1, VsRel.plain h.2 r.2⟩
  | [], _ :: _, _, r => r.elim
  | _ :: _, [], _, r => r.elim

/-- a whole datum: what a call hands in and hands back -/
inductive DV where
  | v (a : AV)
  | list (xs : List AV)
  | tup (xs : List AV)
  deriving DecidableEq
noncomputable def deref (H : List AO) : AV → Option DV
  | .ref i => match H[i]? with
    | some (.list xs) => if xs.all plain then some (.list xs) else none
    | some (.tup xs) => if xs.all plain then some (.tup xs) else none
    | none => none
  | .unb => none
  | u => some (.v u)
noncomputable def derefs (H : List AO) : List AV → Option (List DV)
  | [] => some []
  | u :: us => match deref H u, derefs H us with
    | some x, some xs => some (x :: xs)
    | _, _ => none
noncomputable def refsOf : List AV → List Nat
  | [] => []
  | .ref i :: us => i :: refsOf us
  | _ :: us => refsOf us
noncomputable def retD : DV → F AV
  | .v a => if plain a then F.pure a else F.fail
  | .list xs => newAt (.list xs)
  | .tup xs => newAt (.tup xs)
noncomputable def appF (g : List DV → Option DV) (us : List AV) : F AV := fun S => match decide (refsOf us).Nodup, derefs S.H us with
  | true, some ds => match g ds with
    | some r => retD r S
    | none => none
  | _, _ => none
/-- what the callee's frame is laid with -/
noncomputable def laid : List DV → Nat → List AV × List AO
  | [], _ => ([], [])
  | .v a :: ds, k => let r := laid ds k; (a :: r.1, r.2)
  | .list xs :: ds, k => let r := laid ds (k + 1); (.ref k :: r.1, .list xs :: r.2)
  | .tup xs :: ds, k => let r := laid ds (k + 1); (.ref k :: r.1, .tup xs :: r.2)
noncomputable def back (z : Nat) (H : List AO) : AV → Option DV
  | .ref i => match Nat.ble z i, H[i]? with
    | true, some (.list xs) => if xs.all plain then some (.list xs) else none
    | true, some (.tup xs) => if xs.all plain then some (.tup xs) else none
    | _, _ => none
  | .unb => none
  | u => some (.v u)
noncomputable def callF (n : Nat) (body : F AFlow) (ds : List DV) : Option DV := match body ⟨(laid ds 0).1 ++ List.replicate n .unb, (laid ds 0).2, (laid ds 0).2.length⟩ with
  | some (.ret v, S') => back (laid ds 0).2.length S'.H v
  | some (.next, _) => some (.v .none)
  | _ => none

/-- a def's meaning, whatever frame calls it -/
noncomputable def Fn (prog : Program) (w : World) (B₀ : Heap) (d : Nat) (a : Addr) (g : List DV → Option DV) : Prop :=
  ∀ c : Cx, c.prog = prog → c.w = w → (∀ b o, B₀.get? b = some o → c.B.get? b = some o) → OpL c d (fun as => call (.ref a) as) VRel (appF g)

theorem map_fst_zip_sublist : ∀ (ps : List Str) (as : List Value), ((ps.zip as).map (·.1)).Sublist ps
  | [], _ => by simp
  | p :: ps, [] => by simp
  | p :: ps, a :: as => by
    rw [List.zip_cons_cons, List.map_cons]
    exact (map_fst_zip_sublist ps as).cons_cons _
theorem lookup_zip_reverse : ∀ {ps : List Str} {as : List Value} {i : Nat} {x : Str} {v : Value}, ps.Nodup → ps[i]? = some x → as[i]? = some v → (ps.zip as).reverse.lookup x = some v := by
  intro ps as i x v hn hx hv
  have hm : (x, v) ∈ (ps.zip as).reverse := by
    rw [List.mem_reverse, List.mem_iff_getElem?]
    exact ⟨i, by rw [List.getElem?_zip_eq_some]; exact ⟨hx, hv⟩⟩
  have hnd : ((ps.zip as).reverse.map (·.1)).Nodup := by
    rw [List.map_reverse]
    rw [List.Nodup, List.pairwise_reverse]
    refine List.Pairwise.imp (fun h => Ne.symm h) (List.Nodup.sublist ?_ hn)
    exact map_fst_zip_sublist ps as
  generalize (ps.zip as).reverse = l at hm hnd
  induction l with
  | nil => cases hm
  | cons p l ih =>
    obtain ⟨y, u⟩ := p
    rw [List.map_cons, List.nodup_cons] at hnd
    rcases List.mem_cons.mp hm with h | h
    · cases h; simp [List.lookup]
    · have : x ≠ y := fun q => hnd.1 (q ▸ List.mem_map.mpr ⟨(x, v), h, rfl⟩)
      rw [List.lookup, beq_eq_false_iff_ne.mpr this]
      exact ih h hnd.2


theorem laid_ok {σ : List Addr} {S : St} {s : Shared} (r : Rel c σ S s) : ∀ {us : List AV} {as : List Value} {ds : List DV}, derefs S.H us = some ds → VsRel σ us as → ∀ pre : List Addr,
    ∃ τ : List Addr, τ.length = (laid ds pre.length).2.length ∧ (∀ a ∈ τ, ∃ i ∈ refsOf us, σ[i]? = some a) ∧ ((refsOf us).Nodup → τ.Nodup) ∧ (∀ post, VsRel (pre ++ τ ++ post) (laid ds pre.length).1 as) ∧
      (∀ (i : Nat) a o, τ[i]? = some a → (laid ds pre.length).2[i]? = some o → ∀ σ', ObjAt σ' s.heap a o)
  | [], as, ds, hd, hv, pre => by
    obtain rfl := hv.nil_inv
    cases hd
    exact ⟨[], rfl, (fun a h => nomatch h), fun _ => List.nodup_nil, fun _ => trivial, fun i a o e => by simp at e⟩
  | u :: us, as, ds, hd, hv, pre => by
    obtain ⟨a, as', rfl, h1, h2⟩ := hv.cons_inv
    unfold derefs at hd
    cases hx : deref S.H u with
    | none => rw [hx] at hd; cases hd
    | some x =>
      cases hxs : derefs S.H us with
      | none => rw [hx, hxs] at hd; cases hd
      | some xs =>
        rw [hx, hxs] at hd
        cases hd
        by_cases hu : ∃ i, u = .ref i
        · obtain ⟨i, rfl⟩ := hu
          obtain ⟨b, rfl, hb⟩ := h1.ref_inv
          have key : ∃ o, S.H[i]? = some o ∧ o.items.all Mine.plain = true ∧ ((∃ ys, x = .list ys ∧ o = .list ys) ∨ (∃ ys, x = .tup ys ∧ o = .tup ys)) := by
            unfold deref at hx
            dsimp only at hx
            cases hH : S.H[i]? with
            | none => rw [hH] at hx; cases hx
            | some o =>
              rw [hH] at hx
              cases o with
              | list ys =>
                by_cases hp : ys.all Mine.plain = true
                · simp only [if_pos hp] at hx; cases hx; exact ⟨_, rfl, hp, .inl ⟨ys, rfl, rfl⟩⟩
                · simp only [if_neg hp] at hx; cases hx
              | tup ys =>
                by_cases hp : ys.all Mine.plain = true
                · simp only [if_pos hp] at hx; cases hx; exact ⟨_, rfl, hp, .inr ⟨ys, rfl, rfl⟩⟩
                · simp only [if_neg hp] at hx; cases hx
          obtain ⟨o, hH, hp, ho⟩ := key
          obtain ⟨τ, l1, l2, l3, l4, l5⟩ := laid_ok r hxs h2 (pre ++ [b])
          rw [List.length_append, List.length_singleton] at l1 l4 l5
          have ob := r.obj i b o hb hH
          have ob' : ∀ σ', ObjAt σ' s.heap b o := fun σ' => by
            cases o <;> (obtain ⟨vs, n, e, rr⟩ := ob; exact ⟨vs, n, e, VsRel.plain hp rr⟩)
          have hlaid : laid (x :: xs) pre.length = (.ref pre.length :: (laid xs (pre.length + 1)).1, o :: (laid xs (pre.length + 1)).2) := by
            rcases ho with ⟨ys, rfl, rfl⟩ | ⟨ys, rfl, rfl⟩ <;> rfl
          rw [hlaid]
          refine ⟨b :: τ, by simp [l1], fun a ha => ?_, fun hn => ?_, fun post => ⟨?_, ?_⟩, fun j a o' e e' => ?_⟩
          · rcases List.mem_cons.mp ha with rfl | ha
            · exact ⟨i, .head _, hb⟩
            · obtain ⟨j, hj, q⟩ := l2 a ha; exact ⟨j, .tail _ hj, q⟩
          · have hn' : (i :: refsOf us).Nodup := hn
            rw [List.nodup_cons] at hn'
            rw [List.nodup_cons]
            refine ⟨fun hm => ?_, l3 hn'.2⟩
            obtain ⟨j, hj, q⟩ := l2 b hm
            have : i = j := (List.getElem?_inj (List.getElem?_eq_some_iff.mp hb).1 r.nd).mp (hb.trans q.symm)
            exact hn'.1 (this ▸ hj)
          · show (pre ++ b :: τ ++ post)[pre.length]? = some b
            simp
          · have := l4 post
            simpa using this
          · cases j with
            | zero => simp at e e'; subst e e'; exact ob'
            | succ j => exact l5 j a o' (by simpa using e) (by simpa using e')
        · have hx' : x = .v u ∧ refsOf (u :: us) = refsOf us ∧ Mine.plain u = true := by
            cases u <;> first | (cases hx; exact ⟨rfl, rfl, rfl⟩) | exact absurd ⟨_, rfl⟩ hu | (cases hx)
          obtain ⟨rfl, hr, hp⟩ := hx'
          obtain ⟨τ, l1, l2, l3, l4, l5⟩ := laid_ok r hxs h2 pre
          rw [hr]
          exact ⟨τ, l1, l2, l3, fun post => ⟨VRel.plain hp h1, l4 post⟩, l5⟩

theorem fn_def {prog : Program} {w : World} {B₀ : Heap} {name : Str} {params : Arguments} {body : List Stmt} {scope : Scope} {pm cd doc : Value} {a : Addr} {o : Obj} {ps vs : List Str} {f : F AFlow}
    (ho : B₀.get? a = some o) (hdata : o.data = .func (docDef name params body scope pm cd doc)) (hlim : B₀.NoLimit) (hcd : B₀.CodeRec cd name)
    (hbind : ∀ as : List Value, as.length = ps.length → bindArgs (docDef name params body scope pm cd doc) ⟨as, []⟩ = pure (ps.zip as))
    (hloc : ∀ x ∈ ps, scope.names.lookup x = some .local)
    (hnd : (ps ++ vs).Nodup)
    (hco : scope.isCoroutine = false) (hgen : scope.isGenerator = false) (hk : scope.kind = .function) (hcell : ∀ x ∈ scope.names, x.2 ≠ .cell)
    (hb : ∀ (B : Heap), (∀ b o, B₀.get? b = some o → B.get? b = some o) → ∀ z L, CxOk (defCx prog w B name scope a cd (ps ++ vs) z L) → Den (defCx prog w B name scope a cd (ps ++ vs) z L) d (execs body (envOf name scope L a cd)) FRel f) :
    Fn prog w B₀ (d + 1) a (fun ds => if ds.length = ps.length then callF vs.length f ds else none) := by
  intro c hp hw hB σ us as hv A hA S s r b S' e Q E K
  subst hp hw
  have hbase : ∀ b o, B₀.get? b = some o → s.heap.get? b = some o := fun b o e => r.base b o (hB b o e)
  unfold appF at e
  by_cases hnod : (refsOf us).Nodup
  case neg => rw [decide_eq_false hnod] at e; cases e
  rw [decide_eq_true hnod] at e
  cases hds : derefs S.H us with
  | none => rw [hds] at e; cases e
  | some ds =>
  rw [hds] at e
  dsimp only at e
  by_cases hlen : ds.length = ps.length
  case neg => rw [if_neg hlen] at e; cases e
  rw [if_pos hlen] at e
  have hlen' : as.length = ps.length := by
    have : ∀ {us : List AV} {ds : List DV}, derefs S.H us = some ds → ds.length = us.length := by
      intro us
      induction us with
      | nil => intro ds h; cases h; rfl
      | cons u us ih =>
        intro ds h
        unfold derefs at h
        split at h
        · rename_i x xs h1 h2; cases h; simp [ih h2]
        · cases h
    exact hv.length.trans ((this hds).symm.trans hlen)
  refine wpAny_call (call_plain (o := o) (binds := ps.zip as) (by have := hA.depth; omega) (hbase a o ho) hdata (hlim.keeps hbase) (hcd.keeps hbase) (hbind as hlen') (fun x hx => hloc x.1 (List.of_mem_zip hx).1) (fun h₁ F => ?_) hco hgen hk hcell)
  have hL : s.heap.get? s.heap.objs.size = none := by
    cases q : s.heap.get? s.heap.objs.size with
    | none => rfl
    | some o' => exact absurd (Heap.lt_size q) (Nat.lt_irrefl _)
  obtain ⟨τ, l1, l2, l3, l4, l5⟩ := laid_ok r hds hv []
  simp only [List.length_nil, List.nil_append] at l1 l4 l5
  have hτ : ∀ b ∈ τ, ∃ o, s.heap.get? b = some o := fun b hb => by
    obtain ⟨i, _, q⟩ := l2 b hb
    exact r.live b (List.mem_of_getElem? q)
  generalize hz : (laid ds 0).2.length = z at l1 e
  let c' : Cx := defCx c.prog c.w s.heap name scope a cd (ps ++ vs) z s.heap.objs.size
  have nocell : ∀ (i : Nat) x ca, c'.ns[i]? = some (x, some ca) → False := fun i x ca h => by
    have h' : ((ps ++ vs).map fun x => (x, (none : Option Addr)))[i]? = some (x, some ca) := h
    rw [List.getElem?_map] at h'
    cases q : (ps ++ vs)[i]? with
    | none => rw [q] at h'; cases h'
    | some y => rw [q] at h'; cases h'
  have nocell' : ∀ x ca, (x, some ca) ∈ c'.ns → False := fun x ca h => by
    obtain ⟨i, hi, e⟩ := List.getElem_of_mem h
    exact nocell i x ca (by rw [List.getElem?_eq_getElem hi, e])
  have ok' : CxOk c' := by
    refine ⟨hk, ?_, List.mem_singleton.mpr rfl, hL, fun x ca h => (nocell' x ca h).elim, fun x ca h => (nocell' x ca h).elim, fun i j x y ca h => (nocell i x ca h).elim⟩
    show (((ps ++ vs).map fun x => (x, (none : Option Addr))).map (·.1)).Nodup
    rw [List.map_map]
    have : ((fun x : Str × Option Addr => x.1) ∘ fun x : Str => (x, (none : Option Addr))) = id := rfl
    rw [this, List.map_id]
    exact hnd
  have hlenm : (laid ds 0).1.length = ps.length := by rw [← (l4 []).length]; exact hlen'
  have hr' : Rel c' τ ⟨(laid ds 0).1 ++ List.replicate vs.length .unb, (laid ds 0).2, z⟩ { s with heap := h₁, toks := s.toks + (ps.zip as).length } := by
    refine ⟨by rw [l1]; exact hz.symm, F.keep, ⟨_, F.ns, fun i x q => ?_⟩, fun i x ca q => (nocell i x ca q).elim, fun i b o' q q' => ObjAt.mono (List.prefix_refl _) (fun ob z => F.keep b ob z) (l5 i b o' q q' τ), l3 hnod, fun b hb => ⟨fun hm => ?_, fun q => ?_, fun x ca hx => (nocell' x ca hx).elim⟩, fun b hb => ?_, fun b hb => ?_, rfl⟩
    · have q' : (ps ++ vs)[i]? = some x := by
        have : ((ps ++ vs).map fun x => (x, (none : Option Addr)))[i]? = some (x, none) := q
        rw [List.getElem?_map] at this
        cases z : (ps ++ vs)[i]? with
        | none => rw [z] at this; cases this
        | some y => rw [z] at this; cases this; rfl
      show LV τ ((((laid ds 0).1 ++ List.replicate vs.length .unb)[i]?).getD .unb) _
      by_cases hi : i < ps.length
      · rw [List.getElem?_append_left (by rw [hlenm]; exact hi)]
        rw [List.getElem?_append_left hi] at q'
        have hu : (laid ds 0).1[i]? = some (laid ds 0).1[i] := List.getElem?_eq_getElem (by rw [hlenm]; exact hi)
        rw [hu]
        have l4' := l4 []
        rw [List.append_nil] at l4'
        obtain ⟨av, ha, hr⟩ := l4'.get hu
        rw [lookup_zip_reverse (List.nodup_append.mp hnd).1 q' ha]
        exact LV.of hr
      · rw [List.getElem?_append_right (by rw [hlenm]; omega)]
        cases z : (List.replicate vs.length AV.unb)[i - (laid ds 0).1.length]? with
        | none => trivial
        | some u => rw [(List.mem_replicate.mp (List.mem_of_getElem? z)).2]; trivial
    · rw [List.mem_singleton.mp hm] at hb
      obtain ⟨o', q⟩ := hτ _ hb; rw [hL] at q; cases q
    · obtain ⟨o', q'⟩ := hτ _ hb; rw [show b = s.heap.objs.size from q, hL] at q'; cases q'
    · have hb' : b ∈ τ.drop z := hb
      rw [List.drop_eq_nil_of_le (by omega)] at hb'; cases hb'
    · rw [List.mem_singleton.mp hb]
      obtain ⟨o', _, _, q, _⟩ := F.ns
      exact ⟨o', q⟩
  have hA' : Low d (A.deeper (envOf name scope s.heap.objs.size a cd)) := hA.deeper
  have hsub : ∀ b o, B₀.get? b = some o → s.heap.get? b = some o := hbase
  cases hf : f ⟨(laid ds 0).1 ++ List.replicate vs.length .unb, (laid ds 0).2, z⟩ with
  | none =>
    have e0 : callF vs.length f ds = none := by unfold callF; rw [hz, hf]
    rw [e0] at e; cases e
  | some p =>
    obtain ⟨fl, S₁⟩ := p
    refine wpAny_mono ((hb s.heap hsub z _ ok').run _ hA' τ _ _ hr' fl S₁ hf (fun fa s' => Q (match fa with | .ret v => v | _ => .none) s') (fun _ _ => False) fun σ' s' fa r' x' y' => ?_) (fun fa s' h => h) fun _ _ h => h.elim
    have up : ∀ b o, s.heap.get? b = some o → s'.heap.get? b = some o := r'.base
    have hgr : Rel c σ S s' := r.grown up
    have hgx : Ext c σ s σ s' := ⟨List.prefix_refl _, fun a h n => absurd h n, fun b o e _ _ => up b o e, fun b o e => ⟨o, up b o e⟩, x'.gens, x'.os⟩
    cases fl with
    | next =>
      have e0 : callF vs.length f ds = some (.v .none) := by unfold callF; rw [hz, hf]
      rw [e0] at e
      cases e
      cases fa <;> first | exact y'.elim | exact K σ s' _ hgr hgx trivial
    | brk => have e0 : callF vs.length f ds = none := by unfold callF; rw [hz, hf]
             rw [e0] at e; cases e
    | cont => have e0 : callF vs.length f ds = none := by unfold callF; rw [hz, hf]
              rw [e0] at e; cases e
    | ret v =>
      have e0 : callF vs.length f ds = back z S₁.H v := by unfold callF; rw [hz, hf]
      rw [e0] at e
      cases fa <;> first | exact y'.elim | skip
      rename_i rv
      have y : VRel σ' v rv := y'
      show Q rv s'
      by_cases hu : ∃ i, v = .ref i
      · obtain ⟨i, rfl⟩ := hu
        obtain ⟨ba, rfl, hba⟩ := y.ref_inv
        have key : ∃ ob, S₁.H[i]? = some ob ∧ z ≤ i ∧ ob.items.all Mine.plain = true ∧ newAt ob S = some (b, S') := by
          unfold back at e
          dsimp only at e
          cases hzi : Nat.ble z i with
          | false => rw [hzi] at e; cases e
          | true =>
            cases hH : S₁.H[i]? with
            | none => rw [hzi, hH] at e; cases e
            | some ob =>
              rw [hzi, hH] at e
              cases ob with
              | list ys =>
                by_cases hp : ys.all Mine.plain = true
                · simp only [if_pos hp] at e; exact ⟨_, rfl, Nat.le_of_ble_eq_true hzi, hp, e⟩
                · simp only [if_neg hp] at e; cases e
              | tup ys =>
                by_cases hp : ys.all Mine.plain = true
                · simp only [if_pos hp] at e; exact ⟨_, rfl, Nat.le_of_ble_eq_true hzi, hp, e⟩
                · simp only [if_neg hp] at e; cases e
        obtain ⟨ob, hH, hzi, hpl, e1⟩ := key
        obtain ⟨_, rfl, rfl⟩ := newAt_some e1
        have hnone : s.heap.get? ba = none := by
          refine r'.fr ba ?_
          show ba ∈ σ'.drop z
          rw [List.mem_iff_getElem?]
          exact ⟨i - z, by rw [List.getElem?_drop, show z + (i - z) = i by omega]; exact hba⟩
        have ho' := r'.obj i ba ob hba hH
        have ho'' : ObjAt (σ ++ [ba]) s'.heap ba ob := by
          cases ob <;> (obtain ⟨vs', n', e', rr⟩ := ho'; exact ⟨vs', n', e', VsRel.plain hpl rr⟩)
        have := Rel.made r up hnone ho'' x'.gens x'.os
        refine K _ _ _ this.1 this.2 ?_
        show (σ ++ [ba])[S.H.length]? = some ba
        rw [← r.len]; simp
      · have hv' : back z S₁.H v = some (.v v) ∧ Mine.plain v = true ∨ v = .unb := by
          cases v <;> first | exact .inl ⟨rfl, rfl⟩ | exact .inr rfl | exact absurd ⟨_, rfl⟩ hu
        rcases hv' with ⟨h1, h2⟩ | rfl
        · rw [h1] at e
          unfold retD at e
          simp only [if_pos h2] at e
          cases e
          exact K σ s' rv hgr hgx (VRel.plain h2 y)
        · cases e

/-- a method of a list or a str -/
structure MethOk (T name id : String) : Prop where
  pa : PlainAttrs T
  slot : Slot T name id
  ty : typeOf (.builtin id) = pure (.type "method_descriptor")

noncomputable def typed (T : String) : AV → F Unit
  | .str _ => fun S => if T = "str" then some ((), S) else none
  | .ref i => fun S => match S.H[i]? with
    | some (.list _) => if T = "list" then some ((), S) else none
    | _ => none
  | _ => F.fail
theorem typed_some {T : String} {u : AV} {S S' : St} {z : Unit} {σ : List Addr} {s : Shared} {a : Value} (h : typed T u S = some (z, S')) (r : Rel c σ S s) (hv : VRel σ u a) :
    S' = S ∧ s.TypeIs a T ∧ (∀ b, a = .ref b → ∃ ob, s.heap.get? b = some ob ∧ ob.dict = none) := by
  cases u with
  | str x =>
    by_cases hT : T = "str"
    · obtain ⟨t, rfl⟩ := hv.str_inv
      unfold typed at h
      simp only [if_pos hT] at h
      cases h
      exact ⟨rfl, hT ▸ typeIs_str s x t, fun b e => nomatch e⟩
    · unfold typed at h
      simp only [if_neg hT] at h
      cases h
  | ref i =>
    unfold typed at h
    dsimp only at h
    obtain ⟨b, rfl, hb⟩ := hv.ref_inv
    cases hH : S.H[i]? with
    | none => rw [hH] at h; cases h
    | some o =>
      rw [hH] at h
      cases o with
      | tup xs => cases h
      | list xs =>
        dsimp only at h
        split at h
        · rename_i hT
          cases h
          obtain ⟨vs, n, e, hvs⟩ := r.obj i b _ hb hH
          exact ⟨rfl, ⟨_, e, by rw [hT]; rfl⟩, fun b' e' => by cases e'; exact ⟨_, e, rfl⟩⟩
        · cases h
  | _ => cases h

theorem den_meth {o : Expr} {name id : String} {apos pos : Pos} {e : Expr} {es : List Expr} {T : String} {fo : F AV} {fl : F (List AV)} {h : AV → List AV → F AV} (mo : MethOk T name id)
    (hbase : attributeBase o (Str.ofString name) c.env (eval o c.env) = eval o c.env) (hline : (apos.endLine == pos.line) = true)
    (hfew : ((backTo pos (starEach (e :: es) c.env)).all (fun x => !x.1) && (backToKw pos (keywordEach [] c.env)).all (fun x => x.1.isSome)
      && decide ((e :: es).length + ([] : List Keyword).length + (if ([] : List Keyword).isEmpty then 0 else 1) < 30)) = true)
    (hn : ∀ x p, e ≠ .Starred x p) (hplain : ∀ pos, (backTo pos (starEach es c.env)).any (·.1) = false)
    (hov : Den c d (eval o c.env) VRel fo) (hl : DenL c d (e :: es) fl) (ho : ∀ σ u a us as, VRel σ u a → VsRel σ us as → At c d σ (call (.builtin id) (a :: as)) VRel (h u us)) :
    Den c d (eval (.Call (.Attribute o (Str.ofString name) apos) (e :: es) [] pos) c.env) VRel (F.bind fo fun u => F.bind (typed T u) fun _ => F.bind fl fun us => h u us) := by
  refine ⟨fun A hA σ S s r b S' e' Q E K => ?_⟩
  obtain ⟨u, S₁, e1, e2⟩ := bind_some e'
  obtain ⟨z, S₂, e3, e4⟩ := bind_some e2
  refine wpAny_Call_method_lateS hbase hfew hline (hov.run A hA σ S s r u S₁ e1 _ E fun σ₁ s₁ a r₁ x₁ y₁ => ?_)
  obtain ⟨rfl, hT, hd⟩ := typed_some e3 r₁ y₁
  refine ⟨T, id, mo.pa, mo.slot, mo.ty, hT, hd, ?_⟩
  exact at_callWith (h := fun us => h u us) (first := [a]) (.builtin id) hl hn (hplain pos) (fun σ' hp us as hv => ho σ' u a us as (y₁.mono hp) hv) A hA _ s₁ r₁ b S' e4 Q E
    fun σ₂ s₂ v r₂ x₂ y₂ => K σ₂ s₂ v r₂ (x₁.trans r₁.nd x₂) y₂
theorem den_meth0 {o : Expr} {name id : String} {apos pos : Pos} {T : String} {fo : F AV} {h : AV → F AV} (mo : MethOk T name id)
    (hbase : attributeBase o (Str.ofString name) c.env (eval o c.env) = eval o c.env) (hline : (apos.endLine == pos.line) = true)
    (hov : Den c d (eval o c.env) VRel fo) (ho : ∀ σ u a, VRel σ u a → At c d σ (call (.builtin id) [a]) VRel (h u)) :
    Den c d (eval (.Call (.Attribute o (Str.ofString name) apos) [] [] pos) c.env) VRel (F.bind fo fun u => F.bind (typed T u) fun _ => h u) := by
  refine ⟨fun A hA σ S s r b S' e' Q E K => ?_⟩
  obtain ⟨u, S₁, e1, e2⟩ := bind_some e'
  obtain ⟨z, S₂, e3, e4⟩ := bind_some e2
  refine Call_method0 hbase hline (hov.run A hA σ S s r u S₁ e1 _ E fun σ₁ s₁ a r₁ x₁ y₁ => ?_)
  obtain ⟨rfl, hT, hd⟩ := typed_some e3 r₁ y₁
  refine ⟨T, id, mo.pa, mo.slot, mo.ty, hT, hd, callWith_builtin rfl (PySem.evalArgs_none ?_)⟩
  exact ho σ₁ u a y₁ A hA _ s₁ r₁ b S' e4 Q E fun σ₂ s₂ v r₂ x₂ y₂ => K σ₂ s₂ v r₂ (x₁.trans r₁.nd x₂) y₂
end Mine
end

section
set_option maxRecDepth 100000
set_option linter.unusedVariables false
open PySem PySem.W PyProof.Rows PySem.Calls
namespace Mine
variable {c : Cx} {d : Nat}

section
variable {prog : Program} {w : World} {A : Around} {E : Value → Shared → Prop} {R : Result → Shared → Prop} {s : Shared}
theorem codeAny_compLoop_any {elt target iter : Expr} {ifs : List Expr} {scope : Scope} {pos : Pos} {it acc : Value} {env : Env} (I : Nat → Shared → Prop)
    (turn : ∀ n s, I n s → wpAny (model prog w) A (pyNext it) (fun r s₁ => match r with
      | none => R (.ok .next) s₁
      | some v => wpAny (model prog w) A (letOwnedTupleGo target it v) (fun _ s₁' => wpAny (model prog w) A (assign target env v) (fun _ s₂ =>
          wpAny (model prog w) A (forIn ifs true fun c r => if r = true then do let ok ← isTrue c env (eval c env); pure (ForInStep.yield ok) else pure (ForInStep.yield r)) (fun ok s₃ =>
            if ok = true then wpAny (model prog w) A (eval elt env) (fun x s₄ =>
              wpAny (model prog w) A (call (.builtin "list.append") [acc, x]) (fun _ s₅ => ∃ m, m < n ∧ I m s₅) (notedBy (model prog w) A env fun e s' => R (.error e) s') s₄) (notedBy (model prog w) A env fun e s' => R (.error e) s') s₃
            else ∃ m, m < n ∧ I m s₃) (notedBy (model prog w) A env fun e s' => R (.error e) s') s₂) (notedBy (model prog w) A env fun e s' => R (.error e) s') s₁') (notedBy (model prog w) A env fun e s' => R (.error e) s') s₁) (notedBy (model prog w) A env fun e s' => R (.error e) s') s)
    (n : Nat) (h : I n s) :
    codeAny (model prog w) A (.compLoop (.ListComp elt [⟨target, iter, ifs, 0⟩] scope pos) 0 it acc env) R s := by
  refine codeAny_loop rfl I (fun n s hI => ?_) n h
  show wpAny _ A ((compTurn (.ListComp elt [⟨target, iter, ifs, 0⟩] scope pos) 0 it acc env).onRaise (fun x => do noteFrame x env; theTreesLotGoes x)) _ _ s
  refine wpAny_noted ?_
  rw [compTurn_list]
  refine wpAny_bind (wpAny_standAt (wpAny_bind (wpAny_mono (turn n s hI) (fun r s₁ h₁ => ?_) fun _ _ h' => h')))
  cases r with
  | none => exact wpAny_pure h₁
  | some v =>
    refine wpAny_bind (wpAny_mono h₁ (fun _ s₁' h₁' => ?_) fun _ _ h' => h')
    refine wpAny_bind (wpAny_mono h₁' (fun _ s₂ h₂ => wpAny_bind (wpAny_mono h₂ (fun ok s₃ h₃ => ?_) fun _ _ h' => h')) fun _ _ h' => h')
    cases ok with
    | false => exact wpAny_pure ⟨rfl, h₃⟩
    | true =>
      exact wpAny_bind (wpAny_bind (wpAny_mono h₃ (fun x s₄ h₄ => wpAny_bind (wpAny_mono h₄ (fun _ s₅ h₅ => wpAny_pure (wpAny_pure ⟨rfl, h₅⟩)) fun _ _ h' => h')) fun _ _ h' => h'))
end

noncomputable def appendF (D : Nat) (v : AV) : F Unit := fun S => match S.H[D]? with
  | some (.list xs) => match Nat.ble S.z D, Nat.ble xs.length 1048576 with
    | true, true => some ((), { S with H := S.H.set D (.list (xs ++ [v])) })
    | _, _ => none
  | _ => none
theorem appendF_some {D : Nat} {v : AV} {S S' : St} {u : Unit} (h : appendF D v S = some (u, S')) : ∃ xs, S.H[D]? = some (.list xs) ∧ S.z ≤ D ∧ xs.length ≤ 1048576 ∧ S' = { S with H := S.H.set D (.list (xs ++ [v])) } := by
  unfold appendF at h
  cases hH : S.H[D]? with
  | none => rw [hH] at h; cases h
  | some o =>
    rw [hH] at h
    cases o with
    | tup xs => cases h
    | list xs =>
      dsimp only at h
      cases h1 : Nat.ble S.z D with
      | false => rw [h1] at h; cases h
      | true =>
        cases h2 : Nat.ble xs.length 1048576 with
        | false => rw [h1, h2] at h; cases h
        | true => rw [h1, h2] at h; cases h; exact ⟨xs, rfl, Nat.le_of_ble_eq_true h1, Nat.le_of_ble_eq_true h2, rfl⟩

theorem wp_append {A : Around} {σ : List Addr} {S S' : St} {s : Shared} {D : Nat} {a : Addr} {v : AV} {x : Value} {u : Unit} (r : Rel c σ S s) (hD : σ[D]? = some a) (hv : VRel σ v x) (e : appendF D v S = some (u, S'))
    {Q : Value → Shared → Prop} {E : Value → Shared → Prop} (K : ∀ s', Rel c σ S' s' → Ext c σ s σ s' → Q .none s') : wpAny (M c) A (call (.builtin "list.append") [.ref a, x]) Q E s := by
  obtain ⟨xs, hH, h1, hl, rfl⟩ := appendF_some e
  obtain ⟨vs, n, ho, hvs⟩ := r.obj D a _ hD hH
  have hil : s.heap.IsList a vs.toArray := ⟨_, ho, rfl, n, rfl⟩
  refine wpAny_call_entry slot_list_append hil.typeIs entry_list_append ?_ (args_list_append _ _)
  show wpAny _ _ (updateSeq a (·.push x) >>= fun _ => ret .none) _ _ s
  refine wpAny_bind (wpAny_updateSeq ho (xs := vs.toArray) (n := n) rfl (wpAny_pure ⟨.none, rfl, ?_⟩) (small_fits (by simp [hvs.length]; exact hl)) (by
    have := small_fits hl; simp [hvs.length]; exact this))
  have hget := Heap.get?_update_self (h := s.heap) (Obj.mapSeq (·.push x)) ho rfl
  have hob : ObjAt σ (s.heap.update a (Obj.mapSeq (·.push x))) a (.list (xs ++ [v])) := by
    obtain ⟨n', hn'⟩ := Obj.data_mapSeq (o := listObj vs n) (xs := vs.toArray) (n := n) rfl (·.push x)
    refine ⟨vs ++ [x], n', ?_, hvs.append (.one hv)⟩
    rw [hget]
    have hc := Obj.cls_mapSeq (f := (·.push x)) (o := listObj vs n)
    have hdi : (Obj.mapSeq (·.push x) (listObj vs n)).dict = none := rfl
    have hsl : (Obj.mapSeq (·.push x) (listObj vs n)).slots = #[] := rfl
    generalize Obj.mapSeq (·.push x) (listObj vs n) = oo at hn' hc hdi hsl
    obtain ⟨o1, o2, o3, o4⟩ := oo
    dsimp only at hn' hc hdi hsl
    subst hn' hc hdi hsl
    simp [listObj]
  have := Rel.update (s' := { s with heap := s.heap.update a (Obj.mapSeq (·.push x)) }) r hD (r.zz ▸ h1) (Heap.SameBut.update ..) rfl rfl hob
  exact K _ this.1 this.2

noncomputable def loopC (item : ItemF) (st : Item → F Unit) (test : F Bool) (elt : F AV) (D : Nat) : Nat → Nat → F Unit
  | 0, _ => F.fail
  | n + 1, k => fun S => match item k S.H with
    | none => none
    | some none => some ((), S)
    | some (some x) => (F.bind (st x) fun _ => F.bind test fun b => match b with
      | false => loopC item st test elt D n (k + 1)
      | true => F.bind elt fun v => F.bind (appendF D v) fun _ => loopC item st test elt D n (k + 1)) S

noncomputable def compF (src : F ItemF) (nl : Nat) (caps : List Nat) (st : Item → F Unit) (test : F Bool) (elt : F AV) (n : Nat) : F AV :=
  F.bind src fun item => F.bind (newAt (.list [])) fun v => fun S => match loopC item st test elt (S.H.length - 1) n 0 ⟨List.replicate nl .unb ++ caps.map (fun i => (S.m[i]?).getD .unb), S.H, S.z⟩ with
    | some (_, S') => some (v, { S with H := S'.H })
    | none => none

noncomputable abbrev compCx (c : Cx) (scope : Scope) (cl : List (Str × Addr)) (xs : List Str) (caps : List (Str × Addr)) (C : Addr) : Cx :=
  { prog := c.prog, w := c.w, B := c.B, env := compEnvC scope cl C c.env, ns := xs.map (fun x => (x, none)) ++ caps.map (fun p => (p.1, some p.2)), mt := [C], fz := c.fz }

noncomputable def Tests (c : Cx) (d : Nat) (ifs : List Expr) (f : F Bool) : Prop :=
  Den c d (forIn ifs true fun e r => if r = true then do let ok ← isTrue e c.env (eval e c.env); pure (ForInStep.yield ok) else pure (ForInStep.yield r)) BRel f
theorem tests_nil : Tests c d [] (F.pure true) := .of_at fun σ => .pure rfl
theorem tests_one {e : Expr} {f : F Bool} (h : Den c d (isTrue e c.env (eval e c.env)) BRel f) : Tests c d [e] f := by
  refine ⟨fun A hA σ S s r b S' e' Q E K => ?_⟩
  exact wpAny_tests_one (h.run A hA σ S s r b S' e' Q E K)

/-- what a comprehension asks -/
structure CompOk (c : Cx) (scope : Scope) (cl : List (Str × Addr)) (xs : List Str) (caps : List (Str × Addr)) (ci : List Nat) : Prop where
  clos : closureFor scope c.env = pure cl
  kind : scope.kind = .function
  names : ∀ x ∈ scope.names, x.2 = .local → scope.names.lookup x.1 = some .local
  nocell : ∀ x ∈ scope.names, x.2 ≠ .cell
  nodup : (xs ++ caps.map (·.1)).Nodup
  cap : ∀ (k : Nat) (p : Str × Addr), caps[k]? = some p → ∃ j, ci[k]? = some j ∧ c.ns[j]? = some (p.1, some p.2)
  capl : ci.length = caps.length

theorem Ext.trans' {c' : Cx} {σ σ' σ'' : List Addr} {s s' s'' : Shared} (hn : σ'.Nodup) (x : Ext c σ s σ' s') (y : Ext c' σ' s' σ'' s'') (hz : c'.fz = c.fz) (hm : ∀ b ∈ c'.mt, s.heap.get? b = none) : Ext c σ s σ'' s'' := by
  refine ⟨x.pre.trans y.pre, fun a ha hna => ?_, fun b o e h1 h2 => ?_, fun b o e => (let ⟨o', e'⟩ := x.dom b o e; y.dom b o' e'), x.gens.trans y.gens, y.os.trans x.os⟩
  · by_cases h : a ∈ σ'
    · exact x.fresh a h hna
    · cases q : s.heap.get? a with
      | none => rfl
      | some o =>
        obtain ⟨o', e'⟩ := x.dom a o q
        have := y.fresh a ha h
        rw [e'] at this; cases this
  · refine y.keep b o (x.keep b o e h1 h2) (fun hq => by rw [hm b hq] at e; cases e) fun h3 => ?_
    rw [hz] at h3
    by_cases hb : b ∈ σ
    · exact not_drop_of_prefix x.pre hn hb h2 h3
    · have := x.fresh b (List.mem_of_mem_drop h3) hb
      rw [e] at this; cases this
theorem Rel.back {c' : Cx} {σ σ₂ σ₄ : List Addr} {S S₂ S₄ : St} {s s₂ s₄ : Shared} (hB : c'.B = c.B) (hz : c'.fz = c.fz) (hz₂ : S₂.z = c.fz) (r : Rel c σ S s) (r₂ : Rel c σ₂ S₂ s₂) (r₄ : Rel c' σ₄ S₄ s₄) (x₂ : Ext c σ s σ₂ s₂) (x₄ : Ext c σ s σ₄ s₄) (hp : σ₂ <+: σ₄)
    (hk : ∀ b o, Home c b → s₂.heap.get? b = some o → s₄.heap.get? b = some o) : Rel c σ₄ { S₂ with H := S₄.H } s₄ := by
  have ne : ∀ a ∈ σ₄, a ∉ σ₂ → ∀ b, (∃ o, s.heap.get? b = some o) → a ≠ b := fun a ha hn b ⟨o, e⟩ q => by
    rw [q] at ha hn
    have := x₄.fresh b ha fun hq => hn (by obtain ⟨t, rfl⟩ := x₂.pre; exact List.mem_append_left _ hq)
    rw [e] at this; cases this
  refine ⟨r₄.len, fun b o e => r₄.base b o (by rw [hB]; exact e), ?_, fun i x a e => ?_, fun i a o e e' => r₄.obj i a o e e', r₄.nd, fun a ha => ?_, fun a ha => by rw [← hB]; exact r₄.fr a (by rw [hz]; exact ha), fun a ha => (let ⟨o, e⟩ := r.ml a ha; x₄.dom a o e), hz₂⟩
  · obtain ⟨cm, h1, h2⟩ := r₂.ns
    exact ⟨cm, h1.at' fun o e => hk _ o (.inl rfl) e, fun i x e => (h2 i x e).mono hp⟩
  · obtain ⟨ov, ⟨o, e1, e2⟩, l⟩ := r₂.cl i x a e
    exact ⟨ov, ⟨o, hk a o (.inr ⟨x, List.mem_of_getElem? e⟩) e1, e2⟩, l.mono hp⟩
  · by_cases hq : a ∈ σ₂
    · exact r₂.ap a hq
    · exact ⟨fun hm => ne a ha hq a (r.ml a hm) rfl, ne a ha hq _ (r.home (.inl rfl)), fun x b hx => ne a ha hq b (r.home (.inr ⟨x, hx⟩))⟩

theorem wp_comp {elt target iter : Expr} {ifs : List Expr} {scope : Scope} {pos : Pos} {cl : List (Str × Addr)} {xs : List Str} {caps : List (Str × Addr)} {ci : List Nat} {src : F ItemF} {st : Item → F Unit} {test : F Bool} {el : F AV} (n : Nat)
    {use : Option (Value → Sem Unit)} (ok : CxOk c) (co : CompOk c scope cl xs caps ci)
    (hs : Src c d target iter src) (hf : ∀ x, foldedSetIterable iter c.env x = pure x)
    (hin : ∀ C, CxOk (compCx c scope cl xs caps C) → Tgt (compCx c scope cl xs caps C) d target st ∧ Tests (compCx c scope cl xs caps C) d ifs test ∧ Den (compCx c scope cl xs caps C) d (eval elt (compCx c scope cl xs caps C).env) VRel el)
    {A : Around} (hA : Low d A) {σ : List Addr} {S S' : St} {s : Shared} (r : Rel c σ S s) {v : AV} (e : compF src xs.length ci st test el n S = some (v, S')) {Q : Value → Shared → Prop} {E : Value → Shared → Prop} {ipos : Pos}
    (K : match use with
      | none => ∀ σ' s' a, Rel c σ' S' s' → Ext c σ s σ' s' → VRel σ' v a → Q a s'
      | some u => ∀ σ' s' a, Rel c σ' S' s' → Ext c σ s σ' s' → VRel σ' v a → ∀ C, C ∉ c.mt → C ∉ σ' → (∃ m, s'.heap.Ns C m) → s.heap.get? C = none →
        wpAny (M c) A (u a) (fun _ s'' => ∃ m, s''.heap.Ns C m ∧ ∀ h', Heap.SameBut C s''.heap h' → Q .none { s'' with heap := h' }) E s') :
    wpAny (M c) A (comprehension (.ListComp elt [⟨target, iter, ifs, 0⟩] scope pos) scope c.env ipos (newList []) false (eval iter c.env) use) Q E s := by
  obtain ⟨item, S₁, e1, e2⟩ := bind_some e
  obtain ⟨v', S₂, e3, e4⟩ := bind_some e2
  refine wpAny_comprehension_free rfl hf co.clos co.kind co.names (hs.run A hA σ S s r item S₁ e1 _ E fun σ₁ s₁ I J fp gp r₁ x₁ hP hF => ?_)
  have hoff₁ := hF.off r
  refine at_newList (vs := []) (as := []) trivial A hA S₁ s₁ r₁ v' S₂ e3 _ E fun σ₂ s₂ acc r₂ x₂ y₂ => ?_
  obtain ⟨_, hv', hS₂⟩ := newAt_some e3
  have hDl : S₂.H.length - 1 = S₁.H.length := by rw [hS₂]; simp
  rw [hv'] at y₂
  obtain ⟨Da, rfl, hDa⟩ := y₂.ref_inv
  have hP₂ : J.P 0 σ₂ fp gp s₂ := J.keep _ _ _ _ _ _ _ hP x₂.pre (fun b hb o eb => x₂.keep b o eb (hoff₁.mt b hb) fun hd => hoff₁.sg b hb (List.mem_of_mem_drop hd)) fun g hg z ez => x₂.gens.1 g z ez
  have hfp₂ : ∀ b ∈ fp, b ∉ σ₂ := fun b hb hm => by
    obtain ⟨o, eo⟩ := J.live _ _ _ _ _ hP b hb
    by_cases q : b ∈ σ₁
    · exact hoff₁.sg b hb q
    · rw [x₂.fresh b hm q] at eo; cases eo
  refine wpAny_newFunctionEnv co.nocell (by intro y hy; cases hy) (fun h₃ hns hsb => ?_) co.kind
  -- the comprehension's own frame
  have hC : s₂.heap.get? s₂.heap.objs.size = none := by
    cases q : s₂.heap.get? s₂.heap.objs.size with
    | none => rfl
    | some o' => exact absurd (Heap.lt_size q) (Nat.lt_irrefl _)
  generalize hCe : s₂.heap.objs.size = C at *
  have x₀₂ : Ext c σ s σ₂ s₂ := x₁.trans r₁.nd x₂
  have hCs : s.heap.get? C = none := by
    cases q : s.heap.get? C with
    | none => rfl
    | some o' => obtain ⟨o'', q'⟩ := x₀₂.dom C o' q; rw [hC] at q'; cases q'
  have up₃ : ∀ b o, s₂.heap.get? b = some o → h₃.get? b = some o := fun b o eb =>
    hsb.extBut b o (fun q => by rw [q, hC] at eb; cases eb) (Heap.get?_push_of_some _ eb)
  have hlive₂ := r₂.live
  have hcell₂ : ∀ x a, (x, some a) ∈ c.ns → ∃ o, s₂.heap.get? a = some o := fun x a hx => by
    obtain ⟨i, hi, q⟩ := List.getElem_of_mem hx
    obtain ⟨ov, ⟨o, e', _⟩, _⟩ := r₂.cl i x a (by rw [List.getElem?_eq_getElem hi, q])
    exact ⟨o, e'⟩
  have hloc₂ : ∃ o, s₂.heap.get? c.env.locals = some o := by obtain ⟨cm, ⟨o, _, _, e', _⟩, _⟩ := r₂.ns; exact ⟨o, e'⟩
  have neC : ∀ b, (∃ o, s₂.heap.get? b = some o) → b ≠ C := fun b ⟨o, q⟩ h => by rw [h, hC] at q; cases q
  have hcapm : ∀ p ∈ caps, p ∈ caps → (p.1, some p.2) ∈ c.ns := fun p hp _ => by
    obtain ⟨k, hk, q⟩ := List.getElem_of_mem hp
    obtain ⟨j, _, hj⟩ := co.cap k p (by rw [List.getElem?_eq_getElem hk, q])
    exact List.mem_of_getElem? hj
  have nsmem : ∀ x a, (x, some a) ∈ (compCx c scope cl xs caps C).ns → (x, a) ∈ caps := fun x a h => by
    rcases List.mem_append.mp h with h | h
    · obtain ⟨y, _, q⟩ := List.mem_map.mp h; cases q
    · obtain ⟨p, hp, q⟩ := List.mem_map.mp h
      cases q; exact hp
  have ok' : CxOk (compCx c scope cl xs caps C) := by
    refine ⟨co.kind, ?_, by simp [compEnvC], ?_, fun x a h hm => ?_, fun x a h => ?_, fun i j x y a hi hj => ?_⟩
    · have e1 : (compCx c scope cl xs caps C).ns.map (·.1) = xs ++ caps.map (·.1) := by
        show ((xs.map (fun x => (x, (none : Option Addr))) ++ caps.map (fun p : Str × Addr => (p.1, some p.2))).map (·.1)) = _
        rw [List.map_append, List.map_map, List.map_map]
        congr 1
        exact List.map_id xs
      rw [e1]; exact co.nodup
    · show c.B.get? C = none
      cases q : c.B.get? C with
      | none => rfl
      | some o' => have := r₂.base _ _ q; rw [hC] at this; cases this
    · rw [List.mem_singleton.mp hm] at h
      exact absurd rfl (neC C (hcell₂ x C (hcapm _ (nsmem x C h) (nsmem x C h))))
    · exact neC a (hcell₂ x a (hcapm _ (nsmem x a h) (nsmem x a h)))
    · have key : ∀ (i : Nat) x, (compCx c scope cl xs caps C).ns[i]? = some (x, some a) → xs.length ≤ i ∧ caps[i - xs.length]? = some (x, a) := fun i x hi => by
        have hi' : (xs.map (fun x => (x, (none : Option Addr))) ++ caps.map (fun p => (p.1, some p.2)))[i]? = some (x, some a) := hi
        by_cases hl : i < xs.length
        · rw [List.getElem?_append_left (by simpa using hl), List.getElem?_map] at hi'
          cases q : xs[i]? with
          | none => rw [q] at hi'; cases hi'
          | some y => rw [q] at hi'; cases hi'
        · rw [List.getElem?_append_right (by simpa using hl), List.getElem?_map, List.length_map] at hi'
          refine ⟨Nat.not_lt.mp hl, ?_⟩
          cases q : caps[i - xs.length]? with
          | none => rw [q] at hi'; cases hi'
          | some p => rw [q] at hi'; obtain ⟨p1, p2⟩ := p; simp at hi'; obtain ⟨rfl, rfl⟩ := hi'; rfl
      obtain ⟨li, hi'⟩ := key i x hi
      obtain ⟨lj, hj'⟩ := key j y hj
      obtain ⟨ji, qi, ni⟩ := co.cap _ _ hi'
      obtain ⟨jj, qj, nj⟩ := co.cap _ _ hj'
      have : ji = jj := ok.cc ji jj _ _ _ ni nj
      subst this
      have hxy : x = y := by rw [ni] at nj; cases nj; rfl
      subst hxy
      have h1 : (caps.map (·.1))[i - xs.length]? = some x := by rw [List.getElem?_map, hi']; rfl
      have h2 : (caps.map (·.1))[j - xs.length]? = some x := by rw [List.getElem?_map, hj']; rfl
      have := (List.getElem?_inj (List.getElem?_eq_some_iff.mp h1).1 (List.nodup_append.mp co.nodup).2.1).mp (h1.trans h2.symm)
      omega
  let S₃ : St := ⟨List.replicate xs.length .unb ++ ci.map (fun i => (S₂.m[i]?).getD .unb), S₂.H, S₂.z⟩
  have r₃ : Rel (compCx c scope cl xs caps C) σ₂ S₃ { s₂ with heap := h₃, toks := s₂.toks + ([] : List (Str × Value)).length } := by
    refine ⟨r₂.len, fun b o q => up₃ b o (r₂.base b o q), ⟨_, hns, fun i x q => ?_⟩, fun i x a q => ?_, fun i b o q q' => ObjAt.mono (List.prefix_refl _) (fun ob z => up₃ b ob z) (r₂.obj i b o q q'), r₂.nd, fun b hb => ⟨fun hm => ?_, ?_, fun x a hx => ?_⟩, r₂.fr, fun b hb => ?_, r₂.zz⟩
    · have q' : (xs.map (fun x => (x, (none : Option Addr))) ++ caps.map (fun p => (p.1, some p.2)))[i]? = some (x, none) := q
      have hl : i < xs.length := by
        by_cases hl : i < xs.length
        · exact hl
        · rw [List.getElem?_append_right (by simpa using hl), List.getElem?_map] at q'
          cases z : caps[i - (xs.map (fun x => (x, (none : Option Addr)))).length]? with
          | none => rw [z] at q'; cases q'
          | some p => rw [z] at q'; cases q'
      show LV σ₂ (((List.replicate xs.length AV.unb ++ ci.map (fun i => (S₂.m[i]?).getD .unb))[i]?).getD .unb) _
      rw [List.getElem?_append_left (by simpa using hl), List.getElem?_replicate, if_pos hl]
      trivial
    · have q' : (xs.map (fun x => (x, (none : Option Addr))) ++ caps.map (fun p => (p.1, some p.2)))[i]? = some (x, some a) := q
      have hl : ¬ i < xs.length := fun hl => by
        rw [List.getElem?_append_left (by simpa using hl), List.getElem?_map] at q'
        cases z : xs[i]? with
        | none => rw [z] at q'; cases q'
        | some p => rw [z] at q'; cases q'
      rw [List.getElem?_append_right (by simpa using hl), List.getElem?_map, List.length_map] at q'
      cases z : caps[i - xs.length]? with
      | none => rw [z] at q'; cases q'
      | some p =>
        rw [z] at q'
        obtain ⟨p1, p2⟩ := p
        simp at q'
        obtain ⟨rfl, rfl⟩ := q'
        obtain ⟨j, hj, nj⟩ := co.cap _ _ z
        obtain ⟨ov, ⟨ob, e1, e2⟩, l⟩ := r₂.cl j _ _ nj
        refine ⟨ov, ⟨ob, up₃ _ _ e1, e2⟩, ?_⟩
        show LV σ₂ (((List.replicate xs.length AV.unb ++ ci.map (fun i => (S₂.m[i]?).getD .unb))[i]?).getD .unb) _
        rw [List.getElem?_append_right (by simpa using hl), List.length_replicate, List.getElem?_map, hj]
        exact l
    · rw [List.mem_singleton.mp hm] at hb; exact neC C (hlive₂ C hb) rfl
    · exact neC b (hlive₂ b hb)
    · exact (r₂.ap b hb).2.2 x a (hcapm _ (nsmem x a hx) (nsmem x a hx))
    · rw [List.mem_singleton.mp hb]
      obtain ⟨o', _, _, q, _⟩ := hns
      exact ⟨o', q⟩
  cases hlp : loopC item st test el (S₂.H.length - 1) n 0 S₃ with
  | none => rw [show loopC item st test el (S₂.H.length - 1) n 0 ⟨List.replicate xs.length .unb ++ ci.map (fun i => (S₂.m[i]?).getD .unb), S₂.H, S₂.z⟩ = none from hlp] at e4; cases e4
  | some q =>
    obtain ⟨u, S₄⟩ := q
    rw [show loopC item st test el (S₂.H.length - 1) n 0 ⟨List.replicate xs.length .unb ++ ci.map (fun i => (S₂.m[i]?).getD .unb), S₂.H, S₂.z⟩ = some (u, S₄) from hlp] at e4
    cases e4
    obtain ⟨htgt, htests, helt⟩ := hin C ok'
    have hmt' : ∀ b ∈ (compCx c scope cl xs caps C).mt, s.heap.get? b = none := fun b hb => by rw [List.mem_singleton.mp hb]; exact hCs
    -- the end of the loop
    have hend : ∀ σ₄ s₄, Rel (compCx c scope cl xs caps C) σ₄ S₄ s₄ → Ext c σ s σ₄ s₄ → σ₂ <+: σ₄ → (∀ b o, Home c b → s₂.heap.get? b = some o → s₄.heap.get? b = some o) →
        compPost (M c) A E use Q (.ref Da) C (.ok .next) s₄ := fun σ₄ s₄ r₄ x₄ hpre hk => by
      have rb : Rel c σ₄ { S₂ with H := S₄.H } s₄ := Rel.back (c' := compCx c scope cl xs caps C) rfl rfl r₂.zz r r₂ r₄ x₀₂ x₄ hpre hk
      have hvr : VRel σ₄ v (.ref Da) := by rw [hv']; exact VRel.mono hpre (v := .ref _) (a := .ref Da) hDa
      have hCσ : C ∉ σ₄ := fun hm => (r₄.ap C hm).1 (List.mem_singleton.mpr rfl)
      have hCm : C ∉ c.mt := fun hm => by obtain ⟨o, q⟩ := r.ml C hm; rw [hCs] at q; cases q
      have hns₄ : ∃ m, s₄.heap.Ns C m := by obtain ⟨cm, h1, _⟩ := r₄.ns; exact ⟨cm, h1⟩
      cases use with
      | none =>
        obtain ⟨m, hm⟩ := hns₄
        refine ⟨m, hm, fun h' hs' => ?_⟩
        have hF₄ : Fresh s σ₄ [C] [] := ⟨fun b hb => by rw [List.mem_singleton.mp hb]; exact hCs, fun b hb => by rw [List.mem_singleton.mp hb]; exact hCσ, fun g hg => by cases hg⟩
        have mv : Moved [C] [] s₄ { s₄ with heap := h' } := ⟨fun b o eb hb => hs'.extBut b o (fun q => hb (by simp [q])) eb, fun i x e _ => e, id, rfl⟩
        exact K σ₄ _ _ (rb.moved (hF₄.off r) mv) (x₄.moved mv hF₄.hp hF₄.gn) hvr
      | some uu => exact K σ₄ s₄ _ rb x₄ hvr C hCm hCσ hns₄ hCs
    have hP₃ : J.P 0 σ₂ fp gp { s₂ with heap := h₃, toks := s₂.toks + ([] : List (Str × Value)).length } := J.keep _ _ _ _ _ _ _ hP₂ (List.prefix_refl _) (fun b hb o eb => up₃ b o eb) fun g hg z ez => ez
    have hCfp : C ∉ fp := fun hb => by obtain ⟨o, q⟩ := J.live _ _ _ _ _ hP₂ C hb; rw [hC] at q; cases q
    have hF₃ : Fresh s σ₂ fp gp := ⟨hF.hp, hfp₂, hF.gn⟩
    have x₃ : Ext c σ s σ₂ { s₂ with heap := h₃, toks := s₂.toks + ([] : List (Str × Value)).length } := x₀₂.trans r₂.nd (.grown up₃ rfl rfl)
    have hloop : ∀ it' : Value, it' = I → codeAny (model c.prog c.w) A (.compLoop (.ListComp elt [⟨target, iter, ifs, 0⟩] scope pos) 0 it' (.ref Da) (compCx c scope cl xs caps C).env) (compPost (M c) A E use Q (.ref Da) C) { s₂ with heap := h₃, toks := s₂.toks + ([] : List (Str × Value)).length } := by
      rintro it' rfl
      refine codeAny_compLoop_any (fun n s' => ∃ σ₅ S₅ k fp₅, Rel (compCx c scope cl xs caps C) σ₅ S₅ s' ∧ Ext c σ s σ₅ s' ∧ σ₂ <+: σ₅ ∧ (∀ b o, Home c b → s₂.heap.get? b = some o → s'.heap.get? b = some o) ∧ C ∉ fp₅ ∧ J.P k σ₅ fp₅ gp s' ∧ Fresh s σ₅ fp₅ gp ∧
        loopC item st test el (S₂.H.length - 1) n k S₅ = some (u, S₄)) (fun n s' hI => ?_) n ⟨σ₂, S₃, 0, fp, r₃, x₃, List.prefix_refl _, fun b o _ eb => up₃ b o eb, hCfp, hP₃, hF₃, hlp⟩
      obtain ⟨σ₅, S₅, k, fp₅, r₅, x₅, hp₅, hk₅, hC₅, hP₅, hF₅, e₅⟩ := hI
      cases n with
      | zero => cases e₅
      | succ n =>
        have hoff : Off (compCx c scope cl xs caps C) σ₅ fp₅ := by
          have o₁ := hF₅.off r
          refine ⟨o₁.sg, fun b hb hm => ?_, o₁.base, fun b hb q => ?_, fun b hb x a hx => o₁.cell b hb x a (hcapm _ (nsmem x a hx) (nsmem x a hx))⟩
          · rw [List.mem_singleton.mp hm] at hb; exact hC₅ hb
          · rw [show b = C from q] at hb; exact hC₅ hb
        have homeOff : ∀ b, Home c b → b ∉ fp₅ := fun b hb hm => by
          obtain ⟨o, q⟩ := r.home hb
          rw [hF₅.hp b hm] at q; cases q
        unfold loopC at e₅
        cases hi : item k S₅.H with
        | none => rw [hi] at e₅; cases e₅
        | some rr =>
          rw [hi] at e₅
          refine It.next' (c := compCx c scope cl xs caps C) J hA r₅ hP₅ hoff hi _ _ _ (fun hr s₆ m => ?_) fun x hr a s₆ fp₆ hP₆ hfr m hR => ?_
          · subst hr
            cases e₅
            exact hend σ₅ s₆ (r₅.moved hoff m) (x₅.moved m hF₅.hp hF₅.gn) hp₅ fun b o hb eb => m.keep b o (hk₅ b o hb eb) (homeOff b hb)
          · subst hr
            obtain ⟨u₁, S₆, e6, e7⟩ := bind_some e₅
            have r₆ := r₅.moved hoff m
            have x₆ := x₅.moved m hF₅.hp hF₅.gn
            have hk₆ : ∀ b o, Home c b → s₂.heap.get? b = some o → s₆.heap.get? b = some o := fun b o hb eb => m.keep b o (hk₅ b o hb eb) (homeOff b hb)
            have hC₆ : C ∉ fp₆ := fun hb => by
              obtain ⟨oC, qC⟩ := r₅.ml C (List.mem_singleton.mpr rfl)
              rw [hfr C hb hC₅] at qC; cases qC
            have hF₆ : Fresh s σ₅ fp₆ gp := by
              have old : ∀ b ∈ fp₆, b ∉ fp₅ → s.heap.get? b = none ∧ b ∉ σ₅ := fun b hb hn => by
                have h0 := hfr b hb hn
                refine ⟨?_, fun hs' => ?_⟩
                · cases e : s.heap.get? b with
                  | none => rfl
                  | some o => obtain ⟨o', e'⟩ := x₅.dom b o e; rw [h0] at e'; cases e'
                · obtain ⟨o, q⟩ := r₅.live b hs'; rw [h0] at q; cases q
              refine ⟨fun b hb => ?_, fun b hb => ?_, hF₅.gn⟩
              · by_cases hq : b ∈ fp₅
                · exact hF₅.hp b hq
                · exact (old b hb hq).1
              · by_cases hq : b ∈ fp₅
                · exact hF₅.sg b hq
                · exact (old b hb hq).2
            -- from here on in the frame of the comprehension
            have step : ∀ σ₇ S₇ s₇, Rel (compCx c scope cl xs caps C) σ₇ S₇ s₇ → Ext (compCx c scope cl xs caps C) σ₅ s₆ σ₇ s₇ → loopC item st test el (S₂.H.length - 1) n (k + 1) S₇ = some (u, S₄) →
                ∃ m, m < n + 1 ∧ ∃ σ₅ S₅ k fp₅, Rel (compCx c scope cl xs caps C) σ₅ S₅ s₇ ∧ Ext c σ s σ₅ s₇ ∧ σ₂ <+: σ₅ ∧ (∀ b o, Home c b → s₂.heap.get? b = some o → s₇.heap.get? b = some o) ∧ C ∉ fp₅ ∧ J.P k σ₅ fp₅ gp s₇ ∧ Fresh s σ₅ fp₅ gp ∧
                  loopC item st test el (S₂.H.length - 1) m k S₅ = some (u, S₄) := fun σ₇ S₇ s₇ r₇ x₇ e₇ => by
              have hP₇ : J.P (k + 1) σ₇ fp₆ gp s₇ := J.keep _ _ _ _ _ s₆ _ hP₆ x₇.pre (fun b hb o eb => x₇.keep b o eb (fun hm => hC₆ (List.mem_singleton.mp hm ▸ hb)) fun hd => hF₆.sg b hb (List.mem_of_mem_drop hd)) fun g hg x e => x₇.gens.1 g x e
              refine ⟨n, Nat.lt_succ_self _, σ₇, S₇, k + 1, fp₆, r₇, x₆.trans' r₆.nd x₇ rfl hmt', hp₅.trans x₇.pre, fun b o hb eb => x₇.keep b o (hk₆ b o hb eb) ?_ ?_, hC₆, hP₇, ⟨hF₆.hp, fun b hb hs' => ?_, hF₆.gn⟩, e₇⟩
              · intro hm
                rw [List.mem_singleton.mp hm] at hb
                obtain ⟨o, q⟩ := r.home hb; rw [hCs] at q; cases q
              · intro hd
                have hb₅ := List.mem_of_mem_drop hd
                by_cases hq : b ∈ σ
                · have := r.ap b hq
                  rcases hb with h | ⟨x, h⟩
                  · exact this.2.1 h
                  · exact this.2.2 x b h rfl
                · obtain ⟨o, q⟩ := r.home hb
                  rw [x₅.fresh b hb₅ hq] at q; cases q
              · by_cases hq : b ∈ σ₅
                · exact hF₆.sg b hb hq
                · obtain ⟨o, e⟩ := J.live _ _ _ _ _ hP₆ b hb
                  rw [x₇.fresh b hs' hq] at e; cases e
            refine htgt.run A hA σ₅ S₅ s₆ r₆ x a hR u₁ S₆ e6 _ _ fun s₇ r₇ x₇ => ?_
            obtain ⟨b₁, S₈, e8, e9⟩ := bind_some e7
            refine htests.run A hA σ₅ S₆ s₇ r₇ b₁ S₈ e8 _ _ fun σ₈ s₈ bb r₈ x₈ y₈ => ?_
            cases y₈
            have x₆₈ := x₇.trans r₇.nd x₈
            cases b₁ with
            | false =>
              rw [if_neg Bool.false_ne_true]
              exact step σ₈ S₈ s₈ r₈ x₆₈ e9
            | true =>
              rw [if_pos rfl]
              obtain ⟨v₁, S₉, e10, e11⟩ := bind_some e9
              obtain ⟨u₂, S₁₀, e12, e13⟩ := bind_some e11
              refine helt.run A hA σ₈ S₈ s₈ r₈ v₁ S₉ e10 _ _ fun σ₉ s₉ xv r₉ x₉ y₉ => ?_
              have x₆₉ := x₆₈.trans r₈.nd x₉
              have hD₉ : σ₉[S₂.H.length - 1]? = some Da := by
                rw [hDl]
                obtain ⟨t, rfl⟩ := hp₅.trans x₆₉.pre
                rw [List.getElem?_append_left (List.getElem?_eq_some_iff.mp hDa).1]; exact hDa
              exact wp_append (c := compCx c scope cl xs caps C) r₉ hD₉ y₉ e12 fun s₁₀ r₁₀ x₁₀ => step σ₉ S₁₀ s₁₀ r₁₀ (x₆₉.trans r₉.nd x₁₀) e13
    exact codeAny_compStart_list (hloop I rfl) (J.self hA _ _ _ _ _ hP₃ _ _ (hloop I rfl))

theorem den_comp {elt target iter : Expr} {ifs : List Expr} {scope : Scope} {pos : Pos} {cl : List (Str × Addr)} {xs : List Str} {caps : List (Str × Addr)} {ci : List Nat} {src : F ItemF} {st : Item → F Unit} {test : F Bool} {el : F AV} (n : Nat)
    (ok : CxOk c) (co : CompOk c scope cl xs caps ci) (hs : Src c d target iter src) (hf : ∀ x, foldedSetIterable iter c.env x = pure x)
    (hin : ∀ C, CxOk (compCx c scope cl xs caps C) → Tgt (compCx c scope cl xs caps C) d target st ∧ Tests (compCx c scope cl xs caps C) d ifs test ∧ Den (compCx c scope cl xs caps C) d (eval elt (compCx c scope cl xs caps C).env) VRel el) :
    Den c d (eval (.ListComp elt [⟨target, iter, ifs, 0⟩] scope pos) c.env) VRel (compF src xs.length ci st test el n) := by
  refine ⟨fun A hA σ S s r b S' e Q E K => ?_⟩
  rw [eval_ListComp]
  exact wp_comp (use := none) n ok co hs hf hin hA r e K
theorem den_assign_comp {x : Str} {p spos : Pos} {i : Nat} {elt target iter : Expr} {ifs : List Expr} {scope : Scope} {pos : Pos} {cl : List (Str × Addr)} {xs : List Str} {caps : List (Str × Addr)} {ci : List Nat} {src : F ItemF} {st : Item → F Unit} {test : F Bool} {el : F AV} (n : Nat)
    (ok : CxOk c) (hx : Stores c x i) (co : CompOk c scope cl xs caps ci) (hs : Src c d target iter src) (hf : ∀ x, foldedSetIterable iter c.env x = pure x)
    (hin : ∀ C, CxOk (compCx c scope cl xs caps C) → Tgt (compCx c scope cl xs caps C) d target st ∧ Tests (compCx c scope cl xs caps C) d ifs test ∧ Den (compCx c scope cl xs caps C) d (eval elt (compCx c scope cl xs caps C).env) VRel el)
    (hsw : swapsWith (.ListComp elt [⟨target, iter, ifs, 0⟩] scope pos) (some (.Name x p)) spos.line c.env = pure true) :
    Den c d (exec (.Assign [.Name x p] (.ListComp elt [⟨target, iter, ifs, 0⟩] scope pos) spos) c.env) FRel (F.bind (compF src xs.length ci st test el n) fun v => F.bind (setVar i v) fun _ => F.pure .next) := by
  refine ⟨fun A hA σ S s r b S' e Q E K => ?_⟩
  obtain ⟨v, S₁, e1, e2⟩ := bind_some e
  obtain ⟨u, S₂, e3, e4⟩ := bind_some e2
  cases e4
  rw [exec_Assign_Name_used _ _ _ _ hsw]
  refine wpAny_bind (wpAny_standAt (wpAny_bind ?_))
  show wpAny _ A (do let _ ← comprehension (.ListComp elt [⟨target, iter, ifs, 0⟩] scope pos) scope c.env _ (newList []) false (eval iter c.env) (some (assign (.Name x p) c.env))) _ _ s
  refine wpAny_bind (wpAny_mono (wp_comp (Q := fun _ s' => Q .next s') (E := E) (use := some (assign (.Name x p) c.env)) n ok co hs hf hin hA r e1 fun σ' s' a r' x' y' C hCm hCσ hns hCs => ?_) (fun _ s' hq => wpAny_pure (wpAny_pure hq)) fun _ _ e => e)
  refine at_assignName ok hx y' A hA S₁ s' r' u S' e3 _ E fun σ₂ s₂ _ r₂ x₂ _ => ?_
  obtain ⟨m, hm⟩ := hns
  refine ⟨m, hm.at' fun o eo => x₂.keep C o eo hCm fun hd => hCσ (List.mem_of_mem_drop hd), fun h' hs' => ?_⟩
  have hCσ₂ : C ∉ σ₂ := fun h => by
    obtain ⟨o, _, _, eo, _⟩ := hm
    rw [x₂.fresh C h hCσ] at eo; cases eo
  have hF₄ : Fresh s σ₂ [C] [] := ⟨fun b hb => by rw [List.mem_singleton.mp hb]; exact hCs, fun b hb => by rw [List.mem_singleton.mp hb]; exact hCσ₂, fun g hg => by cases hg⟩
  have mv : Moved [C] [] s₂ { s₂ with heap := h' } := ⟨fun b o eb hb => hs'.extBut b o (fun q => hb (by simp [q])) eb, fun i x e _ => e, id, rfl⟩
  exact K σ₂ _ .next (r₂.moved (hF₄.off r) mv) ((x'.trans r'.nd x₂).moved mv hF₄.hp hF₄.gn) trivial
end Mine
end

section
set_option maxRecDepth 100000
set_option linter.unusedVariables false
open PySem PySem.W PyProof.Rows PySem.Calls
namespace Mine
variable {c : Cx} {d : Nat}

noncomputable def seqItem (xs : List AV) : ItemF := fun k _ => some ((xs[k]?).map .one)
noncomputable def seqItem2 (xs : List (AV × AV)) : ItemF := fun k _ => some ((xs[k]?).map fun p => .two p.1 p.2)

noncomputable def itWalks {prog : Program} {w : World} {B : Heap} {A : Around} {I : Addr} {fp₀ : List Addr} {n : Nat} {P : Nat → Value → Prop} {St : Nat → Heap → Prop} {x : Str} {p : Pos}
    (W : ∀ A : Around, A.handled = none → Walks prog w A I fp₀ fp₀ n P St) (xs : List AV) (hn : xs.length = n) (hP : ∀ i v, i < n → P i v → ∃ u, xs[i]? = some u ∧ ∀ σ, VRel σ u v) (hl : ∀ i h, St i h → ∀ b ∈ fp₀, ∃ o, h.get? b = some o) :
    It prog w B A d (.Name x p) (.ref I) (seqItem xs) where
  P := fun k σ fp gp s => fp = fp₀ ∧ gp = [] ∧ k ≤ n ∧ St k s.heap
  keep := fun k σ σ' fp gp s s' h _ hk _ => by
    obtain ⟨rfl, rfl, h1, h2⟩ := h
    exact ⟨rfl, rfl, h1, (W ({ depth := 0 } : Around) rfl).frame _ _ _ h2 hk⟩
  live := fun k σ fp gp s h => by
    obtain ⟨rfl, rfl, h1, h2⟩ := h
    exact hl _ _ h2
  self := fun hA k σ fp gp s h Q E hQ => (W A hA.handled).self k s Q E h.2.2.2 hQ
  next := fun c hp hw hB hA k σ S s fp gp r h ho rr hi Q E h0 h1 => by
    subst hp hw
    obtain ⟨rfl, rfl, hk, hst⟩ := h
    by_cases hlt : k < n
    · refine (W A hA.handled).item k s _ E hlt hst fun v h' tk hv hst' hkp => ?_
      obtain ⟨u, hu, hr⟩ := hP k v hlt hv
      have hi' : some ((xs[k]?).map Item.one) = some rr := hi
      rw [hu] at hi'
      cases hi'
      refine wpAny_of_eq (a := ()) rfl ?_
      exact h1 _ rfl v _ fp ⟨rfl, rfl, hlt, hst'⟩ (fun b hb hn => absurd hb hn) ⟨fun b o e hb => hkp b o hb e, fun i x e _ => e, id, rfl⟩ (hr σ)
    · have hkn : k = n := Nat.le_antisymm hk (Nat.not_lt.mp hlt)
      have hi' : some ((xs[k]?).map Item.one) = some rr := hi
      rw [List.getElem?_eq_none (by omega)] at hi'
      cases hi'
      subst hkn
      refine (W A hA.handled).done s _ E hst fun h' tk hkp => ?_
      exact h0 rfl _ ⟨fun b o e hb => hkp b o hb e, fun i x e _ => e, id, rfl⟩

noncomputable def itWalksT {prog : Program} {w : World} {B : Heap} {A : Around} {I : Addr} {fp₀ : List Addr} {n : Nat} {Pt : Nat → Array Value → Prop} {St : Nat → Heap → Prop} {Mid : Nat → Addr → Heap → Prop} {elts : List Expr} {kk : Nat} {p : Pos}
    (W : ∀ A : Around, A.handled = none → WalksT prog w A I fp₀ fp₀ n Pt St Mid) (xs : List (AV × AV)) (hn : xs.length = n)
    (hP : ∀ i vals, i < n → Pt i vals → ∃ u v a b, xs[i]? = some (u, v) ∧ vals = #[a, b] ∧ ∀ σ, VRel σ u a ∧ VRel σ v b) (hl : ∀ i h, St i h → ∀ b ∈ fp₀, ∃ o, h.get? b = some o) :
    It prog w B A d (.Tuple elts kk p) (.ref I) (seqItem2 xs) where
  P := fun k σ fp gp s => fp = fp₀ ∧ gp = [] ∧ k ≤ n ∧ St k s.heap
  keep := fun k σ σ' fp gp s s' h _ hk _ => by
    obtain ⟨rfl, rfl, h1, h2⟩ := h
    exact ⟨rfl, rfl, h1, (W ({ depth := 0 } : Around) rfl).frame _ _ _ h2 hk⟩
  live := fun k σ fp gp s h => by
    obtain ⟨rfl, rfl, h1, h2⟩ := h
    exact hl _ _ h2
  self := fun hA k σ fp gp s h Q E hQ => (W A hA.handled).self k s Q E h.2.2.2 hQ
  next := fun c hp hw hB hA k σ S s fp gp r h ho rr hi Q E h0 h1 => by
    subst hp hw
    obtain ⟨rfl, rfl, hk, hst⟩ := h
    by_cases hlt : k < n
    · refine (W A hA.handled).item k s _ E hlt hst fun T vals h' tk hv _ hT hMid hkp => ?_
      obtain ⟨u, v, a, b, hu, rfl, hr⟩ := hP k vals hlt hv
      have hi' : some ((xs[k]?).map fun p => Item.two p.1 p.2) = some rr := hi
      rw [hu] at hi'
      cases hi'
      refine (W A hA.handled).go elts kk p k T _ _ E hMid fun h'' hst'' hkp' => ?_
      have hTw := (W A hA.handled).apart _ _ _ hMid
      exact h1 _ rfl _ _ fp ⟨rfl, rfl, hlt, hst''⟩ (fun b hb hn => absurd hb hn) ⟨fun b o e hb => hkp' b o hb (hkp b o hb e), fun i x e _ => e, id, rfl⟩
        ⟨T, a, b, rfl, hT.at fun o e => hkp' T o hTw e, (hr σ).1, (hr σ).2⟩
    · have hkn : k = n := Nat.le_antisymm hk (Nat.not_lt.mp hlt)
      have hi' : some ((xs[k]?).map fun p => Item.two p.1 p.2) = some rr := hi
      rw [List.getElem?_eq_none (by omega)] at hi'
      cases hi'
      subst hkn
      refine (W A hA.handled).done s _ E hst fun h' tk hkp => ?_
      exact h0 rfl _ ⟨fun b o e hb => hkp b o hb e, fun i x e _ => e, id, rfl⟩

noncomputable def itemList (i : Nat) : ItemF := fun k H => match H[i]? with
  | some (.list xs) => some ((xs[k]?).map .one)
  | _ => none
noncomputable def itList {prog : Program} {w : World} {B : Heap} {A : Around} {I ax : Addr} {i : Nat} {x : Str} {p : Pos} : It prog w B A d (.Name x p) (.ref I) (itemList i) where
  P := fun k σ fp gp s => fp = [I] ∧ gp = [] ∧ s.heap.IsListIter I ax k ∧ σ[i]? = some ax
  keep := fun k σ σ' fp gp s s' h hp hk _ => by
    obtain ⟨rfl, rfl, h1, h2⟩ := h
    refine ⟨rfl, rfl, h1.at fun o e => hk I (by simp) o e, ?_⟩
    obtain ⟨t, rfl⟩ := hp
    rw [List.getElem?_append_left (List.getElem?_eq_some_iff.mp h2).1]; exact h2
  live := fun k σ fp gp s h b hb => by
    obtain ⟨rfl, rfl, ⟨o, h1, _⟩, h2⟩ := h
    rw [List.mem_singleton.mp hb]; exact ⟨o, h1⟩
  self := fun hA k σ fp gp s h Q E hQ => wpAny_pyIter_listiter h.2.2.1 hQ
  next := fun c hp hw hB hA k σ S s fp gp r h ho rr hi Q E h0 h1 => by
    subst hp hw
    obtain ⟨rfl, rfl, hit, hax⟩ := h
    unfold itemList at hi
    cases hH : S.H[i]? with
    | none => rw [hH] at hi; cases hi
    | some o =>
      rw [hH] at hi
      cases o with
      | tup xs => cases hi
      | list xs =>
        cases hi
        obtain ⟨vs, n, hol, hvs⟩ := r.obj i ax _ hax hH
        have hil : s.heap.IsList ax vs.toArray := ⟨_, hol, rfl, n, rfl⟩
        cases hx : xs[k]? with
        | none =>
          have hvn : vs.toArray[k]? = none := by
            have : xs.length ≤ k := by simpa using List.getElem?_eq_none_iff.mp hx
            simp [hvs.length, this]
          exact wpAny_pyNext_list_end hA.handled hit hil hvn fun h' he => h0 (by rw [hx]; rfl) _ ⟨fun b o e hb => he b o (fun q => hb (by simp [q])) e, fun i x e _ => e, id, rfl⟩
        | some v =>
          obtain ⟨a, ha, hr⟩ := hvs.get hx
          refine wpAny_pyNext_list_item hit hil (x := a) (by simpa using ha) fun h' hit' hs' => ?_
          refine wpAny_of_eq (a := ()) rfl ?_
          exact h1 (.one v) (by rw [hx]; rfl) a _ [I] ⟨rfl, rfl, hit', hax⟩ (fun b hb hn => absurd hb hn) ⟨fun b o e hb => hs'.extBut b o (fun q => hb (by simp [q])) e, fun i x e _ => e, id, rfl⟩ hr

theorem fresh_new {σ : List Addr} {S : St} {s : Shared} (r : Rel c σ S s) : s.heap.get? s.heap.objs.size = none ∧ s.heap.objs.size ∉ σ := by
  have h : s.heap.get? s.heap.objs.size = none := by
    cases q : s.heap.get? s.heap.objs.size with
    | none => rfl
    | some o' => exact absurd (Heap.lt_size q) (Nat.lt_irrefl _)
  exact ⟨h, fun hm => by obtain ⟨o, e⟩ := r.live _ hm; rw [h] at e; cases e⟩
theorem none_of_ge {h : Heap} {a : Addr} (hs : h.objs.size ≤ a) : h.get? a = none := by
  cases q : h.get? a with
  | none => rfl
  | some o' => exact absurd (Heap.lt_size q) (Nat.not_lt.mpr hs)

noncomputable def strItems (x : Str) : List AV := x.cps.toList.map fun ch => .str ⟨#[ch]⟩

/-- a list or a str is walked -/
noncomputable def srcVal : AV → F ItemF
  | .ref i => fun S => match S.H[i]? with
    | some (.list _) => some (itemList i, S)
    | _ => none
  | .str x => F.pure (seqItem (strItems x))
  | _ => F.fail
theorem src_val {x : Str} {p : Pos} {iter : Expr} {f : F AV} (h : Den c d (eval iter c.env) VRel f) : Src c d (.Name x p) iter (F.bind f srcVal) := by
  refine ⟨fun A hA σ S s r item S' e Q E K => ?_⟩
  obtain ⟨v, S₁, e1, e2⟩ := bind_some e
  refine h.run A hA σ S s r v S₁ e1 _ E fun σ₁ s₁ a r₁ x₁ y₁ => ?_
  have back : ∀ b, s₁.heap.get? b = none → s.heap.get? b = none := fun b hb => by
    cases q : s.heap.get? b with
    | none => rfl
    | some o => obtain ⟨o', e'⟩ := x₁.dom b o q; rw [hb] at e'; cases e'
  cases v with
  | ref i =>
    obtain ⟨ax, rfl, hax⟩ := y₁.ref_inv
    unfold srcVal at e2
    dsimp only at e2
    cases hH : S₁.H[i]? with
    | none => rw [hH] at e2; cases e2
    | some o =>
      rw [hH] at e2
      cases o with
      | tup xs => cases e2
      | list xs =>
        cases e2
        obtain ⟨vs, n, hol, hvs⟩ := r₁.obj i ax _ hax hH
        refine wpAny_pyIter_list (l := ax) (items := vs.toArray) ⟨_, hol, rfl, n, rfl⟩ ?_
        have up : ∀ b o, s₁.heap.get? b = some o → (s₁.heap.push { cls := .type "list_iterator", data := .fields #[.ref ax, .int 0 0] }).get? b = some o := fun b o e => Heap.get?_push_of_some _ e
        exact K σ₁ _ _ (itList (ax := ax)) [s₁.heap.objs.size] [] (r₁.grown up) (x₁.trans r₁.nd (.grown up rfl rfl)) ⟨rfl, rfl, ⟨_, Heap.get?_push_size _ rfl, rfl, rfl⟩, hax⟩
          ⟨fun b hb => by rw [List.mem_singleton.mp hb]; exact back _ (fresh_new r₁).1, fun b hb => by rw [List.mem_singleton.mp hb]; exact (fresh_new r₁).2, fun g hg => by cases hg⟩
  | str z =>
    obtain ⟨t, rfl⟩ := y₁.str_inv
    cases e2
    have key : ∀ (ty : String) (o : Obj), o = { cls := .type ty, data := .fields #[.str z t, .int 0 0] } →
        (∀ A : Around, A.handled = none → Walks c.prog c.w A s₁.heap.objs.size [s₁.heap.objs.size] [s₁.heap.objs.size] z.cps.size (SignAt z) (fun i h => h.IsStrIter s₁.heap.objs.size ty z t i)) →
        Q (.ref s₁.heap.objs.size) { s₁ with heap := s₁.heap.push o } := fun ty o ho W => by
      subst ho
      have up : ∀ b o, s₁.heap.get? b = some o → (s₁.heap.push { cls := .type ty, data := .fields #[.str z t, .int 0 0] }).get? b = some o := fun b o e => Heap.get?_push_of_some _ e
      refine K σ₁ _ _ (itWalks W (strItems z) (by simp [strItems]) (fun i v hi hv => ?_) (fun i h hst b hb => ?_)) [s₁.heap.objs.size] [] (r₁.grown up) (x₁.trans r₁.nd (.grown up rfl rfl)) ⟨rfl, rfl, Nat.zero_le _, ⟨_, Heap.get?_push_size _ rfl, rfl, rfl⟩⟩
        ⟨fun b hb => by rw [List.mem_singleton.mp hb]; exact back _ (fresh_new r₁).1, fun b hb => by rw [List.mem_singleton.mp hb]; exact (fresh_new r₁).2, fun g hg => by cases hg⟩
      · obtain ⟨ch, u, hc, rfl⟩ := hv
        refine ⟨.str ⟨#[ch]⟩, ?_, fun σ => rfl⟩
        simp only [strItems, List.getElem?_map, Array.getElem?_toList, hc]; rfl
      · rw [List.mem_singleton.mp hb]; obtain ⟨o, q, _⟩ := hst; exact ⟨o, q⟩
    cases ha : z.cps.all (· < 128)
    · exact wpAny_pyIter_wide ha (key _ _ rfl fun A' hA => Walks.strWide hA _ z t)
    · exact wpAny_pyIter_ascii ha (key _ _ rfl fun A' hA => Walks.strAscii hA _ z t)
  | _ => cases e2

/-- a class is called with one thing -/
theorem wp_callT {x T : String} {xs : Str} {p pos : Pos} {e : Expr} {f : F AV} (hx : GName c xs (.type T)) (he : Den c d (eval e c.env) VRel f) (hn : ∀ x p, e ≠ .Starred x p) (hd : (xs == ("__debug__" : Str)) = false)
    {A : Around} (hA : Low d A) {σ : List Addr} {S S₁ : St} {s : Shared} (r : Rel c σ S s) {v : AV} (e1 : f S = some (v, S₁)) {Q : Value → Shared → Prop} {E : Value → Shared → Prop}
    (K : ∀ σ₁ s₁ a, Rel c σ₁ S₁ s₁ → Ext c σ s σ₁ s₁ → VRel σ₁ v a → wpAny (M c) A (call (.type T) [a]) Q E s₁) : wpAny (M c) A (eval (.Call (.Name xs p) [e] [] pos) c.env) Q E s := by
  refine Call_Name1 (hx.load r ?_ hd) (by rw [starEach_cons hn]; rfl)
  exact PyProof.Rows.callWith_type rfl (evalArgs_plain (spliced_cons (he.run A hA σ S s r v S₁ e1 _ E fun σ₁ s₁ a r₁ x₁ y₁ => spliced_nil (K σ₁ s₁ a r₁ x₁ y₁))))

noncomputable def rangeItems (n : Nat) : List AV := (List.range n).map fun k : Nat => AV.int (k : Int)
noncomputable def srcRange : AV → F ItemF
  | .int n => match decide (-(2 ^ 40) ≤ n ∧ n < 2 ^ 40) with
    | true => F.pure (seqItem (rangeItems n.toNat))
    | false => F.fail
  | _ => F.fail
theorem src_range {x : Str} {p rp pos : Pos} {e : Expr} {f : F AV} (hx : GName c "range" (.type "range")) (h : Den c d (eval e c.env) VRel f) (hn : ∀ x p, e ≠ .Starred x p) :
    Src c d (.Name x p) (.Call (.Name "range" rp) [e] [] pos) (F.bind f srcRange) := by
  refine ⟨fun A hA σ S s r item S' e' Q E K => ?_⟩
  obtain ⟨v, S₁, e1, e2⟩ := bind_some e'
  refine wp_callT (x := "") hx h hn (by decide) hA r e1 fun σ₁ s₁ a r₁ x₁ y₁ => ?_
  have back : ∀ b, s₁.heap.get? b = none → s.heap.get? b = none := fun b hb => by
    cases q : s.heap.get? b with
    | none => rfl
    | some o => obtain ⟨o', e'⟩ := x₁.dom b o q; rw [hb] at e'; cases e'
  cases v with
  | int N =>
    obtain ⟨t, rfl⟩ := y₁.int_inv
    unfold srcRange at e2
    dsimp only at e2
    cases hb : decide (-(2 ^ 40) ≤ N ∧ N < 2 ^ 40) with
    | false => rw [hb] at e2; cases e2
    | true =>
      rw [hb] at e2
      cases e2
      have hb' := of_decide_eq_true hb
      refine call_range_1 ?_
      refine wpAny_pyIter_range (IsRange.new ..) (small_one (by decide) (by decide) (by have := hb'.1; omega) (by have := hb'.2; omega)) ?_
      have hsz : Builtin.Range.rangeSize 0 N 1 = (N.toNat : Int) := by rw [rangeSize_one]; split <;> omega
      generalize hh1 : s₁.heap.push { cls := .type "range", data := .fields #[.int 0 s₁.toks, .int N t, .int 1 (s₁.toks + 1)] } = h1
      have up1 : ∀ b o, s₁.heap.get? b = some o → h1.get? b = some o := fun b o e => by rw [← hh1]; exact Heap.get?_push_of_some _ e
      have up : ∀ b o, s₁.heap.get? b = some o → (h1.push { cls := .type "range_iterator", data := .fields #[rawInt 0, rawInt (Builtin.Range.rangeSize 0 N 1), rawInt 1] }).get? b = some o := fun b o e => Heap.get?_push_of_some _ (up1 b o e)
      have hge : s₁.heap.objs.size ≤ h1.objs.size := by rw [← hh1, Heap.size_push]; omega
      refine K σ₁ _ _ (itWalks (fun A hA => Walks.range hA h1.objs.size 0 1 N.toNat) (rangeItems N.toNat) (by simp [rangeItems]) (fun i v hi hv => ?_) (fun i h hst b hb => ?_)) [h1.objs.size] [] (r₁.grown up) (x₁.trans r₁.nd (.grown up rfl rfl))
        ⟨rfl, rfl, Nat.zero_le _, ?_⟩ ⟨fun b hb => by rw [List.mem_singleton.mp hb]; exact back _ (none_of_ge hge), fun b hb hm => by rw [List.mem_singleton.mp hb] at hm; (obtain ⟨o, q⟩ := r₁.live _ hm; rw [none_of_ge hge] at q; exact absurd q (by simp)), fun g hg => by cases hg⟩
      · obtain ⟨t', rfl⟩ := hv
        refine ⟨.int i, ?_, fun σ => ?_⟩
        · simp [rangeItems, hi]
        · show (i : Int) = 0 + (i : Int) * 1; omega
      · rw [List.mem_singleton.mp hb]; exact ⟨_, hst⟩
      · have e1 : (0 + ((0 : Nat) : Int) * 1) = 0 := by simp
        have e2 : ((N.toNat : Int) - ((0 : Nat) : Int)) = Builtin.Range.rangeSize 0 N 1 := by rw [hsz]; simp
        show IsRangeIter _ _ _ _ _
        rw [e1, e2]
        exact Heap.get?_push_size _ rfl
  | _ => cases e2

noncomputable def enumItems (x : Str) : List (AV × AV) := (List.range x.cps.size).zip (x.cps.toList) |>.map fun p => (.int p.1, .str ⟨#[p.2]⟩)
noncomputable def srcEnum : AV → F ItemF
  | .str x => F.pure (seqItem2 (enumItems x))
  | _ => F.fail
theorem src_enum {elts : List Expr} {kk : Nat} {p rp pos : Pos} {e : Expr} {f : F AV} (hx : GName c "enumerate" (.type "enumerate")) (h : Den c d (eval e c.env) VRel f) (hn : ∀ x p, e ≠ .Starred x p) :
    Src c d (.Tuple elts kk p) (.Call (.Name "enumerate" rp) [e] [] pos) (F.bind f srcEnum) := by
  refine ⟨fun A hA σ S s r item S' e' Q E K => ?_⟩
  obtain ⟨v, S₁, e1, e2⟩ := bind_some e'
  refine wp_callT (x := "") hx h hn (by decide) hA r e1 fun σ₁ s₁ a r₁ x₁ y₁ => ?_
  have back : ∀ b, s₁.heap.get? b = none → s.heap.get? b = none := fun b hb => by
    cases q : s.heap.get? b with
    | none => rfl
    | some o => obtain ⟨o', e'⟩ := x₁.dom b o q; rw [hb] at e'; cases e'
  cases v with
  | str z =>
    obtain ⟨t, rfl⟩ := y₁.str_inv
    cases e2
    refine call_enumerate_str fun h' he hit hsz up => wpAny_pyIter_enum he ?_
    have hI : s₁.heap.get? s₁.heap.objs.size = none := none_of_ge (Nat.le_refl _)
    have hI1 : s₁.heap.get? (s₁.heap.objs.size + 1) = none := none_of_ge (Nat.le_succ _)
    have D : ∀ A : Around, A.handled = none → WalksT c.prog c.w A (s₁.heap.objs.size + 1) [s₁.heap.objs.size + 1, s₁.heap.objs.size] [s₁.heap.objs.size + 1, s₁.heap.objs.size] z.cps.size
        (fun i vals => ∃ t x, (∃ ch u, z.cps[i]? = some ch ∧ x = Value.str ⟨#[ch]⟩ u) ∧ vals = #[.int i t, x])
        (fun i h => (∃ old, IsEnum h (s₁.heap.objs.size + 1) s₁.heap.objs.size i old) ∧ h.IsStrIter s₁.heap.objs.size (strIterType z) z t i)
        (fun i T h => (∃ x, IsEnumOut h (s₁.heap.objs.size + 1) s₁.heap.objs.size ((i : Int) + 1) x T) ∧ h.IsStrIter s₁.heap.objs.size (strIterType z) z t (i + 1) ∧ T ≠ s₁.heap.objs.size + 1 ∧ T ≠ s₁.heap.objs.size) := fun A hA => by
      have hne : s₁.heap.objs.size + 1 ≠ s₁.heap.objs.size := Nat.succ_ne_self _
      cases ha : z.cps.all (· < 128)
      · have := WalksT.enumerateD (A := A) (Draws.strWide (prog := c.prog) (w := c.w) (A := A.in1) hA s₁.heap.objs.size z t) (s₁.heap.objs.size + 1) hne (by simp) (by simp)
        simpa [strIterType, ha] using this
      · have := WalksT.enumerateD (A := A) (Draws.strAscii (prog := c.prog) (w := c.w) (A := A.in1) hA s₁.heap.objs.size z t) (s₁.heap.objs.size + 1) hne (by simp) (by simp)
        simpa [strIterType, ha] using this
    refine K σ₁ _ _ (itWalksT D (enumItems z) (by simp [enumItems]) (fun i vals hi hv => ?_) (fun i h hst b hb => ?_)) [s₁.heap.objs.size + 1, s₁.heap.objs.size] [] (r₁.grown up) (x₁.trans r₁.nd (.grown up rfl rfl))
      ⟨rfl, rfl, Nat.zero_le _, ⟨_, he⟩, hit⟩ ⟨fun b hb => ?_, fun b hb hm => ?_, fun g hg => by cases hg⟩
    · obtain ⟨t', xv, ⟨ch, u, hc, rfl⟩, rfl⟩ := hv
      refine ⟨.int i, .str ⟨#[ch]⟩, _, _, ?_, rfl, fun σ => ⟨rfl, rfl⟩⟩
      have h1 : (List.range z.cps.size)[i]? = some i := by simp [hi]
      have h2 : z.cps.toList[i]? = some ch := by rw [Array.getElem?_toList]; exact hc
      simp only [enumItems, List.getElem?_map]
      have h3 : ((List.range z.cps.size).zip z.cps.toList)[i]? = some (i, ch) := List.getElem?_zip_eq_some.mpr ⟨h1, h2⟩
      rw [h3]; rfl
    · obtain ⟨⟨old, q1⟩, q2⟩ := hst
      rcases List.mem_cons.mp hb with rfl | hb
      · exact ⟨_, q1⟩
      · rw [List.mem_singleton.mp hb]; obtain ⟨o, q, _⟩ := q2; exact ⟨o, q⟩
    · rcases List.mem_cons.mp hb with rfl | hb
      · exact back _ hI1
      · rw [List.mem_singleton.mp hb]; exact back _ hI
    · obtain ⟨o, q⟩ := r₁.live _ hm
      rcases List.mem_cons.mp hb with rfl | hb
      · rw [hI1] at q; cases q
      · rw [List.mem_singleton.mp hb, hI] at q; cases q
  | _ => cases e2
end Mine
end

section
set_option maxRecDepth 100000
set_option linter.unusedVariables false
open PySem PySem.W PyProof.Rows PySem.Calls
namespace Mine
variable {c : Cx} {d : Nat}

theorem At.val' {α β : Type} {σ : List Addr} {t : Sem α} {R : List Addr → β → α → Prop} {b : β}
    (h : ∀ A, Low d A → ∀ (s : Shared) (Q : α → Shared → Prop) (E : Value → Shared → Prop), (∀ tk a, R σ b a → Q a { s with toks := tk }) → wpAny (M c) A t Q E s) : At c d σ t R (F.pure b) :=
  .val fun A hA s Q E K => h A hA s Q E fun tk a r => K _ a rfl rfl rfl r

noncomputable def lists2 (i j : Nat) (k : List AV → List AV → F AV) : F AV := fun S => match S.H[i]?, S.H[j]? with
  | some (.list xs), some (.list ys) => k xs ys S
  | _, _ => none
theorem lists2_some {i j : Nat} {k : List AV → List AV → F AV} {S S' : St} {v : AV} (h : lists2 i j k S = some (v, S')) : ∃ xs ys, S.H[i]? = some (.list xs) ∧ S.H[j]? = some (.list ys) ∧ k xs ys S = some (v, S') := by
  unfold lists2 at h
  split at h
  · rename_i xs ys h1 h2; exact ⟨xs, ys, h1, h2, h⟩
  · cases h
noncomputable def list1 {β : Type} (i : Nat) (k : List AV → F β) : F β := fun S => match S.H[i]? with
  | some (.list xs) => k xs S
  | _ => none
theorem list1_some {β : Type} {i : Nat} {k : List AV → F β} {S S' : St} {v : β} (h : list1 i k S = some (v, S')) : ∃ xs, S.H[i]? = some (.list xs) ∧ k xs S = some (v, S') := by
  unfold list1 at h
  split at h
  · rename_i xs h1; exact ⟨xs, h1, h⟩
  · cases h

/-- on a condition -/
noncomputable def guardF {β : Type} (b : Bool) (f : F β) : F β := match b with
  | true => f
  | false => F.fail
theorem guardF_some {β : Type} {b : Bool} {f : F β} {S S' : St} {v : β} (h : guardF b f S = some (v, S')) : b = true ∧ f S = some (v, S') := by
  cases b
  · cases h
  · exact ⟨rfl, h⟩
theorem At.guard {α β : Type} {σ : List Addr} {t : Sem α} {R : List Addr → β → α → Prop} {b : Bool} {f : F β} (h : b = true → At c d σ t R f) : At c d σ t R (guardF b f) := by
  cases b
  · exact .fail
  · exact h rfl

noncomputable def small (n : Nat) : Bool := Nat.ble n 1048576
theorem small_le {n : Nat} (h : small n = true) : n ≤ 1048576 := Nat.le_of_ble_eq_true h
theorem small_line {n : Nat} (h : small n = true) : n ≤ sizeLine := small_fits (small_le h)

noncomputable def addF : AV → AV → F AV
  | .int a, .int b => F.pure (.int (a + b))
  | .str x, .str y => guardF (small (x.length + y.length)) (F.pure (.str (x ++ y)))
  | .ref i, .ref j => lists2 i j fun xs ys => newAt (.list (xs ++ ys))
  | _, _ => F.fail
theorem op_add : Op2 c d (binaryOp .Add) VRel addF := by
  intro σ u v a b ra rb
  cases u <;> cases v <;> try exact At.fail
  · obtain ⟨t, rfl⟩ := ra.int_inv; obtain ⟨t', rfl⟩ := rb.int_inv
    exact .val' fun A hA s Q E K => P.add_int (K _ _ rfl)
  · obtain ⟨t, rfl⟩ := ra.str_inv; obtain ⟨t', rfl⟩ := rb.str_inv
    exact .guard fun hg => .val' fun A hA s Q E K => SB.add (fun t' k => K _ _ rfl) (small_line hg)
  · obtain ⟨l, rfl, hl⟩ := ra.ref_inv; obtain ⟨l', rfl, hl'⟩ := rb.ref_inv
    intro A hA S s r b S' e Q E K
    obtain ⟨xs, ys, h1, h2, e'⟩ := lists2_some e
    obtain ⟨hs, rfl, rfl⟩ := newAt_some e'
    obtain ⟨vs, n, ho, hv⟩ := r.obj _ l _ hl h1
    obtain ⟨ws, n', ho', hw⟩ := r.obj _ l' _ hl' h2
    have hsz : vs.length + ws.length ≤ sizeLine := by rw [hv.length, hw.length]; exact small_fits (by simpa [AO.items] using hs)
    refine concat_meets ⟨_, ho, rfl⟩ ⟨_, ho', rfl⟩ noFill_list_add seq_list_add PySem.F.slot_list_add PySem.F.entry_list_add (PySem.F.args_list_add_2 _ _) (list_addW l l' vs.toArray ws.toArray n n' none none #[] #[] (by simpa using hsz)) ⟨ho, ho', ?_⟩
    have e1 : vs.toArray ++ ws.toArray = (vs ++ ws).toArray := by simp
    rw [e1]
    have := Rel.push (ob := listObj (vs ++ ws) 0) (o := .list (xs ++ ys)) (tk := s.toks) r (s' := { s with heap := s.heap.push (listObj (vs ++ ws) 0) }) rfl rfl ⟨vs ++ ws, 0, Heap.get?_push_size _ rfl, (hv.append hw).mono ⟨_, rfl⟩⟩
    refine K _ _ _ this.1 this.2 ?_
    show (σ ++ [s.heap.objs.size])[S.H.length]? = some s.heap.objs.size
    rw [← r.len]; simp
noncomputable def iaddF : AV → AV → F AV
  | .int a, .int b => F.pure (.int (a + b))
  | _, _ => F.fail
noncomputable def isubF : AV → AV → F AV
  | .int a, .int b => F.pure (.int (a - b))
  | _, _ => F.fail
theorem op_iadd : Op2 c d (inplaceOp .Add) VRel iaddF := by
  intro σ u v a b ra rb
  cases u <;> cases v <;> try exact At.fail
  obtain ⟨t, rfl⟩ := ra.int_inv; obtain ⟨t', rfl⟩ := rb.int_inv
  exact .val' fun A hA s Q E K => P.iadd_int (K _ _ rfl)
theorem op_isub : Op2 c d (inplaceOp .Sub) VRel isubF := by
  intro σ u v a b ra rb
  cases u <;> cases v <;> try exact At.fail
  obtain ⟨t, rfl⟩ := ra.int_inv; obtain ⟨t', rfl⟩ := rb.int_inv
  exact .val' fun A hA s Q E K => P.isub_int (K _ _ rfl)
noncomputable def subF : AV → AV → F AV
  | .int a, .int b => F.pure (.int (a - b))
  | _, _ => F.fail
theorem op_sub : Op2 c d (binaryOp .Sub) VRel subF := by
  intro σ u v a b ra rb
  cases u <;> cases v <;> try exact At.fail
  obtain ⟨t, rfl⟩ := ra.int_inv; obtain ⟨t', rfl⟩ := rb.int_inv
  exact .val' fun A hA s Q E K => P.sub_int (K _ _ rfl)
noncomputable def smallI (a : Int) : Bool := decide (0 < a ∧ a < 1073741824)
noncomputable def divF : AV → AV → F AV
  | .int a, .int b => guardF (smallI b) (F.pure (.int (a.fdiv b)))
  | _, _ => F.fail
theorem op_div : Op2 c d (binaryOp .FloorDiv) VRel divF := by
  intro σ u v a b ra rb
  cases u <;> cases v <;> try exact At.fail
  obtain ⟨t, rfl⟩ := ra.int_inv; obtain ⟨t', rfl⟩ := rb.int_inv
  refine .guard fun hg => .val' fun A hA s Q E K => ?_
  have h := of_decide_eq_true hg
  exact floordiv_int (by omega) (K _ _ rfl) (.inl (PyProof.noPylong_small (by omega)))
noncomputable def modF : AV → AV → F AV
  | .int a, .int b => guardF (smallI b) (F.pure (.int (a.fmod b)))
  | _, _ => F.fail
theorem op_mod : Op2 c d (binaryOp .Mod) VRel modF := by
  intro σ u v a b ra rb
  cases u <;> cases v <;> try exact At.fail
  obtain ⟨t, rfl⟩ := ra.int_inv; obtain ⟨t', rfl⟩ := rb.int_inv
  refine .guard fun hg => .val' fun A hA s Q E K => ?_
  have h := of_decide_eq_true hg
  exact mod_int' (by omega) (K _ _ rfl)
noncomputable def andF : AV → AV → F AV
  | .int a, .int b => F.pure (.int (Builtin.bitAnd a b))
  | _, _ => F.fail
theorem op_and : Op2 c d (binaryOp .BitAnd) VRel andF := by
  intro σ u v a b ra rb
  cases u <;> cases v <;> try exact At.fail
  obtain ⟨t, rfl⟩ := ra.int_inv; obtain ⟨t', rfl⟩ := rb.int_inv
  exact .val' fun A hA s Q E K => and_int (K _ _ rfl)
noncomputable def powF : AV → AV → F AV
  | .int a, .int b => guardF (decide (0 ≤ b ∧ (Builtin.Int.intBits a : Int) * b ≤ 2 ^ 27)) (F.pure (.int (a ^ b.toNat)))
  | _, _ => F.fail
theorem op_pow : Op2 c d (binaryOp .Pow) VRel powF := by
  intro σ u v a b ra rb
  cases u <;> cases v <;> try exact At.fail
  obtain ⟨t, rfl⟩ := ra.int_inv; obtain ⟨t', rfl⟩ := rb.int_inv
  refine .guard fun hg => .val' fun A hA s Q E K => ?_
  have h := of_decide_eq_true hg
  exact pow_int h.1 h.2 (K _ _ rfl)
noncomputable def negF : AV → F AV
  | .int a => F.pure (.int (-a))
  | _ => F.fail
theorem op_neg : Op1 c d (unaryOp .USub) VRel negF := by
  intro σ u a ra
  cases u <;> try exact At.fail
  obtain ⟨t, rfl⟩ := ra.int_inv
  exact .val' fun A hA s Q E K => P.neg_int (K _ _ rfl)

-- comparisons
noncomputable def ltF : AV → AV → F AV
  | .int a, .int b => F.pure (.bool (decide (a < b)))
  | _, _ => F.fail
theorem op_lt : Op2 c d (compareOp .Lt) VRel ltF := by
  intro σ u v a b ra rb
  cases u <;> cases v <;> try exact At.fail
  obtain ⟨t, rfl⟩ := ra.int_inv; obtain ⟨t', rfl⟩ := rb.int_inv
  exact .val' fun A hA s Q E K => P.lt_int (K _ _ rfl)
noncomputable def gtF : AV → AV → F AV
  | .int a, .int b => F.pure (.bool (decide (a > b)))
  | _, _ => F.fail
theorem op_gt : Op2 c d (compareOp .Gt) VRel gtF := by
  intro σ u v a b ra rb
  cases u <;> cases v <;> try exact At.fail
  obtain ⟨t, rfl⟩ := ra.int_inv; obtain ⟨t', rfl⟩ := rb.int_inv
  exact .val' fun A hA s Q E K => P.gt_int (K _ _ rfl)
noncomputable def isF : AV → AV → F AV
  | .none, .none => F.pure (.bool true)
  | .int _, .none => F.pure (.bool false)
  | .str _, .none => F.pure (.bool false)
  | .ref _, .none => F.pure (.bool false)
  | .bool _, .none => F.pure (.bool false)
  | .bool a, .bool b => F.pure (.bool (a == b))
  | _, _ => F.fail
theorem op_is : Op2 c d (compareOp .Is) VRel isF := by
  intro σ u v a b ra rb
  cases u <;> cases v <;> try exact At.fail
  · obtain rfl := ra.none_inv; obtain rfl := rb.none_inv
    exact .val' fun A hA s Q E K => is_none_gen (K _ _ rfl)
  · obtain rfl := ra.bool_inv; obtain rfl := rb.none_inv
    exact .val' fun A hA s Q E K => is_none_gen (K _ _ rfl)
  · obtain rfl := ra.bool_inv; obtain rfl := rb.bool_inv
    refine .val' fun A hA s Q E K => wpAny_is_plain rfl (K _ _ ?_)
    rename_i x y
    cases x <;> cases y <;> rfl
  · obtain ⟨t, rfl⟩ := ra.int_inv; obtain rfl := rb.none_inv
    exact .val' fun A hA s Q E K => is_none_gen (K _ _ rfl)
  · obtain ⟨t, rfl⟩ := ra.str_inv; obtain rfl := rb.none_inv
    exact .val' fun A hA s Q E K => is_none_gen (K _ _ rfl)
  · obtain ⟨t, rfl, _⟩ := ra.ref_inv; obtain rfl := rb.none_inv
    exact .val' fun A hA s Q E K => is_none_gen (K _ _ rfl)
theorem At.bool {σ : List Addr} {t : Sem Value} {b : Bool} (h : ∀ A, Low d A → ∀ (s : Shared) (Q : Value → Shared → Prop) (E : Value → Shared → Prop), Q (.bool b) s → wpAny (M c) A t Q E s) : At c d σ t VRel (F.pure (.bool b)) :=
  .val fun A hA s Q E K => h A hA s Q E (K s _ rfl rfl rfl rfl)

-- tests
noncomputable def truF : AV → F Bool
  | .bool b => F.pure b
  | .str x => guardF (small x.length) (F.pure ((x.length : Int) != 0))
  | _ => F.fail
theorem op_tru : Op1 c d truthy BRel truF := by
  intro σ u a ra
  cases u <;> try exact At.fail
  · obtain rfl := ra.bool_inv
    exact .val' fun A hA s Q E K => wpAny_truthy_bool (K _ _ rfl)
  · obtain ⟨t, rfl⟩ := ra.str_inv
    exact .guard fun hg => .val' fun A hA s Q E K => P.truthy_str (by have := small_le hg; omega) (K _ _ rfl)
-- the value of not
theorem den_notv {e : Expr} {pos : Pos} {f : F Bool} (he : Den c d (isTrue e c.env (eval e c.env)) BRel f)
    (hp : eval (.UnaryOp .Not e pos) c.env = (isTrue e c.env (eval e c.env) >>= fun b => Pure.pure (.bool !b))) : Den c d (eval (.UnaryOp .Not e pos) c.env) VRel (F.bind f fun b => F.pure (.bool !b)) := by
  refine .of_at fun σ => ?_
  rw [hp]
  exact (he.at σ).bind fun σ₁ u a p₁ ra => .pure (by cases ra; rfl)
end Mine
end

section
set_option maxRecDepth 100000
set_option linter.unusedVariables false
open PySem PySem.W PyProof.Rows PySem.Calls PySem.Spec PySem.SeqAt PyProof.V
namespace Mine
variable {c : Cx} {d : Nat}

noncomputable def notF : AV → F AV
  | .bool b => F.pure (.bool !b)
  | _ => F.fail
theorem op_not : Op1 c d (unaryOp .Not) VRel notF := by
  intro σ u a ra
  cases u <;> try exact At.fail
  obtain rfl := ra.bool_inv
  refine .congr (t' := (truthy (.bool _) >>= fun b => Pure.pure (.bool !b))) rfl ?_
  exact .val' fun A hA s Q E K => wpAny_bind (wpAny_truthy_bool (wpAny_pure (K _ _ rfl)))

-- plain data
noncomputable def flat : AV → Bool
  | .none => true
  | .bool _ => true
  | .int _ => true
  | .str x => PyData.strOk x
  | _ => false
noncomputable def pd : AV → PyData
  | .bool b => .bool b
  | .int i => .int i
  | .str x => .str x
  | _ => .none
noncomputable def alike : AV → AV → Bool
  | .bool _, .int _ => false
  | .int _, .bool _ => false
  | _, _ => true
noncomputable def alikes : List AV → List AV → Bool
  | x :: xs, y :: ys => alike x y && alikes xs ys
  | _, _ => true
theorem reads_flat {σ : List Addr} {h : Heap} : ∀ {v : AV} {a : Value}, flat v = true → VRel σ v a → Reads h a (pd v) [] := by
  intro v a hf r
  cases v <;> try (cases hf)
  · obtain rfl := r.none_inv; exact .none
  · obtain rfl := r.bool_inv; exact .bool _
  · obtain ⟨t, rfl⟩ := r.int_inv; exact .int _ _
  · obtain ⟨t, rfl⟩ := r.str_inv; exact .str _ _
theorem readsAll_flat {σ : List Addr} {h : Heap} : ∀ {vs : List AV} {as : List Value}, vs.all flat = true → VsRel σ vs as → ReadsAll h as (vs.map pd) []
  | [], [], _, _ => .nil
  | v :: vs, a :: as, hf, r => by
    rw [List.all_cons, Bool.and_eq_true] at hf
    have := ReadsAll.cons (reads_flat (h := h) hf.1 r.1) (readsAll_flat (h := h) hf.2 r.2)
    simpa using this
  | [], _ :: _, _, r => r.elim
  | _ :: _, [], _, r => r.elim
theorem reads_list {σ : List Addr} {h : Heap} {a : Addr} {xs : List AV} (hf : xs.all flat = true) (o : ObjAt σ h a (.list xs)) : Reads h (.ref a) (.list (xs.map pd)) [a] := by
  obtain ⟨vs, n, e, r⟩ := o
  exact Reads.list e rfl rfl (by simpa using readsAll_flat hf r)
theorem canLay_flat : ∀ {v : AV}, flat v = true → PyData.canLay0 (pd v) = true ∧ PyData.depth (pd v) ≤ 1 := by
  intro v hf
  cases v <;> first | cases hf | skip
  · exact ⟨rfl, by simp [pd, PyData.depth]⟩
  · exact ⟨rfl, by simp [pd, PyData.depth]⟩
  · exact ⟨rfl, by simp [pd, PyData.depth]⟩
  · exact ⟨by simp only [pd, PyData.canLay0]; exact hf, by simp [pd, PyData.depth]⟩
theorem canLayAll_flat : ∀ {vs : List AV}, vs.all flat = true → PyData.canLayAll0 (vs.map pd) = true ∧ PyData.depthAll (vs.map pd) ≤ 1
  | [], _ => ⟨by simp [PyData.canLayAll0], by simp [PyData.depthAll]⟩
  | v :: vs, hf => by
    rw [List.all_cons, Bool.and_eq_true] at hf
    have h1 := canLay_flat hf.1
    have h2 := canLayAll_flat hf.2
    refine ⟨by simp [PyData.canLayAll0, h1.1, h2.1], ?_⟩
    simp only [List.map_cons, PyData.depthAll]
    omega
theorem shaped_flat {xs : List AV} (hf : xs.all flat = true) : shaped (.list (xs.map pd)) = true := by
  have h := canLayAll_flat hf
  have h2 : PyData.depth (.list (xs.map pd)) ≤ 64 := by simp only [PyData.depth]; omega
  show (PyData.canLay0 (.list (xs.map pd)) && decide (PyData.depth (.list (xs.map pd)) ≤ 64)) = true
  rw [Bool.and_eq_true]
  exact ⟨by simp only [PyData.canLay0]; exact h.1, decide_eq_true h2⟩
theorem noMix_flat {u v : AV} (hu : flat u = true) (hv : flat v = true) (h : alike u v = true) : noMix (pd u) (pd v) = true := by
  cases u <;> first | cases hu | skip
  all_goals (cases v <;> first | cases hv | skip)
  all_goals first | (simp [pd, noMix]; done) | (simp [alike] at h; done)
theorem noMixAll_flat : ∀ {us vs : List AV}, us.all flat = true → vs.all flat = true → alikes us vs = true → noMixAll (us.map pd) (vs.map pd) = true
  | [], [], _, _, _ => by simp [noMixAll]
  | [], _ :: _, _, _, _ => by simp [noMixAll]
  | _ :: _, [], _, _, _ => by simp [noMixAll]
  | u :: us, v :: vs, hu, hv, h => by
    rw [List.all_cons, Bool.and_eq_true] at hu hv
    rw [alikes, Bool.and_eq_true] at h
    simp [noMixAll, noMix_flat hu.1 hv.1 h.1, noMixAll_flat hu.2 hv.2 h.2]
theorem same_flat {u v : AV} (hu : flat u = true) (hv : flat v = true) (h : alike u v = true) : PySem.Spec.same (pd u) (pd v) = decide (u = v) := by
  cases u <;> first | cases hu | skip
  all_goals (cases v <;> first | cases hv | skip)
  all_goals first | (simp [alike] at h; done) | skip
  all_goals simp [pd, PySem.Spec.same]
  all_goals first | (rw [Bool.eq_iff_iff]; simp; done) | skip
theorem sameAll_flat : ∀ {us vs : List AV}, us.all flat = true → vs.all flat = true → alikes us vs = true → PySem.Spec.sameAll (us.map pd) (vs.map pd) = decide (us = vs)
  | [], [], _, _, _ => by simp [PySem.Spec.sameAll]
  | [], _ :: _, _, _, _ => by simp [PySem.Spec.sameAll]
  | _ :: _, [], _, _, _ => by simp [PySem.Spec.sameAll]
  | u :: us, v :: vs, hu, hv, h => by
    rw [List.all_cons, Bool.and_eq_true] at hu hv
    rw [alikes, Bool.and_eq_true] at h
    simp only [List.map_cons, PySem.Spec.sameAll, same_flat hu.1 hv.1 h.1, sameAll_flat hu.2 hv.2 h.2]
    by_cases e : u = v <;> simp [e]

noncomputable def eqF (neg : Bool) : AV → AV → F AV
  | .int a, .int b => F.pure (.bool (neg != (a == b)))
  | .str x, .str y => F.pure (.bool (neg != (x.cps.toList == y.cps.toList)))
  | .ref i, .ref j => lists2 i j fun xs ys => guardF (xs.all flat && ys.all flat && alikes xs ys) (F.pure (.bool (neg != decide (xs = ys))))
  | _, _ => F.fail
theorem low_units {A : Around} (h : Low d A) : A.units + 64 < cLine := by have := h.units; omega
theorem op_eq : Op2 c d (compareOp .Eq) VRel (eqF false) := by
  intro σ u v a b ra rb
  cases u <;> cases v <;> try exact At.fail
  · obtain ⟨t, rfl⟩ := ra.int_inv; obtain ⟨t', rfl⟩ := rb.int_inv
    exact .val' fun A hA s Q E K => P.eq_int (K _ _ (by show (false != _) = _; simp))
  · obtain ⟨t, rfl⟩ := ra.str_inv; obtain ⟨t', rfl⟩ := rb.str_inv
    exact .val' fun A hA s Q E K => P.eq_str (K _ _ (by show (false != _) = _; simp))
  · obtain ⟨l, rfl, hl⟩ := ra.ref_inv; obtain ⟨l', rfl, hl'⟩ := rb.ref_inv
    intro A hA S s r b S' e Q E K
    obtain ⟨xs, ys, h1, h2, e'⟩ := lists2_some e
    obtain ⟨hg, e''⟩ := guardF_some e'
    cases e''
    rw [Bool.and_eq_true, Bool.and_eq_true] at hg
    refine eq_dataH_same (reads_list hg.1.1 (r.obj _ l _ hl h1)) (reads_list hg.1.2 (r.obj _ l' _ hl' h2)) (shaped_flat hg.1.1) (shaped_flat hg.1.2) (low_units hA) (by simp only [noMix]; exact noMixAll_flat hg.1.1 hg.1.2 hg.2) ?_
    simp only [PySem.Spec.same]
    rw [sameAll_flat hg.1.1 hg.1.2 hg.2]
    exact K σ s _ r (.refl ..) (by show (false != _) = _; simp)
theorem op_ne : Op2 c d (compareOp .NotEq) VRel (eqF true) := by
  intro σ u v a b ra rb
  cases u <;> cases v <;> try exact At.fail
  · obtain ⟨t, rfl⟩ := ra.int_inv; obtain ⟨t', rfl⟩ := rb.int_inv
    exact .val' fun A hA s Q E K => P.ne_int (K _ _ (by show (true != _) = _; simp [bne]))
  · obtain ⟨t, rfl⟩ := ra.str_inv; obtain ⟨t', rfl⟩ := rb.str_inv
    exact .val' fun A hA s Q E K => P.ne_str (K _ _ (by show (true != _) = _; simp [bne]))
  · obtain ⟨l, rfl, hl⟩ := ra.ref_inv; obtain ⟨l', rfl, hl'⟩ := rb.ref_inv
    intro A hA S s r b S' e Q E K
    obtain ⟨xs, ys, h1, h2, e'⟩ := lists2_some e
    obtain ⟨hg, e''⟩ := guardF_some e'
    cases e''
    rw [Bool.and_eq_true, Bool.and_eq_true] at hg
    refine ne_dataH_same (reads_list hg.1.1 (r.obj _ l _ hl h1)) (reads_list hg.1.2 (r.obj _ l' _ hl' h2)) (shaped_flat hg.1.1) (shaped_flat hg.1.2) (low_units hA) (by simp only [noMix]; exact noMixAll_flat hg.1.1 hg.1.2 hg.2) ?_
    simp only [PySem.Spec.same]
    rw [sameAll_flat hg.1.1 hg.1.2 hg.2]
    exact K σ s _ r (.refl ..) (by show (true != _) = _; simp)

noncomputable def notInF : AV → AV → F AV
  | .str y, .str x => F.pure (.bool (!Txt.contains x y))
  | _, _ => F.fail
theorem op_notIn : Op2 c d (compareOp .NotIn) VRel notInF := by
  intro σ u v a b ra rb
  cases u <;> cases v <;> try exact At.fail
  obtain ⟨t, rfl⟩ := ra.str_inv; obtain ⟨t', rfl⟩ := rb.str_inv
  exact .val' fun A hA s Q E K => SB.notContains (K _ _ rfl)

-- str * int, list * int
noncomputable def smallJ (k : Int) : Bool := decide (-1048576 ≤ k ∧ k ≤ 1048576)
noncomputable def mulF : AV → AV → F AV
  | .str x, .int n => guardF (smallJ n && small (x.length * n.toNat)) (F.pure (.str (Txt.mul x n)))
  | .ref i, .int n => list1 i fun xs => guardF (smallJ n) (newAt (.list (List.replicate n.toNat xs).flatten))
  | _, _ => F.fail
theorem foldl_append_rep {xs : Array Value} (n : Nat) : List.foldl (fun x1 x2 => x1 ++ x2) #[] (List.replicate n xs) = (List.replicate n xs.toList).flatten.toArray := by
  have key : ∀ (n : Nat) (acc : Array Value), List.foldl (fun x1 x2 => x1 ++ x2) acc (List.replicate n xs) = acc ++ (List.replicate n xs.toList).flatten.toArray := by
    intro n
    induction n with
    | zero => intro acc; simp
    | succ n ih => intro acc; rw [List.replicate_succ, List.foldl_cons, ih, List.replicate_succ, List.flatten_cons]; apply Array.ext'; simp
  simpa using key n #[]
theorem VsRel.rep {σ : List Addr} {vs : List AV} {as : List Value} (h : VsRel σ vs as) : ∀ n : Nat, VsRel σ (List.replicate n vs).flatten (List.replicate n as).flatten
  | 0 => trivial
  | n + 1 => by rw [List.replicate_succ, List.replicate_succ, List.flatten_cons, List.flatten_cons]; exact h.append (VsRel.rep h n)
theorem length_rep {α : Type} (xs : List α) (n : Nat) : (List.replicate n xs).flatten.length = xs.length * n := by
  induction n with
  | zero => rfl
  | succ n ih => rw [List.replicate_succ, List.flatten_cons, List.length_append, ih, Nat.mul_succ]; omega
theorem op_mul : Op2 c d (binaryOp .Mult) VRel mulF := by
  intro σ u v a b ra rb
  cases u <;> cases v <;> try exact At.fail
  · obtain ⟨t, rfl⟩ := ra.str_inv; obtain ⟨t', rfl⟩ := rb.int_inv
    rename_i x n
    refine .guard fun hg => .val' fun A hA s Q E K => ?_
    rw [Bool.and_eq_true] at hg
    have h1 := of_decide_eq_true hg.1
    have h2 := small_le hg.2
    refine SB.mul ⟨by simp; omega, fun hn hx => ?_, fun hn hx => ?_⟩ (fun t' k => K _ _ rfl)
    · have hx' : x.length ≤ 1048576 := by
        have : x.length * 1 ≤ x.length * n.toNat := Nat.mul_le_mul_left _ (by omega)
        omega
      have hq : (2 ^ 63 - 1 : Int) / 1048576 ≤ (2 ^ 63 - 1 : Int) / n := by
        refine Int.le_ediv_of_mul_le (by omega) ?_
        have : (2 ^ 63 - 1 : Int) / 1048576 * n ≤ (2 ^ 63 - 1 : Int) / 1048576 * 1048576 := Int.mul_le_mul_of_nonneg_left (by omega) (by decide)
        have h3 : (2 ^ 63 - 1 : Int) / 1048576 * 1048576 ≤ 2 ^ 63 - 1 := by decide
        omega
      have hq2 : (8796093022207 : Int) = (2 ^ 63 - 1 : Int) / 1048576 := by decide
      rw [← hq2] at hq
      omega
    · have h3 := sizeLine_eq
      simp [Builtin.Str.tooLong, sizeLine]
      omega
  · obtain ⟨l, rfl, hl⟩ := ra.ref_inv; obtain ⟨t', rfl⟩ := rb.int_inv
    rename_i n
    intro A hA S s r b S' e Q E K
    obtain ⟨xs, h1, e'⟩ := list1_some e
    obtain ⟨hg, e''⟩ := guardF_some e'
    obtain ⟨hs, rfl, rfl⟩ := newAt_some e''
    have hn := of_decide_eq_true hg
    obtain ⟨vs, k, ho, hv⟩ := r.obj _ l _ hl h1
    have hlen : vs.length * n.toNat ≤ 1048576 := by
      have : (List.replicate n.toNat xs).flatten.length ≤ 1048576 := hs
      rw [length_rep] at this; rw [hv.length]; exact this
    refine wpAny_binaryOp_repeat_ref (T := "list") (U := "int") (by decide) ⟨_, ho, rfl⟩ (fun s' => typeIs_int s' n t') noFill_list_mul PySem.F.fills_int_mul PySem.F.slot_int_rmul repeat_list PySem.F.slot_int_index.lookup
      (call_meets PySem.F.slot_int_rmul (typeIs_int s n t') PySem.F.entry_int_rmul (PySem.F.args_int_rmul_2 _ _) (int___rmul___int_list n t' l vs.toArray k)
      ⟨ho, rfl, ⟨_, ho, rfl⟩, call_meets PySem.F.slot_list_mul ⟨_, ho, rfl⟩ PySem.F.entry_list_mul (PySem.F.args_list_mul_2 _ _)
        (AutoListH.list___mul___list_int_3 l vs.toArray k n t' (by simp [Builtin.List.listFitsIndex]; omega) (by simp; omega) (by simp [Builtin.List.listTooLong, sizeLine]; omega))
        ⟨ho, ?_⟩⟩)
    have e1 : (List.foldl (fun x1 x2 => x1 ++ x2) #[] (List.replicate (if vs.toArray.isEmpty = true then 0 else n.toNat) vs.toArray)) = (List.replicate n.toNat vs).flatten.toArray := by
      by_cases hz : vs = []
      · subst hz
        simp
      · rw [if_neg (by simpa using hz), foldl_append_rep]
    rw [e1]
    have := Rel.push (ob := listObj (List.replicate n.toNat vs).flatten 0) (o := .list (List.replicate n.toNat xs).flatten) (tk := s.toks) r (s' := { s with heap := s.heap.push (listObj (List.replicate n.toNat vs).flatten 0) }) rfl rfl ⟨_, 0, Heap.get?_push_size _ rfl, (hv.rep _).mono ⟨_, rfl⟩⟩
    refine K _ _ _ this.1 this.2 ?_
    show (σ ++ [s.heap.objs.size])[S.H.length]? = some s.heap.objs.size
    rw [← r.len]; simp
end Mine
end

section
set_option maxRecDepth 100000
set_option linter.unusedVariables false
open PySem PySem.W PyProof.Rows PySem.Calls
namespace Mine
variable {c : Cx} {d : Nat}

-- subscripts
theorem wp_subTail {A : Around} {Q : Value → Shared → Prop} {E : Value → Shared → Prop} {s : Shared} {value slice : Expr} {o i : Value} {T id : String} {vs : List Value} (hT : s.TypeIs o T)
    (hl : typeLookup (.type T) "__getitem__" = pure (some (.builtin id))) (h : wpAny (M c) A (getItem o i) Q E s)
    (hs : subscripted slice false o i = operate vs (getItem o i)) : wpAny (M c) A (subscriptTail value slice o i) Q E s := by
  unfold subscriptTail
  refine wpAny_bind ?_
  rw [getitemInPython_of_ne hT.not_modules]
  refine wpAny_bind (wpAny_specialOf hT hl ?_)
  have fin : wpAny (M c) A (subscripted slice false o i) (fun r s₃ => wpAny (M c) A (letTemporaryGo value o r >>= fun _ => pure r) Q E s₃) E s := by
    rw [hs]
    exact wpAny_operating (wpAny_mono h (fun r s₃ h₃ => wpAny_bind (wpAny_letTemporaryGo (wpAny_pure h₃))) fun _ _ x => x)
  first
    | exact wpAny_pure (wpAny_bind fin)
    | exact wpAny_bind (wpAny_pure (wpAny_bind fin))
    | exact wpAny_bind fin

noncomputable def pick {α : Type} (xs : List α) (k : Int) : Option α := if 0 ≤ k then xs[k.toNat]? else if -(xs.length : Int) ≤ k then xs[(k + xs.length).toNat]? else none
noncomputable def itemF : AV → AV → F AV
  | .ref i, .int k => list1 i fun xs => guardF (smallJ k) (match pick xs k with
    | some v => F.pure v
    | none => F.fail)
  | .str x, .int k => guardF (smallJ k && (Txt.charAt x k).isSome) (F.pure (.str (Txt.item x k)))
  | _, _ => F.fail

theorem fits_of {i : Int} (h1 : -(2 ^ 63) ≤ i) (h2 : i < 2 ^ 63) : fitsSsize i = true := by
  show (!(decide (i < -(2 ^ 63 : Int)) || decide (i ≥ 2 ^ 63))) = true
  rw [decide_eq_false (by omega), decide_eq_false (by omega)]; rfl
theorem den_item {value slice : Expr} {pos : Pos} {fv fi : F AV} (hv : Den c d (eval value c.env) VRel fv) (hi : Den c d (eval slice c.env) VRel fi) (hs : ∀ o i, subscripted slice false o i = operate [o, i] (getItem o i)) :
    Den c d (eval (.Subscript value slice pos) c.env) VRel (F.bind fv fun o => F.bind fi fun i => itemF o i) := by
  refine ⟨fun A hA σ S s r b S' e Q E K => ?_⟩
  obtain ⟨u, S₁, e1, e2⟩ := bind_some e
  obtain ⟨v, S₂, e3, e4⟩ := bind_some e2
  refine Subscript_ (hv.run A hA σ S s r u S₁ e1 _ E fun σ₁ s₁ o r₁ x₁ y₁ => hi.run A hA σ₁ S₁ s₁ r₁ v S₂ e3 _ E fun σ₂ s₂ i r₂ x₂ y₂ => ?_)
  have y₁' := y₁.mono x₂.pre
  have x₀₂ := x₁.trans r₁.nd x₂
  cases u <;> cases v <;> try (cases e4)
  · obtain ⟨t, rfl⟩ := y₁'.str_inv; obtain ⟨t', rfl⟩ := y₂.int_inv
    obtain ⟨hg, e5⟩ := guardF_some e4
    cases e5
    rw [Bool.and_eq_true] at hg
    have hk := of_decide_eq_true hg.1
    exact wp_subTail (typeIs_str _ _ _) PySem.F.slot_str_getitem.lookup (SB.getItem (fits_of (by omega) (by omega)) hg.2 (K σ₂ _ _ (r₂.of_same rfl) (x₀₂.trans r₂.nd (.of_same rfl rfl rfl)) rfl)) (hs _ _)
  · obtain ⟨l, rfl, hl⟩ := y₁'.ref_inv; obtain ⟨t', rfl⟩ := y₂.int_inv
    rename_i j k
    obtain ⟨xs, h1, e5⟩ := list1_some e4
    obtain ⟨hg, e6⟩ := guardF_some e5
    have hk := of_decide_eq_true hg
    obtain ⟨vs, n, ho, hvs⟩ := r₂.obj _ l _ hl h1
    have hil : s₂.heap.IsList l vs.toArray := ⟨_, ho, rfl, n, rfl⟩
    refine wp_subTail (T := "list") ⟨_, ho, rfl⟩ slot_list_getitem.lookup ?_ (hs _ _)
    cases hp : pick xs k with
    | none => rw [hp] at e6; cases e6
    | some v =>
      rw [hp] at e6
      cases e6
      unfold pick at hp
      split at hp
      · rename_i h0
        obtain ⟨a, ha, hr⟩ := hvs.get hp
        exact wpAny_getItem_list hil h0 (by omega) (by simpa using ha) (K σ₂ s₂ a r₂ x₀₂ hr)
      · rename_i h0
        split at hp
        · rename_i h2
          obtain ⟨a, ha, hr⟩ := hvs.get hp
          exact wpAny_getItem_list_neg hil (by omega) (by simp [hvs.length]; omega) (by omega) (by simpa [hvs.length] using ha) (K σ₂ s₂ a r₂ x₀₂ hr)
        · cases hp

noncomputable def part? : AV → Option (Option Int)
  | .none => some none
  | .int i => some (some i)
  | _ => none
theorem isPart_of {σ : List Addr} {v : AV} {a : Value} {p : Option Int} (h : part? v = some p) (r : VRel σ v a) : IsPart a p := by
  cases v <;> try (cases h)
  · obtain rfl := r.none_inv; exact .none
  · obtain ⟨t, rfl⟩ := r.int_inv; exact .int _ _
noncomputable def sliceL (xs : List AV) (lo hi : Option Int) : List AV := (sliceRange (sliceBounds lo hi none xs.length).1 (sliceBounds lo hi none xs.length).2.1 (sliceBounds lo hi none xs.length).2.2).filterMap (xs[·]?)
theorem VsRel.pickAll {σ : List Addr} {vs : List AV} {as : List Value} (h : VsRel σ vs as) : ∀ ks : List Nat, VsRel σ (ks.filterMap (vs[·]?)) (ks.filterMap (as[·]?))
  | [] => trivial
  | k :: ks => by
    cases hv : vs[k]? with
    | none =>
      have ha : as[k]? = none := by
        have := List.getElem?_eq_none_iff.mp hv
        exact List.getElem?_eq_none_iff.mpr (by rw [h.length]; exact this)
      simp only [List.filterMap_cons, hv, ha]
      exact VsRel.pickAll h ks
    | some v =>
      obtain ⟨a, ha, hr⟩ := h.get hv
      simp only [List.filterMap_cons, hv, ha]
      exact ⟨hr, VsRel.pickAll h ks⟩
noncomputable def sliceF (o l h : AV) : F AV := match part? l, part? h with
  | some lo, some hi => match o with
    | .ref i => list1 i fun xs => guardF (small xs.length) (newAt (.list (sliceL xs lo hi)))
    | .str x => guardF (small x.length) (F.pure (.str (Txt.slice x lo hi)))
    | _ => F.fail
  | _, _ => F.fail
theorem sliceStr {A : Around} {s : Shared} {x : Str} {t : Tok} {vl vh : Value} {lo hi : Option Int} {Q : Value → Shared → Prop} {E : Value → Shared → Prop} (pl : IsPart vl lo) (ph : IsPart vh hi) (hsz : x.length ≤ sizeLine)
    (h : ∀ t' k, Q (.str (Txt.slice x lo hi) t') { s with heap := s.heap.push { cls := .type "slice", data := .fields #[vl, vh, .none] }, toks := k }) :
    wpAny (M c) A (getItem (.str x t) (.ref s.heap.objs.size)) Q E { s with heap := s.heap.push { cls := .type "slice", data := .fields #[vl, vh, .none] } } := by
  cases pl with
  | none =>
    cases ph with
    | none => exact wpAny_getItem_str_slice (l := none) (u := none) (st := none) ⟨_, Heap.get?_push_size _ rfl, rfl, rfl⟩ rfl (post_val_or_str ⟨Nat.le_trans (Txt.slice_le x _ _) hsz, fun t' k => h t' k⟩)
    | int j u => exact wpAny_getItem_str_slice (l := none) (u := some (j, u)) (st := none) ⟨_, Heap.get?_push_size _ rfl, rfl, rfl⟩ rfl (post_val_or_str ⟨Nat.le_trans (Txt.slice_le x _ _) hsz, fun t' k => h t' k⟩)
  | int i ui =>
    cases ph with
    | none => exact wpAny_getItem_str_slice (l := some (i, ui)) (u := none) (st := none) ⟨_, Heap.get?_push_size _ rfl, rfl, rfl⟩ rfl (post_val_or_str ⟨Nat.le_trans (Txt.slice_le x _ _) hsz, fun t' k => h t' k⟩)
    | int j u => exact wpAny_getItem_str_slice (l := some (i, ui)) (u := some (j, u)) (st := none) ⟨_, Heap.get?_push_size _ rfl, rfl, rfl⟩ rfl (post_val_or_str ⟨Nat.le_trans (Txt.slice_le x _ _) hsz, fun t' k => h t' k⟩)

theorem part_none : Den c d (evalPart none c.env) VRel (F.pure .none) := .of_at fun σ => .pure trivial
theorem part_some {e : Expr} {f : F AV} (h : Den c d (eval e c.env) VRel f) : Den c d (evalPart (some e) c.env) VRel f := h

theorem den_slice {value : Expr} {lo hi : Option Expr} {p pos : Pos} {fv fl fh : F AV} (hv : Den c d (eval value c.env) VRel fv) (hl : Den c d (evalPart lo c.env) VRel fl) (hh : Den c d (evalPart hi c.env) VRel fh) :
    Den c d (eval (.Subscript value (.Slice lo hi none p) pos) c.env) VRel (F.bind fv fun o => F.bind fl fun l => F.bind fh fun h => sliceF o l h) := by
  refine ⟨fun A hA σ S s r b S' e Q E K => ?_⟩
  obtain ⟨u, S₁, e1, e2⟩ := bind_some e
  obtain ⟨v, S₂, e3, e4⟩ := bind_some e2
  obtain ⟨w, S₃, e5, e6⟩ := bind_some e4
  refine Subscript_ (hv.run A hA σ S s r u S₁ e1 _ E fun σ₁ s₁ o r₁ x₁ y₁ => wpAny_Slice (hl.run A hA σ₁ S₁ s₁ r₁ v S₂ e3 _ E fun σ₂ s₂ vl r₂ x₂ y₂ => hh.run A hA σ₂ S₂ s₂ r₂ w S₃ e5 _ E fun σ₃ s₃ vh r₃ x₃ y₃ => wpAny_pure ?_))
  have y₁' := (y₁.mono x₂.pre).mono x₃.pre
  have y₂' := y₂.mono x₃.pre
  have x₀₃ := x₁.trans r₁.nd (x₂.trans r₂.nd x₃)
  unfold sliceF at e6
  cases hplo : part? v with
  | none => rw [hplo] at e6; cases e6
  | some plo =>
   cases hphi : part? w with
   | none => rw [hplo, hphi] at e6; cases e6
   | some phi =>
    rw [hplo, hphi] at e6
    dsimp only at e6
    have pl := isPart_of hplo y₂'
    have ph := isPart_of hphi y₃
    have up : ∀ b o, s₃.heap.get? b = some o → (s₃.heap.push { cls := .type "slice", data := .fields #[vl, vh, .none] }).get? b = some o := fun b o e => Heap.get?_push_of_some _ e
    cases u with
    | str x =>
      obtain ⟨t, rfl⟩ := y₁'.str_inv
      obtain ⟨hg, e7⟩ := guardF_some e6
      cases e7
      refine wp_subTail (vs := [_, _]) (typeIs_str _ _ _) PySem.F.slot_str_getitem.lookup (sliceStr pl ph (small_line hg) fun t' k => ?_) rfl
      exact K σ₃ _ _ (r₃.grown up) (x₀₃.trans r₃.nd (.grown up rfl rfl)) rfl
    | ref i =>
      obtain ⟨l, rfl, hl'⟩ := y₁'.ref_inv
      obtain ⟨xs, h1, e7⟩ := list1_some e6
      obtain ⟨hg, e8⟩ := guardF_some e7
      obtain ⟨hs, rfl, rfl⟩ := newAt_some e8
      obtain ⟨vs, n, ho, hvs⟩ := r₃.obj _ l _ hl' h1
      have r₄ : Rel c σ₃ S₃ { s₃ with heap := s₃.heap.push { cls := .type "slice", data := .fields #[vl, vh, .none] } } := r₃.grown up
      have x₄ : Ext c σ s σ₃ { s₃ with heap := s₃.heap.push { cls := .type "slice", data := .fields #[vl, vh, .none] } } := x₀₃.trans r₃.nd (.grown up rfl rfl)
      have hil : (s₃.heap.push { cls := .type "slice", data := .fields #[vl, vh, .none] }).IsList l vs.toArray := ⟨_, up _ _ ho, rfl, n, rfl⟩
      refine wp_subTail (vs := [_, _]) (T := "list") ⟨_, up _ _ ho, rfl⟩ slot_list_getitem.lookup (wpAny_getItem_list_slice hil (.new ..) pl ph .none (by simp) ?_ (by simp [hvs.length]; exact small_line hg)) rfl
      have e9 : slicePick vs.toArray plo phi none = ((sliceRange (sliceBounds plo phi none xs.length).1 (sliceBounds plo phi none xs.length).2.1 (sliceBounds plo phi none xs.length).2.2).filterMap (vs[·]?)).toArray := by
        unfold slicePick
        simp [hvs.length]
      rw [e9]
      have hv' := hvs.pickAll (sliceRange (sliceBounds plo phi none xs.length).1 (sliceBounds plo phi none xs.length).2.1 (sliceBounds plo phi none xs.length).2.2)
      generalize (sliceRange (sliceBounds plo phi none xs.length).1 (sliceBounds plo phi none xs.length).2.1 (sliceBounds plo phi none xs.length).2.2).filterMap (vs[·]?) = ws at hv' ⊢
      have := Rel.push (ob := listObj ws 0) (o := .list (sliceL xs plo phi)) (tk := s₃.toks) r₄ (s' := { s₃ with heap := (s₃.heap.push { cls := .type "slice", data := .fields #[vl, vh, .none] }).push (listObj ws 0) }) rfl rfl ⟨ws, 0, Heap.get?_push_size _ rfl, hv'.mono ⟨_, rfl⟩⟩
      refine K _ _ _ this.1 (x₄.trans r₄.nd this.2) ?_
      show (σ₃ ++ [_])[S₃.H.length]? = some _
      rw [← r₃.len]; simp
    | _ => cases e6

-- calls of built-in functions
noncomputable def lenF : List AV → F AV
  | [.str x] => guardF (small x.length) (F.pure (.int x.length))
  | [.ref i] => list1 i fun xs => guardF (small xs.length) (F.pure (.int xs.length))
  | _ => F.fail
theorem op_len : OpL c d (fun as => call (.builtin "len") as) VRel lenF := by
  intro σ us as hv
  unfold lenF
  split
  · rename_i x
    obtain ⟨a, as', rfl, ha, h2⟩ := hv.cons_inv
    obtain rfl := h2.nil_inv
    obtain ⟨t, rfl⟩ := ha.str_inv
    show At c d σ (call (.builtin "len") [_]) VRel _
    exact .guard fun hg => .val' fun A hA s Q E K => P.len_str (by have := small_le hg; omega) (K _ _ rfl)
  · rename_i i
    obtain ⟨a, as', rfl, ha, h2⟩ := hv.cons_inv
    obtain rfl := h2.nil_inv
    obtain ⟨l, rfl, hl⟩ := ha.ref_inv
    show At c d σ (call (.builtin "len") [_]) VRel _
    intro A hA S s r b S' e Q E K
    obtain ⟨xs, h1, e'⟩ := list1_some e
    obtain ⟨hg, e''⟩ := guardF_some e'
    cases e''
    obtain ⟨vs, n, ho, hvs⟩ := r.obj _ l _ hl h1
    refine len_list (items := vs.toArray) ⟨_, ho, rfl, n, rfl⟩ (by have := small_le hg; simp [hvs.length]; omega) ?_
    exact K σ _ _ (r.of_same rfl) (.of_same rfl rfl rfl) (by show (xs.length : Int) = _; simp [hvs.length])
  · exact .fail

noncomputable def ints? : List AV → Option (List Int)
  | [] => some []
  | .int i :: r => (ints? r).map (i :: ·)
  | _ => none
theorem intsAre {σ : List Addr} : ∀ {vs : List AV} {as : List Value} {ns : List Int}, ints? vs = some ns → VsRel σ vs as → IntsAre as ns
  | [], as, ns, e, h => by obtain rfl := h.nil_inv; cases e; exact .nil
  | v :: vs, as, ns, e, h => by
    obtain ⟨a, as', rfl, h1, h2⟩ := h.cons_inv
    cases v <;> try (cases e)
    obtain ⟨t, rfl⟩ := h1.int_inv
    unfold ints? at e
    cases h3 : ints? vs with
    | none => rw [h3] at e; cases e
    | some r => rw [h3] at e; cases e; exact .cons _ _ (intsAre h3 h2)
noncomputable def strs? : List AV → Option (List Str)
  | [] => some []
  | .str i :: r => (strs? r).map (i :: ·)
  | _ => none
theorem strsAre {σ : List Addr} : ∀ {vs : List AV} {as : List Value} {ns : List Str}, strs? vs = some ns → VsRel σ vs as → StrsAre as ns
  | [], as, ns, e, h => by obtain rfl := h.nil_inv; cases e; exact .nil
  | v :: vs, as, ns, e, h => by
    obtain ⟨a, as', rfl, h1, h2⟩ := h.cons_inv
    cases v <;> try (cases e)
    obtain ⟨t, rfl⟩ := h1.str_inv
    unfold strs? at e
    cases h3 : strs? vs with
    | none => rw [h3] at e; cases e
    | some r => rw [h3] at e; cases e; exact .cons _ _ (strsAre h3 h2)
/-- on the ints of a list -/
noncomputable def intsF (i : Nat) (k : List Int → F AV) : F AV := list1 i fun xs => match ints? xs with
  | some ns => k ns
  | none => F.fail
theorem intsF_some {i : Nat} {k : List Int → F AV} {S S' : St} {v : AV} (h : intsF i k S = some (v, S')) : ∃ xs ns, S.H[i]? = some (.list xs) ∧ ints? xs = some ns ∧ k ns S = some (v, S') := by
  obtain ⟨xs, h1, e⟩ := list1_some h
  cases h2 : ints? xs with
  | none => rw [h2] at e; cases e
  | some ns => rw [h2] at e; exact ⟨xs, ns, h1, h2, e⟩
noncomputable def sumF : List AV → F AV
  | [.ref i] => intsF i fun ns => F.pure (.int ns.sum)
  | _ => F.fail
theorem op_sum : OpL c d (fun as => call (.builtin "sum") as) VRel sumF := by
  intro σ us as hv
  unfold sumF
  split
  · rename_i i
    obtain ⟨a, as', rfl, ha, h2⟩ := hv.cons_inv
    obtain rfl := h2.nil_inv
    obtain ⟨l, rfl, hl⟩ := ha.ref_inv
    show At c d σ (call (.builtin "sum") [_]) VRel _
    intro A hA S s r b S' e Q E K
    obtain ⟨xs, ns, h1, h2, e'⟩ := intsF_some e
    cases e'
    obtain ⟨vs, n, ho, hvs⟩ := r.obj _ l _ hl h1
    have hi := intsAre h2 hvs
    obtain ⟨zs, hx⟩ := hi.allInts.items
    have hl' : s.heap.IsList l (intItems zs) := hx ▸ (⟨_, ho, rfl, n, rfl⟩ : s.heap.IsList l vs.toArray)
    refine sum_intListG hA.handled hl' fun h' tk t' hk => ?_
    refine K σ _ _ (r.grown hk) (.grown hk rfl rfl) ?_
    show ns.sum = _
    have e1 : ns = zs.toList.map (·.1) := by
      rw [← nums_intItems, ← hx]
      exact (show numsOf vs.toArray.toList = ns from hi.numsOf).symm
    rw [preSum_eq, List.take_of_length_le (by simp), e1]
  · exact .fail
noncomputable def maxI : List Int → Int
  | [] => 0
  | [a] => a
  | a :: r => max a (maxI r)
theorem maxI_eq : ∀ {ns : List Int} {m : Int}, m ∈ ns → (∀ a ∈ ns, a ≤ m) → m = maxI ns
  | [], m, h, _ => by cases h
  | [a], m, h, _ => by rcases List.mem_singleton.mp h; rfl
  | a :: b :: r, m, h, k => by
    show m = max a (maxI (b :: r))
    by_cases hm : m ∈ b :: r
    · have := maxI_eq hm fun x hx => k x (.tail _ hx)
      have := k a (.head _)
      omega
    · have ha : m = a := by
        rcases List.mem_cons.mp h with q | q
        · exact q
        · exact absurd q hm
      subst ha
      -- the top of the rest is in it
      have : ∀ (l : List Int), l ≠ [] → maxI l ∈ l := by
        intro l
        induction l with
        | nil => intro h; exact absurd rfl h
        | cons x l ih =>
          intro _
          cases l with
          | nil => exact .head _
          | cons y l =>
            show max x (maxI (y :: l)) ∈ x :: y :: l
            rcases Int.le_total x (maxI (y :: l)) with q | q
            · rw [Int.max_eq_right q]; exact .tail _ (ih (by simp))
            · rw [Int.max_eq_left q]; exact .head _
      have := k _ (.tail _ (this (b :: r) (by simp)))
      omega
noncomputable def maxF : List AV → F AV
  | [.ref i] => intsF i fun ns => guardF (!ns.isEmpty) (F.pure (.int (maxI ns)))
  | _ => F.fail
theorem op_max : OpL c d (fun as => call (.builtin "max") as) VRel maxF := by
  intro σ us as hv
  unfold maxF
  split
  · rename_i i
    obtain ⟨a, as', rfl, ha, h2⟩ := hv.cons_inv
    obtain rfl := h2.nil_inv
    obtain ⟨l, rfl, hl⟩ := ha.ref_inv
    show At c d σ (call (.builtin "max") [_]) VRel _
    intro A hA S s r b S' e Q E K
    obtain ⟨xs, ns, h1, h2, e'⟩ := intsF_some e
    obtain ⟨hg, e''⟩ := guardF_some e'
    cases e''
    obtain ⟨vs, n, ho, hvs⟩ := r.obj _ l _ hl h1
    have hi := intsAre h2 hvs
    obtain ⟨zs, hx⟩ := hi.allInts.items
    have hl' : s.heap.IsList l (intItems zs) := hx ▸ (⟨_, ho, rfl, n, rfl⟩ : s.heap.IsList l vs.toArray)
    have e1 : ns = zs.toList.map (·.1) := by
      rw [← nums_intItems, ← hx]
      exact (show numsOf vs.toArray.toList = ns from hi.numsOf).symm
    have hsz : 0 < zs.size := by
      have : ns ≠ [] := by intro q; rw [q] at hg; cases hg
      rw [e1] at this
      rcases Nat.eq_zero_or_pos zs.size with q | q
      · exact absurd (by simp [Array.eq_empty_of_size_eq_zero q]) this
      · exact q
    refine max_intList hA.handled hl' hsz fun v h' tk hv hk => ?_
    obtain ⟨t, rfl⟩ := intItems_at hv
    obtain ⟨q1, q2⟩ := argBest_gt (numAt zs) (zs.size - 1)
    refine K σ _ _ (r.grown hk) (.grown hk rfl rfl) ?_
    refine (maxI_eq ?_ fun a ha => ?_).symm
    · rw [e1, numAt_eq]; exact getD_mem (by rw [List.length_map, Array.length_toList]; omega)
    · rw [e1] at ha
      obtain ⟨j, hj, rfl⟩ := mem_getD ha
      rw [List.length_map, Array.length_toList] at hj
      rw [← numAt_eq]; exact q2 j (by omega)
  · exact .fail
noncomputable def chrF : List AV → F AV
  | [.int i] => guardF (decide (0 ≤ i ∧ i ≤ 0x10FFFF)) (F.pure (.str ⟨#[i.toNat]⟩))
  | _ => F.fail
theorem op_chr : OpL c d (fun as => call (.builtin "chr") as) VRel chrF := by
  intro σ us as hv
  unfold chrF
  split
  · rename_i i
    obtain ⟨a, as', rfl, ha, h2⟩ := hv.cons_inv
    obtain rfl := h2.nil_inv
    obtain ⟨t, rfl⟩ := ha.int_inv
    show At c d σ (call (.builtin "chr") [_]) VRel _
    refine .guard fun hg => .val' fun A hA s Q E K => P.chr_of_int ?_ (K _ _ rfl)
    have := of_decide_eq_true hg
    simp; omega
  · exact .fail
noncomputable def ordF : List AV → F AV
  | [.str x] => match x.cps.toList with
    | [ch] => F.pure (.int ch)
    | _ => F.fail
  | _ => F.fail
theorem op_ord : OpL c d (fun as => call (.builtin "ord") as) VRel ordF := by
  intro σ us as hv
  unfold ordF
  split
  · rename_i x
    obtain ⟨a, as', rfl, ha, h2⟩ := hv.cons_inv
    obtain rfl := h2.nil_inv
    obtain ⟨t, rfl⟩ := ha.str_inv
    show At c d σ (call (.builtin "ord") [_]) VRel _
    split
    · rename_i ch hx
      have : x = ⟨#[ch]⟩ := by cases x with | mk cps => cases cps with | mk l => simp at hx; subst hx; rfl
      subst this
      exact .val' fun A hA s Q E K => P.ord_of_char (K _ _ rfl)
    · exact .fail
  · exact .fail
end Mine
end

section
set_option maxRecDepth 100000
set_option linter.unusedVariables false
open PySem PySem.W PyProof.Rows PySem.Calls PySem.SeqAt
namespace Mine
variable {c : Cx} {d : Nat}

theorem mapSeq_listObj (f : Array Value → Array Value) (vs : List Value) (n : Nat) : ∃ n', Obj.mapSeq f (listObj vs n) = listObj (f vs.toArray).toList n' := by
  obtain ⟨n', hn'⟩ := Obj.data_mapSeq (o := listObj vs n) (xs := vs.toArray) (n := n) rfl f
  refine ⟨n', ?_⟩
  have hc := Obj.cls_mapSeq (f := f) (o := listObj vs n)
  have hdi : (Obj.mapSeq f (listObj vs n)).dict = none := rfl
  have hsl : (Obj.mapSeq f (listObj vs n)).slots = #[] := rfl
  generalize Obj.mapSeq f (listObj vs n) = oo at hn' hc hdi hsl
  obtain ⟨o1, o2, o3, o4⟩ := oo
  dsimp only at hn' hc hdi hsl
  subst hn' hc hdi hsl
  simp [listObj]

/-- a list of the datum heap is turned -/
theorem Rel.turn {σ : List Addr} {S : St} {s : Shared} {i : Nat} {a : Addr} {vs : List Value} {n : Nat} {xs : List AV} (r : Rel c σ S s) (hi : σ[i]? = some a) (h1 : c.fz ≤ i) (ho : s.heap.get? a = some (listObj vs n)) (f : Array Value → Array Value)
    (hx : VsRel σ xs (f vs.toArray).toList) (tk : Nat) : Rel c σ { S with H := S.H.set i (.list xs) } { s with heap := s.heap.update a (Obj.mapSeq f), toks := tk } ∧ Ext c σ s σ { s with heap := s.heap.update a (Obj.mapSeq f), toks := tk } := by
  obtain ⟨n', hn'⟩ := mapSeq_listObj f vs n
  have hget := Heap.get?_update_self (h := s.heap) (Obj.mapSeq f) ho (by rw [hn']; rfl)
  rw [hn'] at hget
  exact Rel.update (s' := { s with heap := s.heap.update a (Obj.mapSeq f), toks := tk }) r hi h1 (Heap.SameBut.update ..) rfl rfl ⟨_, n', hget, hx⟩

noncomputable def setList (i : Nat) (xs : List AV) (v : AV) : F AV := fun S => match Nat.ble S.z i with
  | true => some (v, { S with H := S.H.set i (.list xs) })
  | false => none
theorem setList_some {i : Nat} {xs : List AV} {v b : AV} {S S' : St} (h : setList i xs v S = some (b, S')) : S.z ≤ i ∧ b = v ∧ S' = { S with H := S.H.set i (.list xs) } := by
  unfold setList at h
  cases h1 : Nat.ble S.z i with
  | false => rw [h1] at h; cases h
  | true => rw [h1] at h; cases h; exact ⟨Nat.le_of_ble_eq_true h1, rfl, rfl⟩

noncomputable def appendM : AV → List AV → F AV
  | .ref i, [v] => list1 i fun xs => guardF (small xs.length) (setList i (xs ++ [v]) .none)
  | _, _ => F.fail
theorem op_append : ∀ σ u a us as, VRel σ u a → VsRel σ us as → At c d σ (call (.builtin "list.append") (a :: as)) VRel (appendM u us) := by
  intro σ u a us as ra hv
  unfold appendM
  split
  · rename_i i v
    obtain ⟨x, as', rfl, hx, h2⟩ := hv.cons_inv
    obtain rfl := h2.nil_inv
    obtain ⟨l, rfl, hl⟩ := ra.ref_inv
    intro A hA S s r b S' e Q E K
    obtain ⟨xs, h1, e'⟩ := list1_some e
    obtain ⟨hg, e''⟩ := guardF_some e'
    obtain ⟨hi, rfl, rfl⟩ := setList_some e''
    have e3 : appendF i v S = some ((), { S with H := S.H.set i (.list (xs ++ [v])) }) := by
      unfold appendF
      rw [h1]
      have : Nat.ble S.z i = true := Nat.ble_eq_true_of_le hi
      have h4 : Nat.ble xs.length 1048576 = true := hg
      dsimp only
      rw [this, h4]
    exact wp_append r hl hx e3 fun s' r' x' => K σ s' _ r' x' trivial
  · exact .fail
noncomputable def popM : AV → F AV
  | .ref i => list1 i fun xs => guardF (small xs.length) (match xs[xs.length - 1]? with
    | some v => setList i (xs.eraseIdx (xs.length - 1)) v
    | none => F.fail)
  | _ => F.fail
theorem VsRel.eraseIdx {σ : List Addr} : ∀ {vs : List AV} {as : List Value}, VsRel σ vs as → ∀ k, VsRel σ (vs.eraseIdx k) (as.eraseIdx k)
  | [], [], _, _ => by simp [VsRel]
  | _ :: _, _ :: _, h, 0 => h.2
  | _ :: _, _ :: _, h, k + 1 => ⟨h.1, VsRel.eraseIdx h.2 k⟩
  | [], _ :: _, h, _ => h.elim
  | _ :: _, [], h, _ => h.elim
theorem op_pop : ∀ σ u a, VRel σ u a → At c d σ (call (.builtin "list.pop") [a]) VRel (popM u) := by
  intro σ u a ra
  cases u <;> try exact At.fail
  rename_i i
  obtain ⟨l, rfl, hl⟩ := ra.ref_inv
  intro A hA S s r b S' e Q E K
  obtain ⟨xs, h1, e'⟩ := list1_some e
  obtain ⟨hg, e''⟩ := guardF_some e'
  cases hx : xs[xs.length - 1]? with
  | none => rw [hx] at e''; cases e''
  | some v =>
    rw [hx] at e''
    obtain ⟨hi, rfl, rfl⟩ := setList_some e''
    obtain ⟨vs, n, ho, hvs⟩ := r.obj _ l _ hl h1
    obtain ⟨y, hy, hr⟩ := hvs.get hx
    have hlen := hvs.length
    refine call_meets PySem.F.slot_list_pop ⟨_, ho, rfl⟩ PySem.F.entry_list_pop (PySem.F.args_list_pop_1 _) (PySem.MeetsSeq.list_pop_last l vs.toArray n y (by simpa [hlen] using hy) (by simp [hlen]; exact small_line hg)) ⟨ho, ?_⟩
    have := r.turn hl (r.zz ▸ hi) ho (fun zs => zs.eraseIdxIfInBounds (vs.toArray.size - 1)) (xs := xs.eraseIdx (xs.length - 1)) (by
      have e1 : (vs.toArray.eraseIdxIfInBounds (vs.toArray.size - 1)).toList = vs.eraseIdx (xs.length - 1) := by
        rw [Array.toList_eraseIdxIfInBounds]; simp [hlen]
      rw [e1]; exact hvs.eraseIdx _) s.toks
    exact K σ _ _ this.1 this.2 hr
noncomputable def extendM : AV → List AV → F AV
  | .ref i, [.ref j] => lists2' i j fun xs ys => guardF (small (xs.length + ys.length)) (setList i (xs ++ ys) .none)
  | _, _ => F.fail
where lists2' (i j : Nat) (k : List AV → List AV → F AV) : F AV := lists2 i j k
theorem op_extend : ∀ σ u a us as, VRel σ u a → VsRel σ us as → At c d σ (call (.builtin "list.extend") (a :: as)) VRel (extendM u us) := by
  intro σ u a us as ra hv
  unfold extendM
  split
  · rename_i i j
    obtain ⟨x, as', rfl, hx, h2⟩ := hv.cons_inv
    obtain rfl := h2.nil_inv
    obtain ⟨l, rfl, hl⟩ := ra.ref_inv
    obtain ⟨l', rfl, hl'⟩ := hx.ref_inv
    intro A hA S s r b S' e Q E K
    obtain ⟨xs, ys, h1, h1', e'⟩ := lists2_some e
    obtain ⟨hg, e''⟩ := guardF_some e'
    obtain ⟨hi, rfl, rfl⟩ := setList_some e''
    obtain ⟨vs, n, ho, hvs⟩ := r.obj _ l _ hl h1
    obtain ⟨ws, n', ho', hws⟩ := r.obj _ l' _ hl' h1'
    have hsz : vs.toArray.size + ws.toArray.size ≤ sizeLine := by simp [hvs.length, hws.length]; exact small_line hg
    refine call_meets PySem.F.slot_list_extend ⟨_, ho, rfl⟩ PySem.F.entry_list_extend (PySem.F.args_list_extend_2 _ _) (PySem.AutoSeq1.list_extend_list_list_0 l vs.toArray n l' ws.toArray n' (extend_door hsz) (Nat.le_trans (Nat.le_add_right _ _) hsz) (Nat.le_succ_of_le hsz)) ⟨ho, ho', ?_⟩
    have := r.turn hl (r.zz ▸ hi) ho (fun zs => zs ++ ws.toArray) (xs := xs ++ ys) (by simpa using hvs.append hws) s.toks
    exact K σ _ _ this.1 this.2 trivial
  · exact .fail
noncomputable def indexM : AV → List AV → F AV
  | .ref i, [.int k] => intsF i fun ns => guardF (PyData.layable0 (.list (ns.map .int)) && decide (k ∈ ns)) (F.pure (.int (ns.idxOf k : Nat)))
  | _, _ => F.fail
theorem op_index : ∀ σ u a us as, VRel σ u a → VsRel σ us as → At c d σ (call (.builtin "list.index") (a :: as)) VRel (indexM u us) := by
  intro σ u a us as ra hv
  unfold indexM
  split
  · rename_i i k
    obtain ⟨x, as', rfl, hx, h2⟩ := hv.cons_inv
    obtain rfl := h2.nil_inv
    obtain ⟨l, rfl, hl⟩ := ra.ref_inv
    obtain ⟨t, rfl⟩ := hx.int_inv
    intro A hA S s r b S' e Q E K
    obtain ⟨xs, ns, h1, h3, e'⟩ := intsF_some e
    obtain ⟨hg, e''⟩ := guardF_some e'
    cases e''
    rw [Bool.and_eq_true] at hg
    obtain ⟨vs, n, ho, hvs⟩ := r.obj _ l _ hl h1
    exact index_list_ints (vs := vs) (ns := ns) ⟨_, ho, rfl, n, rfl⟩ (intsAre h3 hvs) hg.1 (of_decide_eq_true hg.2) (K σ _ _ (r.of_same rfl) (.of_same rfl rfl rfl) rfl)
  · exact .fail
noncomputable def joinM : AV → List AV → F AV
  | .str x, [.ref i] => list1 i fun xs => match strs? xs with
    | some ys => guardF (small ((ys.map (·.length)).sum + ys.length * x.length)) (F.pure (.str (Txt.join x ys)))
    | none => F.fail
  | _, _ => F.fail
theorem op_join : ∀ σ u a us as, VRel σ u a → VsRel σ us as → At c d σ (call (.builtin "str.join") (a :: as)) VRel (joinM u us) := by
  intro σ u a us as ra hv
  unfold joinM
  split
  · rename_i x i
    obtain ⟨y, as', rfl, hy, h2⟩ := hv.cons_inv
    obtain rfl := h2.nil_inv
    obtain ⟨t, rfl⟩ := ra.str_inv
    obtain ⟨l, rfl, hl⟩ := hy.ref_inv
    intro A hA S s r b S' e Q E K
    obtain ⟨xs, h1, e'⟩ := list1_some e
    cases h3 : strs? xs with
    | none => rw [h3] at e'; cases e'
    | some ys =>
      rw [h3] at e'
      obtain ⟨hg, e''⟩ := guardF_some e'
      cases e''
      obtain ⟨vs, n, ho, hvs⟩ := r.obj _ l _ hl h1
      exact join_list (items := vs.toArray) (ys := ys) ⟨_, ho, rfl, n, rfl⟩ (by simpa using strsAre h3 hvs) (Nat.le_trans (small_le hg) (by omega)) fun t' k => K σ _ _ (r.of_same rfl) (.of_same rfl rfl rfl) rfl
  · exact .fail

/-- list(range(a, b)) -/
noncomputable def listRangeF : AV → AV → F AV
  | .int a, .int b => guardF (decide (0 ≤ a ∧ a ≤ b ∧ b < 2 ^ 20)) (newAt (.list ((List.range (b - a).toNat).map fun k : Nat => .int (a + k))))
  | _, _ => F.fail
theorem den_listRange {lp rp pos pos' : Pos} {e₁ e₂ : Expr} {f g : F AV} (hl : GName c "list" (.type "list")) (hr : GName c "range" (.type "range")) (h₁ : Den c d (eval e₁ c.env) VRel f) (h₂ : Den c d (eval e₂ c.env) VRel g)
    (hs : starEach [e₁, e₂] c.env = [(false, eval e₁ c.env), (false, eval e₂ c.env)]) :
    Den c d (eval (.Call (.Name "list" lp) [.Call (.Name "range" rp) [e₁, e₂] [] pos'] [] pos) c.env) VRel (F.bind f fun u => F.bind g fun v => listRangeF u v) := by
  refine ⟨fun A hA σ S s r b S' e Q E K => ?_⟩
  obtain ⟨u, S₁, e1, e2⟩ := bind_some e
  obtain ⟨v, S₂, e3, e4⟩ := bind_some e2
  refine Call_Name1 (hl.load r ?_ (by decide)) (by rfl)
  refine PyProof.Rows.callWith_type rfl (evalArgs_plain (spliced_cons (Call_Name2 (hr.load r (PyProof.Rows.callWith_type rfl (evalArgs_plain (spliced_cons (h₁.run A hA σ S s r u S₁ e1 _ E fun σ₁ s₁ x r₁ x₁ y₁ =>
    spliced_cons (h₂.run A hA σ₁ S₁ s₁ r₁ v S₂ e3 _ E fun σ₂ s₂ y r₂ x₂ y₂ => spliced_nil ?_))))) (by decide)) hs)))
  have y₁' := y₁.mono x₂.pre
  have x₀₂ := x₁.trans r₁.nd x₂
  cases u <;> cases v <;> try (cases e4)
  rename_i a' b'
  obtain ⟨t, rfl⟩ := y₁'.int_inv; obtain ⟨t', rfl⟩ := y₂.int_inv
  obtain ⟨hg, e5⟩ := guardF_some e4
  have hb := of_decide_eq_true hg
  obtain ⟨hs', rfl, rfl⟩ := newAt_some e5
  refine call_range_2 (spliced_nil ?_)
  generalize hh1 : s₂.heap.push { cls := .type "range", data := .fields #[.int a' t, .int b' t', .int 1 s₂.toks] } = h1
  have up1 : ∀ b o, s₂.heap.get? b = some o → h1.get? b = some o := fun b o e => by rw [← hh1]; exact Heap.get?_push_of_some _ e
  have hsize : Builtin.Range.rangeSize a' b' 1 = ((b' - a').toNat : Int) := by rw [rangeSize_one]; split <;> omega
  refine call_list_range (n := (b' - a').toNat) hA.handled (by rw [← hh1]; exact IsRange.new ..) (small_one (by omega) (by omega) (by omega) (by omega)) hsize (by omega) fun h' tk acc' c' hk hS hacc => ?_
  have up : ∀ b o, s₂.heap.get? b = some o → h'.get? b = some o := fun b o e => hk b o (up1 b o e)
  obtain ⟨hsz, hat⟩ := hacc
  -- the new list
  have hrel : ∀ σ' : List Addr, VsRel σ' ((List.range (b' - a').toNat).map fun k : Nat => AV.int (a' + k)) acc'.toList := by
    intro σ'
    have key : ∀ (m : Nat) (f : Nat → AV) (l : List Value), l.length = m → (∀ j v, l[j]? = some v → VRel σ' (f j) v) → VsRel σ' ((List.range m).map f) l := by
      intro m
      induction m with
      | zero => intro f l hl _; rw [List.length_eq_zero_iff.mp hl]; trivial
      | succ m ih =>
        intro f l hl hv
        cases l with
        | nil => cases hl
        | cons x l =>
          rw [List.range_succ_eq_map, List.map_cons, List.map_map]
          exact ⟨hv 0 x rfl, ih (f ∘ Nat.succ) l (by simpa using hl) fun j v e => hv (j + 1) v (by simpa using e)⟩
    refine key _ _ _ (by simpa using hsz) fun j v e => ?_
    obtain ⟨t0, rfl⟩ := hat j v (by simpa using e)
    show (a' + (j : Int)) = a' + (j : Int) * 1
    omega
  have hnone : s₂.heap.get? h1.objs.size = none := none_of_ge (by rw [← hh1, Heap.size_push]; omega)
  have := Rel.made (a := h1.objs.size) (o := .list ((List.range (b' - a').toNat).map fun k : Nat => AV.int (a' + k))) (s' := { s₂ with heap := h', toks := tk }) r₂ up hnone ⟨acc'.toList, c', by simpa [listObj] using hS, hrel _⟩ (.refl _) rfl
  refine K _ _ _ this.1 (x₀₂.trans r₂.nd this.2) ?_
  show (σ₂ ++ [_])[S₂.H.length]? = some _
  rw [← r₂.len]; simp
end Mine
end

section
set_option maxRecDepth 100000
set_option linter.unusedVariables false
open PySem PySem.W PyProof.Rows PySem.Calls
namespace Mine
variable {c : Cx} {d : Nat}

section
variable {prog : Program} {w : World} {A : Around} {E : Value → Shared → Prop} {s : Shared}
/-- the parts of a zip over two iterators stand apart -/
structure ZA (z TI TO i1 i2 : Addr) (f1 f2 : List Addr) : Prop where
  TIz : TI ≠ z
  TOz : TO ≠ z
  i1z : i1 ≠ z
  i2z : i2 ≠ z
  TITO : TI ≠ TO
  TIi1 : TI ≠ i1
  TIi2 : TI ≠ i2
  TOi1 : TO ≠ i1
  TOi2 : TO ≠ i2
  i12 : i1 ≠ i2
  a1 : ∀ b ∈ f1, b ≠ z ∧ b ≠ TO ∧ b ≠ i2
  a2 : ∀ b ∈ f2, b ≠ z ∧ b ≠ TO ∧ b ≠ i1

variable {i1 i2 z TI TO : Addr} {f1 f2 : List Addr} {n1 n2 : Nat} {P1 P2 : Nat → Value → Prop} {S1 S2 : Nat → Heap → Prop}
theorem zipD_item {k : Nat} {a b : Value} {Q : Value → Shared → Prop} (D1 : Draws prog w A i1 f1 n1 P1 S1) (D2 : Draws prog w A i2 f2 n2 P2 S2) (D : ZA z TI TO i1 i2 f1 f2)
    (hz : IsZip s.heap z TI TO .none) (hTI : IsPair s.heap TI (.ref i1) (.ref i2)) (hTO : IsPair s.heap TO a b) (h1 : S1 k s.heap) (h2 : S2 k s.heap) (hk1 : k < n1) (hk2 : k < n2)
    (hQ : ∀ h' tk (T : Addr) x y, P1 k x → P2 k y → IsZip h' z TI TO (rawInt T) → IsPair h' TO x y → S1 (k + 1) h' → S2 (k + 1) h' → IsPair h' T x y → s.heap.objs.size ≤ T →
      (∀ c o, c ≠ z → c ≠ TO → c ≠ i1 → c ≠ i2 → s.heap.get? c = some o → h'.get? c = some o) → Q (.ref T) { s with heap := h', toks := tk }) :
    wpAny (model prog w) A (Builtin.«zip.__next__» ⟨[.ref z], []⟩) (fun fin s' => ∃ v, fin = .done (.ret v) ∧ Q v s') E s := by
  obtain ⟨hp, g, dr, tk₀, os⟩ := s
  show wpAny _ _ (field (.ref z) 2 >>= _) _ _ _
  refine wpAny_bind (wpAny_field hz rfl (x := .bool false) rfl ?_)
  show wpAny _ _ (field (.ref z) 3 >>= _) _ _ _
  refine wpAny_bind (wpAny_field hz rfl (x := .ref TI) rfl ?_)
  refine wpAny_bind (wpAny_seqItems hTI rfl ?_)
  show wpAny _ _ (Builtin.SmallTypes.ownedTupleIsFree (.ref z) >>= _) _ _ _
  refine wpAny_bind ?_
  unfold Builtin.SmallTypes.ownedTupleIsFree
  refine wpAny_bind (wpAny_field hz rfl (x := .none) rfl (wpAny_pure ?_))
  simp only [if_true]
  refine wpAny_bind (wpAny_rule ?_)
  refine wpAny_bind (wpAny_field hz rfl (x := .ref TO) rfl ?_)
  refine wpAny_bind (wpAny_setField_rec hz (by simp) fun h₁ hz₁ hs₁ => ?_)
  replace hz₁ : IsZip h₁ z TI TO .ellipsis := hz₁
  replace hs₁ : Heap.SameBut z hp h₁ := hs₁
  have q1 : S1 k h₁ := D1.frame _ _ _ h1 fun b hb o e => hs₁.extBut _ _ (D.a1 b hb).1 e
  have q2 : S2 k h₁ := D2.frame _ _ _ h2 fun b hb o e => hs₁.extBut _ _ (D.a2 b hb).1 e
  refine wpAny_bind ?_
  simp only [List.zipIdx_cons, List.zipIdx_nil, List.forIn_cons, List.forIn_nil]
  refine wpAny_bind (wpAny_bind (wpAny_onRaise ?_))
  show wpAny _ _ (Builtin.SmallTypes.nextOf (.ref i1) >>= _) _ _ _
  refine wpAny_bind (D1.item k _ _ _ hk1 q1 fun x h₂ tk₂ hx q1₂ hs₂ => wpAny_pure ?_)
  replace hs₂ : Heap.SameBut i1 h₁ h₂ := hs₂
  have hTO₂ : IsPair h₂ TO a b := hs₂.extBut _ _ D.TOi1 (hs₁.extBut _ _ D.TOz hTO)
  have q2₂ : S2 k h₂ := D2.frame _ _ _ q2 fun b hb o e => hs₂.extBut _ _ (D.a2 b hb).2.2 e
  refine wpAny_bind (wpAny_seqItems hTO₂ rfl ?_)
  refine wpAny_bind (wpAny_updateSeq_pair hTO₂ fun h₃ hTO₃ hs₃ => ?_)
  replace hTO₃ : IsPair h₃ TO x b := hTO₃
  replace hs₃ : Heap.SameBut TO h₂ h₃ := hs₃
  have q2₃ : S2 k h₃ := D2.frame _ _ _ q2₂ fun b hb o e => hs₃.extBut _ _ (D.a2 b hb).2.1 e
  have q1₃ : S1 (k + 1) h₃ := D1.frame _ _ _ q1₂ fun b hb o e => hs₃.extBut _ _ (D.a1 b hb).2.1 e
  refine wpAny_bind (wpAny_letGo (wpAny_pure ?_))
  refine wpAny_bind (wpAny_bind (wpAny_onRaise ?_))
  show wpAny _ _ (Builtin.SmallTypes.nextOf (.ref i2) >>= _) _ _ _
  refine wpAny_bind (D2.item k _ _ _ hk2 q2₃ fun y h₄ tk₄ hy q2₄ hs₄ => wpAny_pure ?_)
  replace hs₄ : Heap.SameBut i2 h₃ h₄ := hs₄
  have hTO₄ : IsPair h₄ TO x b := hs₄.extBut _ _ D.TOi2 hTO₃
  have q1₄ : S1 (k + 1) h₄ := D1.frame _ _ _ q1₃ fun b hb o e => hs₄.extBut _ _ (D.a1 b hb).2.2 e
  refine wpAny_bind (wpAny_seqItems hTO₄ rfl ?_)
  refine wpAny_bind (wpAny_updateSeq_pair hTO₄ fun h₅ hTO₅ hs₅ => ?_)
  replace hTO₅ : IsPair h₅ TO x y := hTO₅
  replace hs₅ : Heap.SameBut TO h₄ h₅ := hs₅
  have q1₅ : S1 (k + 1) h₅ := D1.frame _ _ _ q1₄ fun b hb o e => hs₅.extBut _ _ (D.a1 b hb).2.1 e
  have q2₅ : S2 (k + 1) h₅ := D2.frame _ _ _ q2₄ fun b hb o e => hs₅.extBut _ _ (D.a2 b hb).2.1 e
  refine wpAny_bind (wpAny_letGo (wpAny_pure (wpAny_pure ?_)))
  refine wpAny_bind (wpAny_seqItems hTO₅ rfl ?_)
  refine wpAny_bind (wpAny_newTuple ?_)
  have hz₅ : IsZip h₅ z TI TO .ellipsis := hs₅.extBut _ _ D.TOz.symm (hs₄.extBut _ _ D.i2z.symm (hs₃.extBut _ _ D.TOz.symm (hs₂.extBut _ _ D.i1z.symm hz₁)))
  have hk₅ : ∀ c o, c ≠ z → c ≠ TO → c ≠ i1 → c ≠ i2 → hp.get? c = some o → h₅.get? c = some o := fun c o c1 c2 c3 c4 e =>
    hs₅.extBut _ _ c2 (hs₄.extBut _ _ c4 (hs₃.extBut _ _ c2 (hs₂.extBut _ _ c3 (hs₁.extBut _ _ c1 e))))
  have hsz : hp.objs.size ≤ h₅.objs.size := by rw [hs₅.1, hs₄.1, hs₃.1, hs₂.1, hs₁.1]; exact Nat.le_refl _
  have hzlt : z < h₅.objs.size := Heap.lt_size hz₅
  show wpAny _ _ (Builtin.SmallTypes.ownedTupleHandOut (.ref z) (.ref h₅.objs.size) >>= _) _ _ _
  refine wpAny_bind ?_
  unfold Builtin.SmallTypes.ownedTupleHandOut
  have hz₆ : IsZip (h₅.push { cls := .type "tuple", data := .seq #[x, y] }) z TI TO .ellipsis := Heap.get?_push_of_some _ hz₅
  refine wpAny_bind (wpAny_setField_rec hz₆ (by simp) fun h₇ hz₇ hs₇ => ?_)
  replace hz₇ : IsZip h₇ z TI TO (rawInt h₅.objs.size) := hz₇
  refine wpAny_setField_rec hz₇ (by simp) fun h₈ hz₈ hs₈ => ?_
  replace hz₈ : IsZip h₈ z TI TO (rawInt h₅.objs.size) := hz₈
  have up : ∀ c o, c ≠ z → h₅.get? c = some o → h₈.get? c = some o := fun c o c1 e => hs₈.extBut _ _ c1 (hs₇.extBut _ _ c1 (Heap.get?_push_of_some _ e))
  have hT₈ : IsPair h₈ h₅.objs.size x y := hs₈.extBut _ _ (Nat.ne_of_gt hzlt) (hs₇.extBut _ _ (Nat.ne_of_gt hzlt) (Heap.get?_push_size _ rfl))
  refine wpAny_pure ⟨_, rfl, ?_⟩
  exact hQ h₈ tk₄ h₅.objs.size x y hx hy hz₈ (up _ _ D.TOz hTO₅) (D1.frame _ _ _ q1₅ fun b hb o e => up b o (D.a1 b hb).1 e) (D2.frame _ _ _ q2₅ fun b hb o e => up b o (D.a2 b hb).1 e) hT₈ hsz fun c o c1 c2 c3 c4 e => up c o c1 (hk₅ c o c1 c2 c3 c4 e)

theorem zipD_end {k : Nat} {a b : Value} {Q : Fin → Shared → Prop} (D1 : Draws prog w A i1 f1 n1 P1 S1) (D2 : Draws prog w A i2 f2 n2 P2 S2) (D : ZA z TI TO i1 i2 f1 f2)
    (hz : IsZip s.heap z TI TO .none) (hTI : IsPair s.heap TI (.ref i1) (.ref i2)) (hTO : IsPair s.heap TO a b) (h1 : S1 k s.heap) (h2 : S2 k s.heap) (hend : k = n1 ∨ (k < n1 ∧ k = n2))
    (hE : ∀ h' tk e, (∀ c o, c ≠ z → c ≠ TO → c ≠ i1 → c ≠ i2 → s.heap.get? c = some o → h'.get? c = some o) → (∃ o, h'.get? e = some o ∧ o.cls = .type "StopIteration") → E (.ref e) { s with heap := h', toks := tk }) :
    wpAny (model prog w) A (Builtin.«zip.__next__» ⟨[.ref z], []⟩) Q E s := by
  obtain ⟨hp, g, dr, tk₀, os⟩ := s
  show wpAny _ _ (field (.ref z) 2 >>= _) _ _ _
  refine wpAny_bind (wpAny_field hz rfl (x := .bool false) rfl ?_)
  show wpAny _ _ (field (.ref z) 3 >>= _) _ _ _
  refine wpAny_bind (wpAny_field hz rfl (x := .ref TI) rfl ?_)
  refine wpAny_bind (wpAny_seqItems hTI rfl ?_)
  show wpAny _ _ (Builtin.SmallTypes.ownedTupleIsFree (.ref z) >>= _) _ _ _
  refine wpAny_bind ?_
  unfold Builtin.SmallTypes.ownedTupleIsFree
  refine wpAny_bind (wpAny_field hz rfl (x := .none) rfl (wpAny_pure ?_))
  simp only [if_true]
  refine wpAny_bind (wpAny_rule ?_)
  refine wpAny_bind (wpAny_field hz rfl (x := .ref TO) rfl ?_)
  refine wpAny_bind (wpAny_setField_rec hz (by simp) fun h₁ hz₁ hs₁ => ?_)
  replace hz₁ : IsZip h₁ z TI TO .ellipsis := hz₁
  replace hs₁ : Heap.SameBut z hp h₁ := hs₁
  have q1 : S1 k h₁ := D1.frame _ _ _ h1 fun b hb o e => hs₁.extBut _ _ (D.a1 b hb).1 e
  have q2 : S2 k h₁ := D2.frame _ _ _ h2 fun b hb o e => hs₁.extBut _ _ (D.a2 b hb).1 e
  refine wpAny_bind ?_
  simp only [List.zipIdx_cons, List.zipIdx_nil, List.forIn_cons, List.forIn_nil]
  refine wpAny_bind (wpAny_bind (wpAny_onRaise ?_))
  show wpAny _ _ (Builtin.SmallTypes.nextOf (.ref i1) >>= _) _ _ _
  rcases hend with rfl | ⟨hlt, rfl⟩
  · refine wpAny_bind (D1.done _ _ _ q1 fun h₂ e hs₂ he => ?_)
    obtain ⟨oe, hoe, hce⟩ := he
    have hz₂ : IsZip h₂ z TI TO .ellipsis := hs₂ _ _ D.i1z.symm hz₁
    have hez : e ≠ z := fun x => by subst x; rw [hz₂] at hoe; cases hoe; simp at hce
    refine wpAny_setField_rec hz₂ (by simp) fun h₃ _ hs₃ => hE h₃ _ e (fun c o c1 _ c3 _ x => hs₃.extBut _ _ c1 (hs₂ _ _ c3 (hs₁.extBut _ _ c1 x))) ⟨oe, hs₃.extBut _ _ hez hoe, hce⟩
  · refine wpAny_bind (D1.item k _ _ _ hlt q1 fun x h₂ tk₂ hx q1₂ hs₂ => wpAny_pure ?_)
    replace hs₂ : Heap.SameBut i1 h₁ h₂ := hs₂
    have hTO₂ : IsPair h₂ TO a b := hs₂.extBut _ _ D.TOi1 (hs₁.extBut _ _ D.TOz hTO)
    have q2₂ : S2 k h₂ := D2.frame _ _ _ q2 fun b hb o e => hs₂.extBut _ _ (D.a2 b hb).2.2 e
    refine wpAny_bind (wpAny_seqItems hTO₂ rfl ?_)
    refine wpAny_bind (wpAny_updateSeq_pair hTO₂ fun h₃ hTO₃ hs₃ => ?_)
    replace hs₃ : Heap.SameBut TO h₂ h₃ := hs₃
    have q2₃ : S2 k h₃ := D2.frame _ _ _ q2₂ fun b hb o e => hs₃.extBut _ _ (D.a2 b hb).2.1 e
    refine wpAny_bind (wpAny_letGo (wpAny_pure ?_))
    refine wpAny_bind (wpAny_bind (wpAny_onRaise ?_))
    show wpAny _ _ (Builtin.SmallTypes.nextOf (.ref i2) >>= _) _ _ _
    refine wpAny_bind (D2.done _ _ _ q2₃ fun h₄ e hs₄ he => ?_)
    obtain ⟨oe, hoe, hce⟩ := he
    have hz₄ : IsZip h₄ z TI TO .ellipsis := hs₄ _ _ D.i2z.symm (hs₃.extBut _ _ D.TOz.symm (hs₂.extBut _ _ D.i1z.symm hz₁))
    have hez : e ≠ z := fun x => by subst x; rw [hz₄] at hoe; cases hoe; simp at hce
    refine wpAny_setField_rec hz₄ (by simp) fun h₅ _ hs₅ => hE h₅ _ e (fun c o c1 c2 c3 c4 x => hs₅.extBut _ _ c1 (hs₄ _ _ c4 (hs₃.extBut _ _ c2 (hs₂.extBut _ _ c3 (hs₁.extBut _ _ c1 x))))) ⟨oe, hs₅.extBut _ _ hez hoe, hce⟩
end

noncomputable def strFld (x : Str) (t : Tok) : Obj := { cls := .type (strIterType x), data := .fields #[.str x t, .int 0 0] }
noncomputable abbrev zsH1 (h : Heap) (l1 : Addr) : Heap := h.push { cls := .type "list_iterator", data := .fields #[.ref l1, .int 0 0] }
noncomputable abbrev zsH2 (h : Heap) (l1 : Addr) (x : Str) (t : Tok) : Heap := (zsH1 h l1).push { cls := .type (strIterType x), data := .fields #[.str x t, .int 0 0] }
noncomputable abbrev zsH3 (h : Heap) (l1 : Addr) (x : Str) (t : Tok) : Heap := (zsH2 h l1 x t).push { cls := .type "tuple", data := .seq #[.ref h.objs.size, .ref (zsH1 h l1).objs.size] }
noncomputable abbrev zsH4 (h : Heap) (l1 : Addr) (x : Str) (t : Tok) : Heap := (zsH3 h l1 x t).push { cls := .type "tuple", data := .seq #[.none, .none] }
noncomputable abbrev zsH5 (h : Heap) (l1 : Addr) (x : Str) (t : Tok) : Heap := (zsH4 h l1 x t).push { cls := .type "zip", data := .fields #[.none, .bool false, .bool false, .ref (zsH2 h l1 x t).objs.size, .ref (zsH3 h l1 x t).objs.size] }
set_option maxHeartbeats 2000000 in
theorem meets_zip_newLS (l1 : Addr) (xs : Array Value) (x : Str) (t : Tok) :
    Meets (Builtin.«zip.__new__» ⟨[.type "zip", .ref l1, .str x t], []⟩) (fun _ R s => s.heap.IsList l1 xs ∧
      R (.ok (.ret (.ref (zsH4 s.heap l1 x t).objs.size))) { s with heap := zsH5 s.heap l1 x t }) :=
  .of_wp fun prog w A R s h => by
    obtain ⟨hp, g, d, tk, os⟩ := s; obtain ⟨hl1, h⟩ := h
    have hsub := sub_zip
    have hL1 : Heap.IsList (Shared.heap ⟨hp, g, d, tk, os⟩) l1 xs := hl1
    wp_walk using wpAny_pyIter_list hL1, wpAny_pyIter_strU
    exact ⟨_, rfl, h⟩
end Mine
end

section
set_option maxRecDepth 100000
set_option linter.unusedVariables false
open PySem PySem.W PyProof.Rows PySem.Calls
namespace Mine
variable {c : Cx} {d : Nat}

noncomputable def itemZip (i : Nat) (x : Str) : ItemF := fun k H => match H[i]? with
  | some (.list xs) => match xs[k]?, x.cps[k]? with
    | some v, some ch => some (some (.two v (.str ⟨#[ch]⟩)))
    | none, _ => match k == xs.length with
      | true => some none
      | false => none
    | some _, none => match k == x.cps.size with
      | true => some none
      | false => none
  | _ => none
theorem drawsStr {prog : Program} {w : World} {A : Around} (hh : A.handled = none) (it : Addr) (x : Str) (t : Tok) :
    Draws prog w A it [it] x.cps.size (fun i v => ∃ ch u, x.cps[i]? = some ch ∧ v = .str ⟨#[ch]⟩ u) (fun i h => h.IsStrIter it (strIterType x) x t i) := by
  cases ha : x.cps.all (· < 128)
  · have := Draws.strWide (prog := prog) (w := w) hh it x t
    simpa [strIterType, ha] using this
  · have := Draws.strAscii (prog := prog) (w := w) hh it x t
    simpa [strIterType, ha] using this

noncomputable def itZip {prog : Program} {w : World} {B : Heap} {A : Around} {z TI TO i1 i2 ax : Addr} {i : Nat} {x : Str} {t : Tok} {elts : List Expr} {kk : Nat} {p : Pos} (hd : [z, TO, i1, i2, TI].Nodup) :
    It prog w B A d (.Tuple elts kk p) (.ref z) (itemZip i x) where
  P := fun k σ fp gp s => fp = [z, TO, i1, i2, TI] ∧ gp = [] ∧ IsZip s.heap z TI TO .none ∧ IsPair s.heap TI (.ref i1) (.ref i2) ∧ (∃ a b, IsPair s.heap TO a b) ∧ s.heap.IsListIter i1 ax k ∧ s.heap.IsStrIter i2 (strIterType x) x t k ∧ σ[i]? = some ax
  keep := fun k σ σ' fp gp s s' h hp hk _ => by
    obtain ⟨rfl, rfl, h1, h2, ⟨a, b, h3⟩, h4, ⟨o5, h5, h5'⟩, h6⟩ := h
    refine ⟨rfl, rfl, hk z (by simp) _ h1, hk TI (by simp) _ h2, ⟨a, b, hk TO (by simp) _ h3⟩, h4.at fun o e => hk i1 (by simp) o e, ⟨o5, hk i2 (by simp) _ h5, h5'⟩, ?_⟩
    obtain ⟨t, rfl⟩ := hp
    rw [List.getElem?_append_left (List.getElem?_eq_some_iff.mp h6).1]; exact h6
  live := fun k σ fp gp s h b hb => by
    obtain ⟨rfl, rfl, h1, h2, ⟨a, b', h3⟩, ⟨o4, h4, _⟩, ⟨o5, h5, _⟩, h6⟩ := h
    simp only [List.mem_cons, List.not_mem_nil, or_false] at hb
    rcases hb with rfl | rfl | rfl | rfl | rfl
    · exact ⟨_, h1⟩
    · exact ⟨_, h3⟩
    · exact ⟨_, h4⟩
    · exact ⟨_, h5⟩
    · exact ⟨_, h2⟩
  self := fun hA k σ fp gp s h Q E hQ => wpAny_pyIter_zip h.2.2.1 hQ
  next := fun c hp hw hB hA k σ S s fp gp r h ho rr hi Q E h0 h1 => by
    subst hp hw
    obtain ⟨rfl, rfl, hz, hTI, ⟨a, b, hTO⟩, hi1, hi2, hax⟩ := h
    have haxm : ax ∈ σ := List.mem_of_getElem? hax
    have nax : ∀ q ∈ [z, TO, i1, i2, TI], ax ≠ q := fun q hq e => ho.sg q hq (e ▸ haxm)
    simp only [List.nodup_cons, List.mem_cons, List.not_mem_nil, or_false, not_or] at hd
    obtain ⟨⟨d1, d2, d3, d4⟩, ⟨d5, d6, d7⟩, ⟨d8, d9⟩, d10, _⟩ := hd
    have D : ZA z TI TO i1 i2 [i1, ax] [i2] := by
      refine ⟨Ne.symm d4, Ne.symm d1, Ne.symm d2, Ne.symm d3, Ne.symm d7, Ne.symm d9, Ne.symm d10, d5, d6, d8, fun q hq => ?_, fun q hq => ?_⟩
      · rcases List.mem_cons.mp hq with rfl | hq
        · exact ⟨Ne.symm d2, Ne.symm d5, d8⟩
        · rw [List.mem_singleton.mp hq]; exact ⟨nax z (by simp), nax TO (by simp), nax i2 (by simp)⟩
      · rw [List.mem_singleton.mp hq]; exact ⟨Ne.symm d3, Ne.symm d6, Ne.symm d8⟩
    unfold itemZip at hi
    cases hH : S.H[i]? with
    | none => rw [hH] at hi; cases hi
    | some o =>
      rw [hH] at hi
      cases o with
      | tup xs => cases hi
      | list xs =>
        dsimp only at hi
        obtain ⟨vs, n, hol, hvs⟩ := r.obj i ax _ hax hH
        have hil : s.heap.IsList ax vs.toArray := ⟨_, hol, rfl, n, rfl⟩
        have hh : A.in1.handled = none := hA.handled
        have D1 := Draws.list (prog := c.prog) (w := c.w) (A := A.in1) hh i1 ax (nax i1 (by simp)) vs.toArray
        have D2 := drawsStr (prog := c.prog) (w := c.w) (A := A.in1) hh i2 x t
        have hT : s.TypeIs (.ref z) "zip" := ⟨_, hz, rfl⟩
        have ended : ∀ (hend : k = vs.toArray.size ∨ (k < vs.toArray.size ∧ k = x.cps.size)), rr = none → wpAny (M c) A (pyNext (.ref z)) (fun r s₁ => match r with
            | none => Q none s₁
            | some a => wpAny (M c) A (letOwnedTupleGo (.Tuple elts kk p) (.ref z) a) (fun _ s₂ => Q (some a) s₂) E s₁) E s := fun hend hr => by
          unfold pyNext
          refine wpAny_bind (wpAny_attempt (wpAny_callSpecial?_slot (name := Str.ofString "__next__") hT PySem.F.slot_zip_next
            (wpAny_call_entry PySem.F.slot_zip_next hT PySem.F.entry_zip_next (zipD_end D1 D2 D hz hTI hTO ⟨hi1, hil⟩ hi2 hend fun h' tk e hk he => ?_) (PySem.F.args_zip_next_1 _))))
          obtain ⟨o, ho', hc⟩ := he
          refine wpAny_bind (wpAny_isInstance (T := "StopIteration") (b := true) ⟨o, ho', hc⟩ isSubtype_stop ?_)
          refine wpAny_pure (h0 hr _ ⟨fun b o e hb => hk b o (fun q => hb (by simp [q])) (fun q => hb (by simp [q])) (fun q => hb (by simp [q])) (fun q => hb (by simp [q])) e, fun i x e _ => e, id, rfl⟩)
        cases hx : xs[k]? with
        | none =>
          rw [hx] at hi
          dsimp only at hi
          cases hk : k == xs.length with
          | false => rw [hk] at hi; cases hi
          | true =>
            rw [hk] at hi
            cases hi
            exact ended (.inl (by have := eq_of_beq hk; simp [hvs.length, this])) rfl
        | some v =>
          rw [hx] at hi
          have hlt : k < vs.toArray.size := by
            have := (List.getElem?_eq_some_iff.mp hx).1
            simpa [hvs.length] using this
          cases hch : x.cps[k]? with
          | none =>
            rw [hch] at hi
            dsimp only at hi
            cases hk : k == x.cps.size with
            | false => rw [hk] at hi; cases hi
            | true =>
              rw [hk] at hi
              cases hi
              exact ended (.inr ⟨hlt, eq_of_beq hk⟩) rfl
          | some ch =>
            rw [hch] at hi
            cases hi
            have hlt2 : k < x.cps.size := (Array.getElem?_eq_some_iff.mp hch).1
            obtain ⟨av, hav, hr⟩ := hvs.get hx
            unfold pyNext
            refine wpAny_bind (wpAny_attempt (wpAny_callSpecial?_slot (name := Str.ofString "__next__") hT PySem.F.slot_zip_next
              (wpAny_call_entry PySem.F.slot_zip_next hT PySem.F.entry_zip_next (zipD_item D1 D2 D hz hTI hTO ⟨hi1, hil⟩ hi2 hlt hlt2 fun h' tk T xv yv hxv hyv hz' hTO' hs1 hs2 hT' hge hk => wpAny_pure ?_) (PySem.F.args_zip_next_1 _))))
            obtain ⟨ch', u', hc1, rfl⟩ := hyv
            rw [hch] at hc1
            cases hc1
            have hxa : xv = av := by
              have h2 : vs.toArray[k]? = some av := by simpa using hav
              exact Option.some.inj (hxv.symm.trans h2)
            subst hxa
            have hTn : ∀ q ob, s.heap.get? q = some ob → T ≠ q := fun q ob e h => Nat.lt_irrefl _ (Nat.lt_of_lt_of_le (Heap.lt_size e) (h ▸ hge))
            refine wpAny_letOwnedTupleGo_zip hz' fun h'' hz'' hs'' => ?_
            replace hs'' : Heap.SameBut z h' h'' := hs''
            have hTz : T ≠ z := hTn z _ hz
            have hTI' : IsPair h' TI (.ref i1) (.ref i2) := hk TI _ (Ne.symm d4) (Ne.symm d7) (Ne.symm d9) (Ne.symm d10) hTI
            obtain ⟨oi, hoi, hoi'⟩ := hs2
            refine h1 _ rfl _ _ [z, TO, i1, i2, TI] ⟨rfl, rfl, hz'', hs''.extBut _ _ (Ne.symm d4) hTI', ⟨_, _, hs''.extBut _ _ (Ne.symm d1) hTO'⟩, hs1.1.extBut hs''.extBut (Ne.symm d2), ⟨oi, hs''.extBut _ _ (Ne.symm d3) hoi, hoi'⟩, hax⟩
              (fun b hb hn => absurd hb hn) ⟨fun b o e hb => hs''.extBut b o (fun q => hb (by simp [q])) (hk b o (fun q => hb (by simp [q])) (fun q => hb (by simp [q])) (fun q => hb (by simp [q])) (fun q => hb (by simp [q])) e), fun i x e _ => e, id, rfl⟩
              ⟨T, xv, _, rfl, ⟨_, hs''.extBut _ _ hTz hT', rfl, _, rfl⟩, hr, rfl⟩

noncomputable def srcZip : AV → AV → F ItemF
  | .ref i, .str x => list1 i fun _ => F.pure (itemZip i x)
  | _, _ => F.fail
theorem src_zip {elts : List Expr} {kk : Nat} {p rp pos : Pos} {e₁ e₂ : Expr} {f g : F AV} (hx : GName c "zip" (.type "zip")) (h₁ : Den c d (eval e₁ c.env) VRel f) (h₂ : Den c d (eval e₂ c.env) VRel g)
    (hn₁ : ∀ x p, e₁ ≠ .Starred x p) (hn₂ : ∀ x p, e₂ ≠ .Starred x p) :
    Src c d (.Tuple elts kk p) (.Call (.Name "zip" rp) [e₁, e₂] [] pos) (F.bind f fun u => F.bind g fun v => srcZip u v) := by
  refine ⟨fun A hA σ S s r item S' e' Q E K => ?_⟩
  obtain ⟨u, S₁, e1, e2⟩ := bind_some e'
  obtain ⟨v, S₂, e3, e4⟩ := bind_some e2
  refine Call_Name2 (hx.load r ?_ (by decide)) (by rw [starEach_cons hn₁, starEach_cons hn₂]; rfl)
  refine PyProof.Rows.callWith_type rfl (evalArgs_plain (spliced_cons (h₁.run A hA σ S s r u S₁ e1 _ E fun σ₁ s₁ a r₁ x₁ y₁ => spliced_cons (h₂.run A hA σ₁ S₁ s₁ r₁ v S₂ e3 _ E fun σ₂ s₂ b r₂ x₂ y₂ => spliced_nil ?_))))
  have y₁' := y₁.mono x₂.pre
  have x₀₂ := x₁.trans r₁.nd x₂
  cases u <;> cases v <;> try (cases e4)
  obtain ⟨ax, rfl, hax⟩ := y₁'.ref_inv
  obtain ⟨t, rfl⟩ := y₂.str_inv
  rename_i i x
  obtain ⟨xs, hH, e5⟩ := list1_some e4
  cases e5
  obtain ⟨vs, n, hol, hvs⟩ := r₂.obj i ax _ hax hH
  have back : ∀ b, s₂.heap.get? b = none → s.heap.get? b = none := fun b hb => by
    cases q : s.heap.get? b with
    | none => rfl
    | some o => obtain ⟨o', e'⟩ := x₀₂.dom b o q; rw [hb] at e'; cases e'
  refine callType_new PySem.F.called_zip (by decide) (PySem.F.typeCall_zip_2 _ _) (PySem.F.newCall_zip_2 _ _) (fun obj => PySem.F.args_object_init_3 obj _ _) PySem.F.entry_zip_new
    (meets_zip_newLS ax vs.toArray x t) ⟨⟨_, hol, rfl, n, rfl⟩, ?_⟩
  have z1 : (zsH1 s₂.heap ax).objs.size = s₂.heap.objs.size + 1 := Heap.size_push ..
  have z2 : (zsH2 s₂.heap ax x t).objs.size = s₂.heap.objs.size + 2 := by rw [Heap.size_push, z1]
  have z3 : (zsH3 s₂.heap ax x t).objs.size = s₂.heap.objs.size + 3 := by rw [Heap.size_push, z2]
  have z4 : (zsH4 s₂.heap ax x t).objs.size = s₂.heap.objs.size + 4 := by rw [Heap.size_push, z3]
  have g5 : (zsH5 s₂.heap ax x t).get? (zsH4 s₂.heap ax x t).objs.size = some _ := Heap.get?_push_size _ rfl
  have g4 : (zsH5 s₂.heap ax x t).get? (zsH3 s₂.heap ax x t).objs.size = some _ := Heap.get?_push_of_some _ (Heap.get?_push_size _ rfl)
  have g3 : (zsH5 s₂.heap ax x t).get? (zsH2 s₂.heap ax x t).objs.size = some _ := Heap.get?_push_of_some _ (Heap.get?_push_of_some _ (Heap.get?_push_size _ rfl))
  have g2 : (zsH5 s₂.heap ax x t).get? (zsH1 s₂.heap ax).objs.size = some _ := Heap.get?_push_of_some _ (Heap.get?_push_of_some _ (Heap.get?_push_of_some _ (Heap.get?_push_size _ rfl)))
  have g1 : (zsH5 s₂.heap ax x t).get? s₂.heap.objs.size = some _ := Heap.get?_push_of_some _ (Heap.get?_push_of_some _ (Heap.get?_push_of_some _ (Heap.get?_push_of_some _ (Heap.get?_push_size _ rfl))))
  have up : ∀ b o, s₂.heap.get? b = some o → (zsH5 s₂.heap ax x t).get? b = some o := fun b o e =>
    Heap.get?_push_of_some _ (Heap.get?_push_of_some _ (Heap.get?_push_of_some _ (Heap.get?_push_of_some _ (Heap.get?_push_of_some _ e))))
  show _ ∧ _
  rw [z2, z3, z4] at g5
  rw [z1, z2] at g3
  rw [z3] at g4
  rw [z1] at g2
  rw [z4]
  refine ⟨⟨_, g5, rfl⟩, wpAny_pyIter_zip g5 ?_⟩
  have hnd : [s₂.heap.objs.size + 4, s₂.heap.objs.size + 3, s₂.heap.objs.size, s₂.heap.objs.size + 1, s₂.heap.objs.size + 2].Nodup := by simp
  have hge : ∀ b ∈ [s₂.heap.objs.size + 4, s₂.heap.objs.size + 3, s₂.heap.objs.size, s₂.heap.objs.size + 1, s₂.heap.objs.size + 2], s₂.heap.objs.size ≤ b := fun b hb => by
    simp only [List.mem_cons, List.not_mem_nil, or_false] at hb; omega
  refine K σ₂ { s₂ with heap := zsH5 s₂.heap ax x t } _ (itZip (ax := ax) (i := i) (x := x) (t := t) hnd) _ [] (r₂.grown up) (x₀₂.trans r₂.nd (.grown up rfl rfl)) ⟨rfl, rfl, g5, g3, ⟨_, _, g4⟩, ⟨_, g1, rfl, rfl⟩, ⟨_, g2, rfl, rfl⟩, hax⟩
    ⟨fun b hb => back b (none_of_ge (hge b hb)), fun b hb hm => ?_, fun g hg => by cases hg⟩
  obtain ⟨o, q⟩ := r₂.live _ hm
  rw [none_of_ge (hge b hb)] at q; cases q
end Mine
end

section
set_option maxRecDepth 100000
set_option linter.unusedVariables false
open PySem PySem.W PyProof.Rows PySem.Calls PySem.Challenge
namespace Mine
noncomputable def stAt (k : Nat) : Stmt := (pw_sh0015_01.main.body[k]?).getD (.Pass ⟨0, 0, 0, 0⟩)
noncomputable def fBody : Stmt → List Stmt
  | .FunctionDef _ _ b .. => b
  | _ => []
noncomputable def fScope : Stmt → Scope
  | .FunctionDef _ _ _ _ _ _ sc .. => sc
  | _ => ⟨.function, [], false, false, []⟩
noncomputable def fParams : Stmt → Arguments
  | .FunctionDef _ a .. => a
  | _ => default
variable {prog : Program} {w : World} {B₀ B : Heap} {mg mb : Str → Option Value} {a : Addr} {cd : Value}
theorem den_glob {c : Cx} {d : Nat} {x : Str} {p : Pos} {v : Value} {u : AV} (hx : GName c x v) (hv : ∀ σ, VRel σ u v) (hd : (x == ("__debug__" : Str)) = false) : Den c d (eval (.Name x p) c.env) VRel (F.pure u) := by
  refine ⟨fun A hA σ S s r b S' e Q E K => ?_⟩
  cases e
  exact hx.load r (K σ s _ r (.refl ..) (hv σ)) hd
theorem gname {c : Cx} {x : Str} {v : Value} (G : GlobOk c.B mg mb) (hk : c.env.scope.kind = .function) (hl : c.env.kindOf x = some .globalImplicit)
    (hv : mg x = some v) (eg : c.env.globals = mainGlobals := by rfl) (eb : c.env.builtins = builtinsNs := by rfl) : GName c x v := ⟨hk, hl, mg, mb, G, eg, eb, .inl hv⟩
theorem gnameb {c : Cx} {x : Str} {v : Value} (G : GlobOk c.B mg mb) (hk : c.env.scope.kind = .function) (hl : c.env.kindOf x = some .globalImplicit)
    (hg : mg x = none) (hv : mb x = some v) (eg : c.env.globals = mainGlobals := by rfl) (eb : c.env.builtins = builtinsNs := by rfl) : GName c x v := ⟨hk, hl, mg, mb, G, eg, eb, .inr ⟨hg, hv⟩⟩
theorem GlobOk.mono (G : GlobOk B₀ mg mb) (h : ∀ b o, B₀.get? b = some o → B.get? b = some o) : GlobOk B mg mb := ⟨G.g.keeps h, G.b.keeps h, G.lim.keeps h⟩
theorem SetOf.mono {p : Program} {w : World} {a : Addr} {S : Int → Bool} {n : Nat} (x : B₀.SetOf (intKind p w) a S n) (h : ∀ b o, B₀.get? b = some o → B.get? b = some o) : B.SetOf (intKind p w) a S n :=
  let ⟨o, es, ep, t, e, r⟩ := x; ⟨o, es, ep, t, h _ _ e, r⟩
noncomputable def inF (S : Int → Bool) : AV → F AV
  | .int i => F.pure (.bool (S i))
  | _ => F.fail
theorem den_inset {c : Cx} {d : Nat} {l : Expr} {x : Str} {p pos : Pos} {a : Addr} {S : Int → Bool} {n : Nat} {f : F AV} (hx : GName c x (.ref a)) (hS : c.B.SetOf (intKind c.prog c.w) a S n) (hl : Den c d (eval l c.env) VRel f)
    (hd : (x == ("__debug__" : Str)) = false) (hm : behindInMarks .In (.Name x p) = false) : Den c d (eval (.Compare l [.In] [.Name x p] pos) c.env) VRel (F.bind f (inF S)) := by
  refine .of_at fun σ => ?_
  show At c d σ (eval l c.env >>= fun u => holding [u] (markedBehindIn .In (.Name x p) (eval (.Name x p) c.env)) >>= fun b => standAt pos >>= fun _ => operate [u, b] (compareOp .In u b)) VRel _
  rw [markedBehindIn_of_false hm]
  refine (hl.at σ).bind fun σ₁ u ua p₁ ra => ?_
  intro A hA S₁ s r b S' e Q E K
  cases u <;> try (cases e)
  obtain ⟨t, rfl⟩ := ra.int_inv
  refine wpAny_bind (wpAny_holding (hx.load r ?_ hd))
  refine wpAny_bind (wpAny_standAt (wpAny_operateM (wpAny_inSet_of (knd := intKind c.prog c.w) (intKind_is _ _ _ _) rfl (SetOf.mono hS r.base) ?_)))
  exact K σ₁ _ _ (r.of_same rfl) (.of_same rfl rfl rfl) rfl
noncomputable def OfFn (B : Heap) (a : Addr) : Prop := ∃ o fd, B.get? a = some o ∧ o.data = .func fd
theorem OfFn.mono (G : OfFn B₀ a) (h : ∀ b o, B₀.get? b = some o → B.get? b = some o) : OfFn B a := let ⟨o, fd, e, q⟩ := G; ⟨o, fd, h _ _ e, q⟩
theorem OfFn.callee {c : Cx} (G : OfFn c.B a) : CalleeOk c (.ref a) := let ⟨o, fd, e, q⟩ := G; .fn a o fd e q
noncomputable def DefAt (B : Heap) (a : Addr) (name : Str) (st : Stmt) : Prop := ∃ o pm cd doc, B.get? a = some o ∧ o.data = .func (docDef name (fParams st) (fBody st) (fScope st) pm cd doc) ∧ B.CodeRec cd name
/-- a pattern as it stands in the heap -/
structure IsPat (h : Heap) (a : Addr) (code : List Nat) : Prop where
  obj : ∃ o vs ct, h.get? a = some o ∧ o.cls = .type "re.Pattern" ∧ o.dict = none ∧ o.data = .fields vs ∧ vs.getD 2 .none = rawInt 0 ∧ vs.getD 6 .none = rawInt 0 ∧ vs.getD 5 .none = .ref ct ∧
    ∃ oc xs n, h.get? ct = some oc ∧ oc.data = .seq xs n ∧ (xs.map PySem.Builtin.Re.reRawOf).map (·.toNat) = code.toArray
theorem IsPat.keeps {h h' : Heap} {a : Addr} {code : List Nat} (x : IsPat h a code) (hk : ∀ b o, h.get? b = some o → h'.get? b = some o) : IsPat h' a code := by
  obtain ⟨o, vs, ct, h1, h2, h3, h4, h5, h6, h7, oc, xs, n, h8, h9, h10⟩ := x.obj
  exact ⟨o, vs, ct, hk _ _ h1, h2, h3, h4, h5, h6, h7, oc, xs, n, hk _ _ h8, h9, h10⟩
noncomputable def patCode1 : List Nat := [14, 4, 0, 1, 1, 6, 1, 16, 46, 1]
noncomputable def patCode2 : List Nat := [14, 9, 4, 1, 2, 16, 10, 16, 13, 0, 7, 7, 16, 13, 16, 10, 15, 18, 5, 16, 10, 15, 13, 11, 16, 13, 5, 5, 0, 16, 10, 1, 15, 2, 0, 1]
/-- what the call finds at the top -/
structure Globs (B : Heap) (mg mb : Str → Option Value) : Prop where
  ok : GlobOk B mg mb
  twin_re_1 : mg "_twin_re_1" = some (.ref 87)
  twin_re_2 : mg "_twin_re_2" = some (.ref 92)
  CRLF : ∃ t, mg "CRLF" = some (.str "\r\n" t)
  b1_set : mg "b1_set" = some (.ref 39)
  c7_set : mg "c7_set" = some (.ref 51)
  len : mg "len" = none ∧ mb "len" = some (.builtin "len")
  sum : mg "sum" = none ∧ mb "sum" = some (.builtin "sum")
  max : mg "max" = none ∧ mb "max" = some (.builtin "max")
  chr : mg "chr" = none ∧ mb "chr" = some (.builtin "chr")
  ord : mg "ord" = none ∧ mb "ord" = some (.builtin "ord")
  list : mg "list" = none ∧ mb "list" = some (.type "list")
  range : mg "range" = none ∧ mb "range" = some (.type "range")
  enumerate : mg "enumerate" = none ∧ mb "enumerate" = some (.type "enumerate")
  zip : mg "zip" = none ∧ mb "zip" = some (.type "zip")
  NT_OFFSET : ∃ t, mg "NT_OFFSET" = some (.int 256 t)
  ENDMARKER : ∃ t, mg "ENDMARKER" = some (.int 0 t)
  n_in_table_b1 : mg "in_table_b1" = some (.ref 49)
  o_in_table_b1 : OfFn B 49
  n_in_table_c7 : mg "in_table_c7" = some (.ref 61)
  o_in_table_c7 : OfFn B 61
  n__iter_escaped_chars : mg "_iter_escaped_chars" = some (.ref 68)
  o__iter_escaped_chars : OfFn B 68
  n__strip_quoted_realnames : mg "_strip_quoted_realnames" = some (.ref 75)
  o__strip_quoted_realnames : OfFn B 75
  n__check_parenthesis : mg "_check_parenthesis" = some (.ref 82)
  o__check_parenthesis : OfFn B 82
  n_quotedata : mg "quotedata" = some (.ref 99)
  o_quotedata : OfFn B 99
  n_ISTERMINAL : mg "ISTERMINAL" = some (.ref 106)
  o_ISTERMINAL : OfFn B 106
  n_ISEOF : mg "ISEOF" = some (.ref 113)
  o_ISEOF : OfFn B 113
  n__law_draw : mg "_law_draw" = some (.ref 120)
  o__law_draw : OfFn B 120
  n__law_depths : mg "_law_depths" = some (.ref 127)
  o__law_depths : OfFn B 127
  n__law_is_tree : mg "_law_is_tree" = some (.ref 134)
  o__law_is_tree : OfFn B 134
  n__law_word : mg "_law_word" = some (.ref 141)
  o__law_word : OfFn B 141
  n__law_mail : mg "_law_mail" = some (.ref 146)
  o__law_mail : OfFn B 146
  n__law_agrees : mg "_law_agrees" = some (.ref 151)
  o__law_agrees : OfFn B 151
theorem Globs.mono (G : Globs B₀ mg mb) (h : ∀ b o, B₀.get? b = some o → B.get? b = some o) : Globs B mg mb where
  ok := G.ok.mono h
  twin_re_1 := G.twin_re_1
  twin_re_2 := G.twin_re_2
  CRLF := G.CRLF
  b1_set := G.b1_set
  c7_set := G.c7_set
  len := G.len
  sum := G.sum
  max := G.max
  chr := G.chr
  ord := G.ord
  list := G.list
  range := G.range
  enumerate := G.enumerate
  zip := G.zip
  NT_OFFSET := G.NT_OFFSET
  ENDMARKER := G.ENDMARKER
  n_in_table_b1 := G.n_in_table_b1
  o_in_table_b1 := G.o_in_table_b1.mono h
  n_in_table_c7 := G.n_in_table_c7
  o_in_table_c7 := G.o_in_table_c7.mono h
  n__iter_escaped_chars := G.n__iter_escaped_chars
  o__iter_escaped_chars := G.o__iter_escaped_chars.mono h
  n__strip_quoted_realnames := G.n__strip_quoted_realnames
  o__strip_quoted_realnames := G.o__strip_quoted_realnames.mono h
  n__check_parenthesis := G.n__check_parenthesis
  o__check_parenthesis := G.o__check_parenthesis.mono h
  n_quotedata := G.n_quotedata
  o_quotedata := G.o_quotedata.mono h
  n_ISTERMINAL := G.n_ISTERMINAL
  o_ISTERMINAL := G.o_ISTERMINAL.mono h
  n_ISEOF := G.n_ISEOF
  o_ISEOF := G.o_ISEOF.mono h
  n__law_draw := G.n__law_draw
  o__law_draw := G.o__law_draw.mono h
  n__law_depths := G.n__law_depths
  o__law_depths := G.o__law_depths.mono h
  n__law_is_tree := G.n__law_is_tree
  o__law_is_tree := G.o__law_is_tree.mono h
  n__law_word := G.n__law_word
  o__law_word := G.o__law_word.mono h
  n__law_mail := G.n__law_mail
  o__law_mail := G.o__law_mail.mono h
  n__law_agrees := G.n__law_agrees
  o__law_agrees := G.o__law_agrees.mono h
/-- what the two sets hold -/
noncomputable def setB1 : List Int := [173, 847, 6150, 6155, 6156, 6157, 8203, 8204, 8205, 8288, 65279, 65024, 65025, 65026, 65027, 65028, 65029, 65030, 65031, 65032, 65033, 65034, 65035, 65036, 65037, 65038, 65039]
noncomputable def setC7 : List Int := [12272, 12273, 12274, 12275, 12276, 12277, 12278, 12279, 12280, 12281, 12282, 12283]
/-- and what the defs are -/
structure Tops (prog : Program) (w : World) (B : Heap) (mg mb : Str → Option Value) : Prop extends Globs B mg mb where
  p_1 : IsPat B 87 patCode1
  p_2 : IsPat B 92 patCode2
  s_b1 : B.SetOf (intKind prog w) 39 (fun k => setB1.contains k) 27
  s_c7 : B.SetOf (intKind prog w) 51 (fun k => setC7.contains k) 12
  f_in_table_b1 : DefAt B 49 "in_table_b1" (stAt 3)
  f_in_table_c7 : DefAt B 61 "in_table_c7" (stAt 5)
  f__iter_escaped_chars : DefAt B 68 "_iter_escaped_chars" (stAt 7)
  f__strip_quoted_realnames : DefAt B 75 "_strip_quoted_realnames" (stAt 8)
  f__check_parenthesis : DefAt B 82 "_check_parenthesis" (stAt 9)
  f_quotedata : DefAt B 99 "quotedata" (stAt 14)
  f_ISTERMINAL : DefAt B 106 "ISTERMINAL" (stAt 18)
  f_ISEOF : DefAt B 113 "ISEOF" (stAt 19)
  f__law_draw : DefAt B 120 "_law_draw" (stAt 21)
  f__law_depths : DefAt B 127 "_law_depths" (stAt 22)
  f__law_is_tree : DefAt B 134 "_law_is_tree" (stAt 23)
  f__law_word : DefAt B 141 "_law_word" (stAt 24)
  f__law_mail : DefAt B 146 "_law_mail" (stAt 25)
  f__law_agrees : DefAt B 151 "_law_agrees" (stAt 26)

theorem bind1 {fd : FuncData} {x : Str} (h : ∀ a, bindArgs fd ⟨[a], []⟩ = pure [(x, a)]) : ∀ as : List Value, as.length = [x].length → bindArgs fd ⟨as, []⟩ = pure ([x].zip as)
  | [a], _ => h a
theorem bind3 {fd : FuncData} {x y z : Str} (h : ∀ a b c, bindArgs fd ⟨[a, b, c], []⟩ = pure [(x, a), (y, b), (z, c)]) : ∀ as : List Value, as.length = [x, y, z].length → bindArgs fd ⟨as, []⟩ = pure ([x, y, z].zip as)
  | [a, b, c], _ => h a b c
noncomputable def exprF : AV → F AFlow
  | .none => F.pure .next
  | _ => F.fail
theorem mo_append : MethOk "list" "append" "list.append" := ⟨PySem.F.plainAttrs_list, slot_list_append, PySem.F.type_list_append⟩
theorem mo_pop : MethOk "list" "pop" "list.pop" := ⟨PySem.F.plainAttrs_list, PySem.F.slot_list_pop, PySem.F.type_list_pop⟩
theorem mo_extend : MethOk "list" "extend" "list.extend" := ⟨PySem.F.plainAttrs_list, PySem.F.slot_list_extend, PySem.F.type_list_extend⟩
theorem mo_index : MethOk "list" "index" "list.index" := ⟨PySem.F.plainAttrs_list, PySem.F.slot_list_index, PySem.F.type_list_index⟩
theorem mo_join : MethOk "str" "join" "str.join" := ⟨PySem.F.plainAttrs_str, PySem.F.slot_str_join, PySem.F.type_str_join⟩
end Mine
end

section
set_option maxRecDepth 100000
set_option maxHeartbeats 4000000
set_option linter.unusedVariables false
open PySem PySem.W PyProof.Rows PySem.Calls PySem.Challenge
namespace Mine
variable {prog : Program} {w : World} {B₀ B : Heap} {mg mb : Str → Option Value}

noncomputable def fIsTerminal : F AFlow := (seqF (F.bind (F.bind (getVar 0) fun v1 => F.bind (F.pure (.int 256)) fun v2 => ltF v1 v2) fun v3 => F.pure (.ret v3)) (F.pure .next))
noncomputable def gIsTerminal (ds : List DV) : Option DV := if ds.length = 1 then callF 0 fIsTerminal ds else none
theorem fnIsTerminal {d : Nat} (T : Tops prog w B₀ mg mb) : Fn prog w B₀ (d + 1) 106 gIsTerminal := by
  obtain ⟨o, pm, cd, doc, ho, hdata, hcd⟩ := T.f_ISTERMINAL
  refine fn_def (d := d) (ps := ["x"]) (vs := []) (f := fIsTerminal) ho hdata T.ok.lim hcd (bind1 fun _ => rfl) (by decide +kernel) (by decide +kernel) rfl rfl rfl (by decide +kernel) (fun B hB z L ok => ?_)
  have G := T.toGlobs.mono hB
  refine den_cons ?_ ?_
  refine den_ret ?_
  refine den_cmp ?_ ?_ op_lt rfl
  exact den_loc (i := 0) rfl rfl rfl rfl
  exact den_glob (u := .int 256) (gname G.ok rfl rfl G.NT_OFFSET.choose_spec) (fun _ => rfl) rfl
  exact den_nil

noncomputable def fIsEof : F AFlow := (seqF (F.bind (F.bind (getVar 0) fun v4 => F.bind (F.pure (.int 0)) fun v5 => (eqF false) v4 v5) fun v6 => F.pure (.ret v6)) (F.pure .next))
noncomputable def gIsEof (ds : List DV) : Option DV := if ds.length = 1 then callF 0 fIsEof ds else none
theorem fnIsEof {d : Nat} (T : Tops prog w B₀ mg mb) : Fn prog w B₀ (d + 1) 113 gIsEof := by
  obtain ⟨o, pm, cd, doc, ho, hdata, hcd⟩ := T.f_ISEOF
  refine fn_def (d := d) (ps := ["x"]) (vs := []) (f := fIsEof) ho hdata T.ok.lim hcd (bind1 fun _ => rfl) (by decide +kernel) (by decide +kernel) rfl rfl rfl (by decide +kernel) (fun B hB z L ok => ?_)
  have G := T.toGlobs.mono hB
  refine den_cons ?_ ?_
  refine den_ret ?_
  refine den_cmp ?_ ?_ op_eq rfl
  exact den_loc (i := 0) rfl rfl rfl rfl
  exact den_glob (u := .int 0) (gname G.ok rfl rfl G.ENDMARKER.choose_spec) (fun _ => rfl) rfl
  exact den_nil

noncomputable def fDepths : F AFlow := (seqF (F.bind (F.bind (F.bind (F.pure (.int 0)) fun v8 => F.bind (F.pure []) fun v9 => F.pure (v8 :: v9)) fun v10 => newAt (.list v10)) fun v7 => F.bind (setVar 1 v7) fun _ => F.pure .next) (seqF (F.bind (F.bind (F.pure []) fun v12 => newAt (.list v12)) fun v11 => F.bind (setVar 2 v11) fun _ => F.pure .next) (seqF (F.bind (F.bind (getVar 0) srcVal) fun it41 => forF it41 (st1 3) (seqF (F.bind (F.bind (getVar 1) fun v14 => F.bind (typed "list" v14) fun _ => popM v14) fun v13 => F.bind (setVar 4 v13) fun _ => F.pure .next) (seqF (F.bind (F.bind (getVar 3) fun v17 => F.bind (F.pure (.str "(")) fun v18 => F.bind ((eqF false) v17 v18) truF) fun v40 => match v40 with | true => (seqF (F.bind (F.bind (getVar 1) fun v19 => F.bind (typed "list" v19) fun _ => F.bind (F.bind (F.bind (F.bind (F.bind (getVar 4) fun v22 => F.bind (F.pure (.int 1)) fun v23 => addF v22 v23) fun v28 => F.bind (F.bind (F.bind (getVar 4) fun v24 => F.bind (F.pure (.int 1)) fun v25 => addF v24 v25) fun v26 => F.bind (F.pure []) fun v27 => F.pure (v26 :: v27)) fun v29 => F.pure (v28 :: v29)) fun v30 => newAt (.list v30)) fun v31 => F.bind (F.pure []) fun v32 => F.pure (v31 :: v32)) fun v21 => extendM v19 v21) fun v33 => exprF v33) (F.pure .next)) | false => (seqF (F.bind (F.bind (getVar 2) fun v34 => F.bind (typed "list" v34) fun _ => F.bind (F.bind (getVar 4) fun v37 => F.bind (F.pure []) fun v38 => F.pure (v37 :: v38)) fun v36 => appendM v34 v36) fun v39 => exprF v39) (F.pure .next))) (F.pure .next))) 40 0) (seqF (F.bind (getVar 2) fun v42 => F.pure (.ret v42)) (F.pure .next)))))
noncomputable def gDepths (ds : List DV) : Option DV := if ds.length = 1 then callF 4 fDepths ds else none
theorem fnDepths {d : Nat} (T : Tops prog w B₀ mg mb) : Fn prog w B₀ (d + 1) 127 gDepths := by
  obtain ⟨o, pm, cd, doc, ho, hdata, hcd⟩ := T.f__law_depths
  refine fn_def (d := d) (ps := ["word"]) (vs := ["pending", "depths", "sign", "depth"]) (f := fDepths) ho hdata T.ok.lim hcd (bind1 fun _ => rfl) (by decide +kernel) (by decide +kernel) rfl rfl rfl (by decide +kernel) (fun B hB z L ok => ?_)
  have G := T.toGlobs.mono hB
  refine den_cons ?_ ?_
  refine den_assign ok (Stores.loc (i := 1) rfl rfl) ?_ rfl
  refine den_list ?_
  refine denL_cons ?_ ?_ (by intro _ _ h; cases h)
  exact den_int
  exact denL_nil
  refine den_cons ?_ ?_
  refine den_assign ok (Stores.loc (i := 2) rfl rfl) ?_ rfl
  refine den_list ?_
  exact denL_nil
  refine den_cons ?_ ?_
  refine den_for 40 ?_ ?_ ?_ (fun _ => rfl)
  refine src_val ?_
  exact den_loc (i := 0) rfl rfl rfl rfl
  exact tgt_name ok (Stores.loc (i := 3) rfl rfl)
  refine den_cons ?_ ?_
  refine den_assign ok (Stores.loc (i := 4) rfl rfl) ?_ rfl
  refine den_meth0 mo_pop rfl rfl ?_ op_pop
  exact den_loc (i := 1) rfl rfl rfl rfl
  refine den_cons ?_ ?_
  refine den_if ?_ ?_ ?_
  refine den_testcmp ?_ ?_ op_eq op_tru rfl
  exact den_loc (i := 3) rfl rfl rfl rfl
  exact den_str
  refine den_cons ?_ ?_
  refine den_expr ?_ rfl rfl
  refine den_meth mo_extend rfl rfl rfl (by intro _ _ h; cases h) (fun _ => rfl) ?_ ?_ op_extend
  exact den_loc (i := 1) rfl rfl rfl rfl
  refine denL_cons ?_ ?_ (by intro _ _ h; cases h)
  refine den_list ?_
  refine denL_cons ?_ ?_ (by intro _ _ h; cases h)
  refine den_bin ?_ ?_ op_add
  exact den_loc (i := 4) rfl rfl rfl rfl
  exact den_int
  refine denL_cons ?_ ?_ (by intro _ _ h; cases h)
  refine den_bin ?_ ?_ op_add
  exact den_loc (i := 4) rfl rfl rfl rfl
  exact den_int
  exact denL_nil
  exact denL_nil
  exact den_nil
  refine den_cons ?_ ?_
  refine den_expr ?_ rfl rfl
  refine den_meth mo_append rfl rfl rfl (by intro _ _ h; cases h) (fun _ => rfl) ?_ ?_ op_append
  exact den_loc (i := 2) rfl rfl rfl rfl
  refine denL_cons ?_ ?_ (by intro _ _ h; cases h)
  exact den_loc (i := 4) rfl rfl rfl rfl
  exact denL_nil
  exact den_nil
  exact den_nil
  refine den_cons ?_ ?_
  refine den_ret ?_
  exact den_loc (i := 2) rfl rfl rfl rfl
  exact den_nil

noncomputable def fInB1 : F AFlow := (seqF (F.bind (F.bind (F.bind (F.bind (getVar 0) fun v43 => F.bind (F.pure []) fun v44 => F.pure (v43 :: v44)) ordF) (inF fun k => setB1.contains k)) fun v45 => F.pure (.ret v45)) (F.pure .next))
noncomputable def gInB1 (ds : List DV) : Option DV := if ds.length = 1 then callF 0 fInB1 ds else none
theorem fnInB1 {d : Nat} (T : Tops prog w B₀ mg mb) : Fn prog w B₀ (d + 1) 49 gInB1 := by
  obtain ⟨o, pm, cd, doc, ho, hdata, hcd⟩ := T.f_in_table_b1
  refine fn_def (d := d) (ps := ["code"]) (vs := []) (f := fInB1) ho hdata T.ok.lim hcd (bind1 fun _ => rfl) (by decide +kernel) (by decide +kernel) rfl rfl rfl (by decide +kernel) (fun B hB z L ok => ?_)
  have G := T.toGlobs.mono hB
  refine den_cons ?_ ?_
  refine den_ret ?_
  refine den_inset (gname G.ok rfl rfl G.b1_set) (SetOf.mono T.s_b1 hB) ?_ rfl rfl
  refine den_call (gnameb G.ok rfl rfl G.ord.1 G.ord.2) (.builtin _) ?_ op_ord (by intro _ _ h; cases h) (fun _ => rfl) rfl
  refine denL_cons ?_ ?_ (by intro _ _ h; cases h)
  exact den_loc (i := 0) rfl rfl rfl rfl
  exact denL_nil
  exact den_nil

noncomputable def fInC7 : F AFlow := (seqF (F.bind (F.bind (F.bind (F.bind (getVar 0) fun v46 => F.bind (F.pure []) fun v47 => F.pure (v46 :: v47)) ordF) (inF fun k => setC7.contains k)) fun v48 => F.pure (.ret v48)) (F.pure .next))
noncomputable def gInC7 (ds : List DV) : Option DV := if ds.length = 1 then callF 0 fInC7 ds else none
theorem fnInC7 {d : Nat} (T : Tops prog w B₀ mg mb) : Fn prog w B₀ (d + 1) 61 gInC7 := by
  obtain ⟨o, pm, cd, doc, ho, hdata, hcd⟩ := T.f_in_table_c7
  refine fn_def (d := d) (ps := ["code"]) (vs := []) (f := fInC7) ho hdata T.ok.lim hcd (bind1 fun _ => rfl) (by decide +kernel) (by decide +kernel) rfl rfl rfl (by decide +kernel) (fun B hB z L ok => ?_)
  have G := T.toGlobs.mono hB
  refine den_cons ?_ ?_
  refine den_ret ?_
  refine den_inset (gname G.ok rfl rfl G.c7_set) (SetOf.mono T.s_c7 hB) ?_ rfl rfl
  refine den_call (gnameb G.ok rfl rfl G.ord.1 G.ord.2) (.builtin _) ?_ op_ord (by intro _ _ h; cases h) (fun _ => rfl) rfl
  refine denL_cons ?_ ?_ (by intro _ _ h; cases h)
  exact den_loc (i := 0) rfl rfl rfl rfl
  exact denL_nil
  exact den_nil

end Mine
end

section
set_option maxRecDepth 100000
set_option maxHeartbeats 4000000
set_option linter.unusedVariables false
open PySem PySem.W PyProof.Rows PySem.Calls PySem.Challenge
namespace Mine
variable {prog : Program} {w : World} {B₀ B : Heap} {mg mb : Str → Option Value}

noncomputable def fWord : F AFlow := (seqF (F.bind (F.pure (.str "")) fun v1 => F.bind (setVar 1 v1) fun _ => F.pure .next) (seqF (F.bind (F.pure (.int 0)) fun v2 => F.bind (setVar 2 v2) fun _ => F.pure .next) (seqF (F.bind (F.bind (getVar 0) srcVal) fun it41 => forF it41 (st1 3) (seqF (F.bind (F.bind (F.pure (.int 2)) fun v6 => F.bind (F.bind (F.pure (.int 8)) fun v4 => F.bind (getVar 3) fun v5 => subF v4 v5) fun v7 => powF v6 v7) fun v3 => F.bind (setVar 4 v3) fun _ => F.pure .next) (seqF (F.bind (F.bind (getVar 2) fun v9 => F.bind (F.bind (getVar 2) negF) fun v10 => andF v9 v10) fun v8 => F.bind (setVar 5 v8) fun _ => F.pure .next) (seqF (F.bind (F.bind (getVar 2) fun v11 => F.bind (F.pure (.int 0)) fun v12 => F.bind ((eqF false) v11 v12) truF) fun v14 => match v14 with | true => (seqF (F.bind (F.pure (.int 256)) fun v13 => F.bind (setVar 5 v13) fun _ => F.pure .next) (F.pure .next)) | false => (F.pure .next)) (seqF (F.bind (F.bind (F.bind (getVar 5) fun v15 => F.bind (getVar 4) fun v16 => F.bind (ltF v15 v16) truF) fun v24 => match v24 with | true => F.pure true | false => (F.bind (F.bind (F.bind (F.bind (F.bind (F.bind (getVar 2) fun v17 => F.bind (getVar 4) fun v18 => addF v17 v18) fun v19 => F.bind (F.pure (.int 1)) fun v20 => subF v19 v20) fun v21 => F.bind (F.pure []) fun v22 => F.pure (v21 :: v22)) (appF gIsTerminal)) truF) fun v23 => F.pure !v23)) fun v26 => match v26 with | true => (seqF (F.bind (F.pure .none) fun v25 => F.pure (.ret v25)) (F.pure .next)) | false => (F.pure .next)) (seqF (whileF (F.bind (getVar 5) fun v27 => F.bind (getVar 4) fun v28 => F.bind (gtF v27 v28) truF) (seqF (F.bind (F.bind (getVar 1) fun v30 => F.bind (F.pure (.str "(")) fun v31 => addF v30 v31) fun v29 => F.bind (setVar 1 v29) fun _ => F.pure .next) (seqF (F.bind (F.bind (getVar 5) fun v33 => F.bind (F.pure (.int 2)) fun v34 => divF v33 v34) fun v32 => F.bind (setVar 5 v32) fun _ => F.pure .next) (F.pure .next))) 40) (seqF (F.bind (F.bind (getVar 1) fun v36 => F.bind (F.pure (.str ")")) fun v37 => addF v36 v37) fun v35 => F.bind (setVar 1 v35) fun _ => F.pure .next) (seqF (F.bind (F.bind (getVar 2) fun v39 => F.bind (getVar 4) fun v40 => addF v39 v40) fun v38 => F.bind (setVar 2 v38) fun _ => F.pure .next) (F.pure .next)))))))) 40 0) (seqF (F.bind (F.bind (F.bind (F.bind (F.bind (F.pure (.int 256)) fun v42 => F.bind (getVar 2) fun v43 => subF v42 v43) fun v44 => F.bind (F.pure []) fun v45 => F.pure (v44 :: v45)) (appF gIsEof)) fun v48 => F.bind (F.bind (F.bind (getVar 2) fun v46 => F.bind (F.pure []) fun v47 => F.pure (v46 :: v47)) (appF gIsTerminal)) fun v49 => F.bind (isF v48 v49) truF) fun v51 => match v51 with | true => (seqF (F.bind (F.pure (.str "")) fun v50 => F.pure (.ret v50)) (F.pure .next)) | false => (F.pure .next)) (seqF (F.bind (F.bind (F.bind (F.bind (F.bind (F.bind (F.pure (.int 256)) fun v52 => F.bind (getVar 2) fun v53 => subF v52 v53) fun v54 => F.bind (F.pure []) fun v55 => F.pure (v54 :: v55)) (appF gIsEof)) truF) fun v56 => match v56 with | true => (getVar 1) | false => (F.pure .none)) fun v57 => F.pure (.ret v57)) (F.pure .next))))))
noncomputable def gWord (ds : List DV) : Option DV := if ds.length = 1 then callF 5 fWord ds else none
theorem fnWord {d : Nat} (T : Tops prog w B₀ mg mb) : Fn prog w B₀ (d + 2) 141 gWord := by
  obtain ⟨o, pm, cd, doc, ho, hdata, hcd⟩ := T.f__law_word
  refine fn_def (d := d + 1) (ps := ["row"]) (vs := ["word", "total", "depth", "share", "digit"]) (f := fWord) ho hdata T.ok.lim hcd (bind1 fun _ => rfl) (by decide +kernel) (by decide +kernel) rfl rfl rfl (by decide +kernel) (fun B hB z L ok => ?_)
  have G := T.toGlobs.mono hB
  refine den_cons ?_ ?_
  refine den_assign ok (Stores.loc (i := 1) rfl rfl) ?_ rfl
  exact den_str
  refine den_cons ?_ ?_
  refine den_assign ok (Stores.loc (i := 2) rfl rfl) ?_ rfl
  exact den_int
  refine den_cons ?_ ?_
  refine den_for 40 ?_ ?_ ?_ (fun _ => rfl)
  refine src_val ?_
  exact den_loc (i := 0) rfl rfl rfl rfl
  exact tgt_name ok (Stores.loc (i := 3) rfl rfl)
  refine den_cons ?_ ?_
  refine den_assign ok (Stores.loc (i := 4) rfl rfl) ?_ rfl
  refine den_bin ?_ ?_ op_pow
  exact den_int
  refine den_bin ?_ ?_ op_sub
  exact den_int
  exact den_loc (i := 3) rfl rfl rfl rfl
  refine den_cons ?_ ?_
  refine den_assign ok (Stores.loc (i := 5) rfl rfl) ?_ rfl
  refine den_bin ?_ ?_ op_and
  exact den_loc (i := 2) rfl rfl rfl rfl
  refine den_un ?_ op_neg
  exact den_loc (i := 2) rfl rfl rfl rfl
  refine den_cons ?_ ?_
  refine den_if ?_ ?_ ?_
  refine den_testcmp ?_ ?_ op_eq op_tru rfl
  exact den_loc (i := 2) rfl rfl rfl rfl
  exact den_int
  refine den_cons ?_ ?_
  refine den_assign ok (Stores.loc (i := 5) rfl rfl) ?_ rfl
  exact den_int
  exact den_nil
  exact den_nil
  refine den_cons ?_ ?_
  refine den_if ?_ ?_ ?_
  refine den_or2 ?_ ?_
  refine den_testcmp ?_ ?_ op_lt op_tru rfl
  exact den_loc (i := 5) rfl rfl rfl rfl
  exact den_loc (i := 4) rfl rfl rfl rfl
  refine den_not ?_
  refine den_test ?_ op_tru rfl
  refine den_call (gname G.ok rfl rfl G.n_ISTERMINAL) (G.o_ISTERMINAL.callee) ?_ (fnIsTerminal (d := d + 0) T _ rfl rfl hB) (by intro _ _ h; cases h) (fun _ => rfl) rfl
  refine denL_cons ?_ ?_ (by intro _ _ h; cases h)
  refine den_bin ?_ ?_ op_sub
  refine den_bin ?_ ?_ op_add
  exact den_loc (i := 2) rfl rfl rfl rfl
  exact den_loc (i := 4) rfl rfl rfl rfl
  exact den_int
  exact denL_nil
  refine den_cons ?_ ?_
  refine den_ret ?_
  exact den_none
  exact den_nil
  exact den_nil
  refine den_cons ?_ ?_
  refine den_while 40 ?_ ?_
  refine den_testcmp ?_ ?_ op_gt op_tru rfl
  exact den_loc (i := 5) rfl rfl rfl rfl
  exact den_loc (i := 4) rfl rfl rfl rfl
  refine den_cons ?_ ?_
  refine den_assign ok (Stores.loc (i := 1) rfl rfl) ?_ rfl
  refine den_bin ?_ ?_ op_add
  exact den_loc (i := 1) rfl rfl rfl rfl
  exact den_str
  refine den_cons ?_ ?_
  refine den_assign ok (Stores.loc (i := 5) rfl rfl) ?_ rfl
  refine den_bin ?_ ?_ op_div
  exact den_loc (i := 5) rfl rfl rfl rfl
  exact den_int
  exact den_nil
  refine den_cons ?_ ?_
  refine den_assign ok (Stores.loc (i := 1) rfl rfl) ?_ rfl
  refine den_bin ?_ ?_ op_add
  exact den_loc (i := 1) rfl rfl rfl rfl
  exact den_str
  refine den_cons ?_ ?_
  refine den_assign ok (Stores.loc (i := 2) rfl rfl) ?_ rfl
  refine den_bin ?_ ?_ op_add
  exact den_loc (i := 2) rfl rfl rfl rfl
  exact den_loc (i := 4) rfl rfl rfl rfl
  exact den_nil
  refine den_cons ?_ ?_
  refine den_if ?_ ?_ ?_
  refine den_testcmp ?_ ?_ op_is op_tru rfl
  refine den_call (gname G.ok rfl rfl G.n_ISEOF) (G.o_ISEOF.callee) ?_ (fnIsEof (d := d + 0) T _ rfl rfl hB) (by intro _ _ h; cases h) (fun _ => rfl) rfl
  refine denL_cons ?_ ?_ (by intro _ _ h; cases h)
  refine den_bin ?_ ?_ op_sub
  exact den_int
  exact den_loc (i := 2) rfl rfl rfl rfl
  exact denL_nil
  refine den_call (gname G.ok rfl rfl G.n_ISTERMINAL) (G.o_ISTERMINAL.callee) ?_ (fnIsTerminal (d := d + 0) T _ rfl rfl hB) (by intro _ _ h; cases h) (fun _ => rfl) rfl
  refine denL_cons ?_ ?_ (by intro _ _ h; cases h)
  exact den_loc (i := 2) rfl rfl rfl rfl
  exact denL_nil
  refine den_cons ?_ ?_
  refine den_ret ?_
  exact den_str
  exact den_nil
  exact den_nil
  refine den_cons ?_ ?_
  refine den_ret ?_
  refine den_ifexp ?_ ?_ ?_
  refine den_test ?_ op_tru rfl
  refine den_call (gname G.ok rfl rfl G.n_ISEOF) (G.o_ISEOF.callee) ?_ (fnIsEof (d := d + 0) T _ rfl rfl hB) (by intro _ _ h; cases h) (fun _ => rfl) rfl
  refine denL_cons ?_ ?_ (by intro _ _ h; cases h)
  refine den_bin ?_ ?_ op_sub
  exact den_int
  exact den_loc (i := 2) rfl rfl rfl rfl
  exact denL_nil
  exact den_loc (i := 1) rfl rfl rfl rfl
  exact den_none
  exact den_nil

noncomputable def fIsTree : F AFlow := (seqF (whileF (F.bind (F.bind (F.bind (getVar 0) fun v58 => F.bind (F.pure []) fun v59 => F.pure (v58 :: v59)) lenF) fun v60 => F.bind (F.pure (.int 1)) fun v61 => F.bind (gtF v60 v61) truF) (seqF (F.bind (F.bind (getVar 0) fun v63 => F.bind (typed "list" v63) fun _ => F.bind (F.bind (F.bind (F.bind (getVar 0) fun v66 => F.bind (F.pure []) fun v67 => F.pure (v66 :: v67)) maxF) fun v68 => F.bind (F.pure []) fun v69 => F.pure (v68 :: v69)) fun v65 => indexM v63 v65) fun v62 => F.bind (setVar 1 v62) fun _ => F.pure .next) (seqF (F.bind (F.bind (F.bind (getVar 0) fun v70 => F.bind (F.bind (getVar 1) fun v73 => F.bind (F.pure (.int 1)) fun v74 => addF v73 v74) fun v71 => F.bind (F.bind (getVar 1) fun v75 => F.bind (F.pure (.int 2)) fun v76 => addF v75 v76) fun v72 => sliceF v70 v71 v72) fun v83 => F.bind (F.bind (F.bind (F.bind (getVar 0) fun v77 => F.bind (getVar 1) fun v78 => itemF v77 v78) fun v80 => F.bind (F.pure []) fun v81 => F.pure (v80 :: v81)) fun v82 => newAt (.list v82)) fun v84 => F.bind ((eqF true) v83 v84) truF) fun v86 => match v86 with | true => (seqF (F.bind (F.pure (.bool false)) fun v85 => F.pure (.ret v85)) (F.pure .next)) | false => (F.pure .next)) (seqF (F.bind (F.bind (F.bind (F.bind (getVar 0) fun v88 => F.bind (F.pure .none) fun v89 => F.bind (getVar 1) fun v90 => sliceF v88 v89 v90) fun v99 => F.bind (F.bind (F.bind (F.bind (F.bind (getVar 0) fun v91 => F.bind (getVar 1) fun v92 => itemF v91 v92) fun v94 => F.bind (F.pure (.int 1)) fun v95 => subF v94 v95) fun v96 => F.bind (F.pure []) fun v97 => F.pure (v96 :: v97)) fun v98 => newAt (.list v98)) fun v100 => addF v99 v100) fun v106 => F.bind (F.bind (getVar 0) fun v101 => F.bind (F.bind (getVar 1) fun v104 => F.bind (F.pure (.int 2)) fun v105 => addF v104 v105) fun v102 => F.bind (F.pure .none) fun v103 => sliceF v101 v102 v103) fun v107 => addF v106 v107) fun v87 => F.bind (setVar 0 v87) fun _ => F.pure .next) (F.pure .next)))) 40) (seqF (F.bind (F.bind (getVar 0) fun v111 => F.bind (F.bind (F.bind (F.pure (.int 0)) fun v108 => F.bind (F.pure []) fun v109 => F.pure (v108 :: v109)) fun v110 => newAt (.list v110)) fun v112 => (eqF false) v111 v112) fun v113 => F.pure (.ret v113)) (F.pure .next)))
noncomputable def gIsTree (ds : List DV) : Option DV := if ds.length = 1 then callF 1 fIsTree ds else none
theorem fnIsTree {d : Nat} (T : Tops prog w B₀ mg mb) : Fn prog w B₀ (d + 1) 134 gIsTree := by
  obtain ⟨o, pm, cd, doc, ho, hdata, hcd⟩ := T.f__law_is_tree
  refine fn_def (d := d) (ps := ["row"]) (vs := ["k"]) (f := fIsTree) ho hdata T.ok.lim hcd (bind1 fun _ => rfl) (by decide +kernel) (by decide +kernel) rfl rfl rfl (by decide +kernel) (fun B hB z L ok => ?_)
  have G := T.toGlobs.mono hB
  refine den_cons ?_ ?_
  refine den_while 40 ?_ ?_
  refine den_testcmp ?_ ?_ op_gt op_tru rfl
  refine den_call (gnameb G.ok rfl rfl G.len.1 G.len.2) (.builtin _) ?_ op_len (by intro _ _ h; cases h) (fun _ => rfl) rfl
  refine denL_cons ?_ ?_ (by intro _ _ h; cases h)
  exact den_loc (i := 0) rfl rfl rfl rfl
  exact denL_nil
  exact den_int
  refine den_cons ?_ ?_
  refine den_assign ok (Stores.loc (i := 1) rfl rfl) ?_ rfl
  refine den_meth mo_index rfl rfl rfl (by intro _ _ h; cases h) (fun _ => rfl) ?_ ?_ op_index
  exact den_loc (i := 0) rfl rfl rfl rfl
  refine denL_cons ?_ ?_ (by intro _ _ h; cases h)
  refine den_call (gnameb G.ok rfl rfl G.max.1 G.max.2) (.builtin _) ?_ op_max (by intro _ _ h; cases h) (fun _ => rfl) rfl
  refine denL_cons ?_ ?_ (by intro _ _ h; cases h)
  exact den_loc (i := 0) rfl rfl rfl rfl
  exact denL_nil
  exact denL_nil
  refine den_cons ?_ ?_
  refine den_if ?_ ?_ ?_
  refine den_testcmp ?_ ?_ op_ne op_tru rfl
  refine den_slice ?_ ?_ ?_
  exact den_loc (i := 0) rfl rfl rfl rfl
  refine part_some ?_
  refine den_bin ?_ ?_ op_add
  exact den_loc (i := 1) rfl rfl rfl rfl
  exact den_int
  refine part_some ?_
  refine den_bin ?_ ?_ op_add
  exact den_loc (i := 1) rfl rfl rfl rfl
  exact den_int
  refine den_list ?_
  refine denL_cons ?_ ?_ (by intro _ _ h; cases h)
  refine den_item ?_ ?_ (fun _ _ => rfl)
  exact den_loc (i := 0) rfl rfl rfl rfl
  exact den_loc (i := 1) rfl rfl rfl rfl
  exact denL_nil
  refine den_cons ?_ ?_
  refine den_ret ?_
  exact den_bool
  exact den_nil
  exact den_nil
  refine den_cons ?_ ?_
  refine den_assign ok (Stores.loc (i := 0) rfl rfl) ?_ rfl
  refine den_bin ?_ ?_ op_add
  refine den_bin ?_ ?_ op_add
  refine den_slice ?_ ?_ ?_
  exact den_loc (i := 0) rfl rfl rfl rfl
  exact part_none
  refine part_some ?_
  exact den_loc (i := 1) rfl rfl rfl rfl
  refine den_list ?_
  refine denL_cons ?_ ?_ (by intro _ _ h; cases h)
  refine den_bin ?_ ?_ op_sub
  refine den_item ?_ ?_ (fun _ _ => rfl)
  exact den_loc (i := 0) rfl rfl rfl rfl
  exact den_loc (i := 1) rfl rfl rfl rfl
  exact den_int
  exact denL_nil
  refine den_slice ?_ ?_ ?_
  exact den_loc (i := 0) rfl rfl rfl rfl
  refine part_some ?_
  refine den_bin ?_ ?_ op_add
  exact den_loc (i := 1) rfl rfl rfl rfl
  exact den_int
  exact part_none
  exact den_nil
  refine den_cons ?_ ?_
  refine den_ret ?_
  refine den_cmp ?_ ?_ op_eq rfl
  exact den_loc (i := 0) rfl rfl rfl rfl
  refine den_list ?_
  refine denL_cons ?_ ?_ (by intro _ _ h; cases h)
  exact den_int
  exact denL_nil
  exact den_nil

end Mine
end

section
set_option maxRecDepth 100000
set_option maxHeartbeats 4000000
set_option linter.unusedVariables false
open PySem PySem.W PyProof.Rows PySem.Calls PySem.Challenge
namespace Mine
variable {prog : Program} {w : World} {B₀ B : Heap} {mg mb : Str → Option Value}

noncomputable def fDraw : F AFlow := (seqF (F.bind (F.bind (F.bind (F.bind (F.pure (.int 173)) fun v22 => F.bind (F.bind (F.pure (.int 847)) fun v20 => F.bind (F.bind (F.pure (.int 6150)) fun v18 => F.bind (F.bind (F.pure (.int 6155)) fun v16 => F.bind (F.bind (F.pure (.int 6156)) fun v14 => F.bind (F.bind (F.pure (.int 6157)) fun v12 => F.bind (F.bind (F.pure (.int 8203)) fun v10 => F.bind (F.bind (F.pure (.int 8204)) fun v8 => F.bind (F.bind (F.pure (.int 8205)) fun v6 => F.bind (F.bind (F.pure (.int 8288)) fun v4 => F.bind (F.bind (F.pure (.int 65279)) fun v2 => F.bind (F.pure []) fun v3 => F.pure (v2 :: v3)) fun v5 => F.pure (v4 :: v5)) fun v7 => F.pure (v6 :: v7)) fun v9 => F.pure (v8 :: v9)) fun v11 => F.pure (v10 :: v11)) fun v13 => F.pure (v12 :: v13)) fun v15 => F.pure (v14 :: v15)) fun v17 => F.pure (v16 :: v17)) fun v19 => F.pure (v18 :: v19)) fun v21 => F.pure (v20 :: v21)) fun v23 => F.pure (v22 :: v23)) fun v24 => newAt (.list v24)) fun v27 => F.bind (F.bind (F.pure (.int 65024)) fun v25 => F.bind (F.pure (.int 65040)) fun v26 => listRangeF v25 v26) fun v28 => addF v27 v28) fun v1 => F.bind (setVar 1 v1) fun _ => F.pure .next) (seqF (F.bind (F.bind (F.bind (F.pure (.str "a")) fun v48 => F.bind (F.bind (F.pure (.str "b")) fun v46 => F.bind (F.bind (F.bind (F.bind (F.pure (.int 255)) fun v30 => F.bind (F.pure []) fun v31 => F.pure (v30 :: v31)) chrF) fun v44 => F.bind (F.bind (F.bind (F.bind (F.pure (.int 256)) fun v32 => F.bind (F.pure []) fun v33 => F.pure (v32 :: v33)) chrF) fun v42 => F.bind (F.bind (F.bind (F.bind (F.pure (.int 12271)) fun v34 => F.bind (F.pure []) fun v35 => F.pure (v34 :: v35)) chrF) fun v40 => F.bind (F.bind (F.bind (F.bind (F.pure (.int 12284)) fun v36 => F.bind (F.pure []) fun v37 => F.pure (v36 :: v37)) chrF) fun v38 => F.bind (F.pure []) fun v39 => F.pure (v38 :: v39)) fun v41 => F.pure (v40 :: v41)) fun v43 => F.pure (v42 :: v43)) fun v45 => F.pure (v44 :: v45)) fun v47 => F.pure (v46 :: v47)) fun v49 => F.pure (v48 :: v49)) fun v50 => newAt (.list v50)) fun v29 => F.bind (setVar 2 v29) fun _ => F.pure .next) (seqF (F.bind (F.bind (F.bind (F.pure (.int 55)) fun v62 => F.bind (F.bind (F.pure (.int 3)) fun v60 => F.bind (F.bind (F.pure (.int 0)) fun v58 => F.bind (F.bind (F.pure (.int 18)) fun v56 => F.bind (F.bind (F.pure (.int 5)) fun v54 => F.bind (F.bind (F.pure (.int 1)) fun v52 => F.bind (F.pure []) fun v53 => F.pure (v52 :: v53)) fun v55 => F.pure (v54 :: v55)) fun v57 => F.pure (v56 :: v57)) fun v59 => F.pure (v58 :: v59)) fun v61 => F.pure (v60 :: v61)) fun v63 => F.pure (v62 :: v63)) fun v64 => newAt (.list v64)) fun v51 => F.bind (setVar 3 v51) fun _ => F.pure .next) (seqF (F.bind (F.pure (.str "")) fun v65 => F.bind (setVar 4 v65) fun _ => F.bind (setVar 5 v65) fun _ => F.bind (setVar 6 v65) fun _ => F.pure .next) (seqF (F.bind (F.pure (.int 1)) fun v66 => F.bind (setVar 7 v66) fun _ => F.pure .next) (seqF (F.bind (F.bind (F.pure (.int 6)) srcRange) fun it155 => forF it155 (st1 8) (seqF (F.bind (F.bind (F.bind (getVar 3) fun v68 => F.bind (getVar 8) fun v69 => itemF v68 v69) fun v82 => F.bind (F.bind (F.bind (F.bind (F.bind (getVar 0) fun v71 => F.bind (getVar 8) fun v72 => F.bind (F.bind (getVar 8) fun v74 => F.bind (F.pure (.int 1)) fun v75 => addF v74 v75) fun v73 => sliceF v71 v72 v73) fun v76 => F.bind (F.pure []) fun v77 => F.pure (v76 :: v77)) sumF) fun v80 => F.bind (F.bind (F.pure (.int 10)) fun v78 => F.bind (F.pure (.int 6)) fun v79 => powF v78 v79) fun v81 => modF v80 v81) fun v83 => addF v82 v83) fun v67 => F.bind (setVar 9 v67) fun _ => F.pure .next) (seqF (F.bind (F.bind (getVar 9) fun v85 => F.bind (F.pure (.int 5)) fun v86 => divF v85 v86) fun v84 => F.bind (setVar 10 v84) fun _ => F.pure .next) (seqF (F.bind (F.bind (F.bind (getVar 7) fun v87 => F.bind (F.pure (.int 0)) fun v88 => F.bind (gtF v87 v88) truF) fun v93 => match v93 with | false => F.pure false | true => (F.bind (F.bind (getVar 10) fun v89 => F.bind (F.pure (.int 2)) fun v90 => modF v89 v90) fun v91 => F.bind (F.pure (.int 1)) fun v92 => F.bind ((eqF false) v91 v92) truF)) fun v106 => match v106 with | true => (seqF (F.bind (F.bind (getVar 4) fun v104 => F.bind (F.bind (F.bind (F.bind (getVar 1) fun v95 => F.bind (F.bind (F.bind (getVar 10) fun v98 => F.bind (F.pure (.int 2)) fun v99 => divF v98 v99) fun v100 => F.bind (F.pure (.int 27)) fun v101 => modF v100 v101) fun v96 => itemF v95 v96) fun v102 => F.bind (F.pure []) fun v103 => F.pure (v102 :: v103)) chrF) fun v105 => addF v104 v105) fun v94 => F.bind (setVar 4 v94) fun _ => F.pure .next) (F.pure .next)) | false => (F.pure .next)) (seqF (F.bind (F.bind (F.bind (getVar 7) fun v107 => F.bind (F.pure (.int 0)) fun v108 => F.bind (gtF v107 v108) truF) fun v113 => match v113 with | false => F.pure false | true => (F.bind (F.bind (getVar 9) fun v109 => F.bind (F.pure (.int 5)) fun v110 => modF v109 v110) fun v111 => F.bind (F.pure (.int 3)) fun v112 => F.bind (ltF v111 v112) truF)) fun v154 => match v154 with | true => (seqF (F.bind (F.bind (getVar 4) fun v121 => F.bind (F.bind (F.bind (F.bind (F.pure (.int 12272)) fun v117 => F.bind (F.bind (getVar 10) fun v115 => F.bind (F.pure (.int 12)) fun v116 => modF v115 v116) fun v118 => addF v117 v118) fun v119 => F.bind (F.pure []) fun v120 => F.pure (v119 :: v120)) chrF) fun v122 => addF v121 v122) fun v114 => F.bind (setVar 4 v114) fun _ => F.pure .next) (seqF (F.bind (F.bind (getVar 5) fun v124 => F.bind (F.pure (.str "(")) fun v125 => addF v124 v125) fun v123 => F.bind (setVar 5 v123) fun _ => F.pure .next) (seqF (F.bind (F.bind (getVar 7) fun v127 => F.bind (F.pure (.int 1)) fun v128 => addF v127 v128) fun v126 => F.bind (setVar 7 v126) fun _ => F.pure .next) (F.pure .next)))) | false => (seqF (F.bind (F.bind (getVar 7) fun v129 => F.bind (F.pure (.int 0)) fun v130 => F.bind (gtF v129 v130) truF) fun v153 => match v153 with | true => (seqF (F.bind (F.bind (getVar 4) fun v137 => F.bind (F.bind (getVar 2) fun v132 => F.bind (F.bind (getVar 10) fun v135 => F.bind (F.pure (.int 6)) fun v136 => modF v135 v136) fun v133 => itemF v132 v133) fun v138 => addF v137 v138) fun v131 => F.bind (setVar 4 v131) fun _ => F.pure .next) (seqF (F.bind (F.bind (getVar 6) fun v145 => F.bind (F.bind (getVar 2) fun v140 => F.bind (F.bind (getVar 10) fun v143 => F.bind (F.pure (.int 6)) fun v144 => modF v143 v144) fun v141 => itemF v140 v141) fun v146 => addF v145 v146) fun v139 => F.bind (setVar 6 v139) fun _ => F.pure .next) (seqF (F.bind (F.bind (getVar 5) fun v148 => F.bind (F.pure (.str ")")) fun v149 => addF v148 v149) fun v147 => F.bind (setVar 5 v147) fun _ => F.pure .next) (seqF (F.bind (F.bind (getVar 7) fun v151 => F.bind (F.pure (.int 1)) fun v152 => subF v151 v152) fun v150 => F.bind (setVar 7 v150) fun _ => F.pure .next) (F.pure .next))))) | false => (F.pure .next)) (F.pure .next))) (F.pure .next))))) 40 0) (seqF (F.bind (F.bind (F.bind (F.bind (getVar 4) fun v158 => F.bind (F.bind (F.pure (.str "z")) fun v156 => F.bind (getVar 7) fun v157 => mulF v156 v157) fun v159 => addF v158 v159) fun v172 => F.bind (F.bind (F.bind (getVar 5) fun v162 => F.bind (F.bind (F.pure (.str ")")) fun v160 => F.bind (getVar 7) fun v161 => mulF v160 v161) fun v163 => addF v162 v163) fun v170 => F.bind (F.bind (F.bind (getVar 6) fun v166 => F.bind (F.bind (F.pure (.str "z")) fun v164 => F.bind (getVar 7) fun v165 => mulF v164 v165) fun v167 => addF v166 v167) fun v168 => F.bind (F.pure []) fun v169 => F.pure (v168 :: v169)) fun v171 => F.pure (v170 :: v171)) fun v173 => F.pure (v172 :: v173)) fun v174 => newAt (.tup v174)) fun v175 => F.pure (.ret v175)) (F.pure .next))))))))
noncomputable def gDraw (ds : List DV) : Option DV := if ds.length = 1 then callF 10 fDraw ds else none
theorem fnDraw {d : Nat} (T : Tops prog w B₀ mg mb) : Fn prog w B₀ (d + 1) 120 gDraw := by
  obtain ⟨o, pm, cd, doc, ho, hdata, hcd⟩ := T.f__law_draw
  refine fn_def (d := d) (ps := ["script"]) (vs := ["nothing", "leaves", "base", "text", "word", "names", "lacking", "k", "x", "y"]) (f := fDraw) ho hdata T.ok.lim hcd (bind1 fun _ => rfl) (by decide +kernel) (by decide +kernel) rfl rfl rfl (by decide +kernel) (fun B hB z L ok => ?_)
  have G := T.toGlobs.mono hB
  refine den_cons ?_ ?_
  refine den_assign ok (Stores.loc (i := 1) rfl rfl) ?_ rfl
  refine den_bin ?_ ?_ op_add
  refine den_list ?_
  refine denL_cons ?_ ?_ (by intro _ _ h; cases h)
  exact den_int
  refine denL_cons ?_ ?_ (by intro _ _ h; cases h)
  exact den_int
  refine denL_cons ?_ ?_ (by intro _ _ h; cases h)
  exact den_int
  refine denL_cons ?_ ?_ (by intro _ _ h; cases h)
  exact den_int
  refine denL_cons ?_ ?_ (by intro _ _ h; cases h)
  exact den_int
  refine denL_cons ?_ ?_ (by intro _ _ h; cases h)
  exact den_int
  refine denL_cons ?_ ?_ (by intro _ _ h; cases h)
  exact den_int
  refine denL_cons ?_ ?_ (by intro _ _ h; cases h)
  exact den_int
  refine denL_cons ?_ ?_ (by intro _ _ h; cases h)
  exact den_int
  refine denL_cons ?_ ?_ (by intro _ _ h; cases h)
  exact den_int
  refine denL_cons ?_ ?_ (by intro _ _ h; cases h)
  exact den_int
  exact denL_nil
  refine den_listRange (gnameb G.ok rfl rfl G.list.1 G.list.2) (gnameb G.ok rfl rfl G.range.1 G.range.2) ?_ ?_ rfl
  exact den_int
  exact den_int
  refine den_cons ?_ ?_
  refine den_assign ok (Stores.loc (i := 2) rfl rfl) ?_ rfl
  refine den_list ?_
  refine denL_cons ?_ ?_ (by intro _ _ h; cases h)
  exact den_str
  refine denL_cons ?_ ?_ (by intro _ _ h; cases h)
  exact den_str
  refine denL_cons ?_ ?_ (by intro _ _ h; cases h)
  refine den_call (gnameb G.ok rfl rfl G.chr.1 G.chr.2) (.builtin _) ?_ op_chr (by intro _ _ h; cases h) (fun _ => rfl) rfl
  refine denL_cons ?_ ?_ (by intro _ _ h; cases h)
  exact den_int
  exact denL_nil
  refine denL_cons ?_ ?_ (by intro _ _ h; cases h)
  refine den_call (gnameb G.ok rfl rfl G.chr.1 G.chr.2) (.builtin _) ?_ op_chr (by intro _ _ h; cases h) (fun _ => rfl) rfl
  refine denL_cons ?_ ?_ (by intro _ _ h; cases h)
  exact den_int
  exact denL_nil
  refine denL_cons ?_ ?_ (by intro _ _ h; cases h)
  refine den_call (gnameb G.ok rfl rfl G.chr.1 G.chr.2) (.builtin _) ?_ op_chr (by intro _ _ h; cases h) (fun _ => rfl) rfl
  refine denL_cons ?_ ?_ (by intro _ _ h; cases h)
  exact den_int
  exact denL_nil
  refine denL_cons ?_ ?_ (by intro _ _ h; cases h)
  refine den_call (gnameb G.ok rfl rfl G.chr.1 G.chr.2) (.builtin _) ?_ op_chr (by intro _ _ h; cases h) (fun _ => rfl) rfl
  refine denL_cons ?_ ?_ (by intro _ _ h; cases h)
  exact den_int
  exact denL_nil
  exact denL_nil
  refine den_cons ?_ ?_
  refine den_assign ok (Stores.loc (i := 3) rfl rfl) ?_ rfl
  refine den_list ?_
  refine denL_cons ?_ ?_ (by intro _ _ h; cases h)
  exact den_int
  refine denL_cons ?_ ?_ (by intro _ _ h; cases h)
  exact den_int
  refine denL_cons ?_ ?_ (by intro _ _ h; cases h)
  exact den_int
  refine denL_cons ?_ ?_ (by intro _ _ h; cases h)
  exact den_int
  refine denL_cons ?_ ?_ (by intro _ _ h; cases h)
  exact den_int
  refine denL_cons ?_ ?_ (by intro _ _ h; cases h)
  exact den_int
  exact denL_nil
  refine den_cons ?_ ?_
  refine den_assign3 ok (Stores.loc (i := 4) rfl rfl) (Stores.loc (i := 5) rfl rfl) (Stores.loc (i := 6) rfl rfl) ?_
  exact den_str
  refine den_cons ?_ ?_
  refine den_assign ok (Stores.loc (i := 7) rfl rfl) ?_ rfl
  exact den_int
  refine den_cons ?_ ?_
  refine den_for 40 ?_ ?_ ?_ (fun _ => rfl)
  refine src_range (gnameb G.ok rfl rfl G.range.1 G.range.2) ?_ (by intro _ _ h; cases h)
  exact den_int
  exact tgt_name ok (Stores.loc (i := 8) rfl rfl)
  refine den_cons ?_ ?_
  refine den_assign ok (Stores.loc (i := 9) rfl rfl) ?_ rfl
  refine den_bin ?_ ?_ op_add
  refine den_item ?_ ?_ (fun _ _ => rfl)
  exact den_loc (i := 3) rfl rfl rfl rfl
  exact den_loc (i := 8) rfl rfl rfl rfl
  refine den_bin ?_ ?_ op_mod
  refine den_call (gnameb G.ok rfl rfl G.sum.1 G.sum.2) (.builtin _) ?_ op_sum (by intro _ _ h; cases h) (fun _ => rfl) rfl
  refine denL_cons ?_ ?_ (by intro _ _ h; cases h)
  refine den_slice ?_ ?_ ?_
  exact den_loc (i := 0) rfl rfl rfl rfl
  refine part_some ?_
  exact den_loc (i := 8) rfl rfl rfl rfl
  refine part_some ?_
  refine den_bin ?_ ?_ op_add
  exact den_loc (i := 8) rfl rfl rfl rfl
  exact den_int
  exact denL_nil
  refine den_bin ?_ ?_ op_pow
  exact den_int
  exact den_int
  refine den_cons ?_ ?_
  refine den_assign ok (Stores.loc (i := 10) rfl rfl) ?_ rfl
  refine den_bin ?_ ?_ op_div
  exact den_loc (i := 9) rfl rfl rfl rfl
  exact den_int
  refine den_cons ?_ ?_
  refine den_if ?_ ?_ ?_
  refine den_and2 ?_ ?_
  refine den_testcmp ?_ ?_ op_gt op_tru rfl
  exact den_loc (i := 7) rfl rfl rfl rfl
  exact den_int
  refine den_testcmp ?_ ?_ op_eq op_tru rfl
  refine den_bin ?_ ?_ op_mod
  exact den_loc (i := 10) rfl rfl rfl rfl
  exact den_int
  exact den_int
  refine den_cons ?_ ?_
  refine den_assign ok (Stores.loc (i := 4) rfl rfl) ?_ rfl
  refine den_bin ?_ ?_ op_add
  exact den_loc (i := 4) rfl rfl rfl rfl
  refine den_call (gnameb G.ok rfl rfl G.chr.1 G.chr.2) (.builtin _) ?_ op_chr (by intro _ _ h; cases h) (fun _ => rfl) rfl
  refine denL_cons ?_ ?_ (by intro _ _ h; cases h)
  refine den_item ?_ ?_ (fun _ _ => rfl)
  exact den_loc (i := 1) rfl rfl rfl rfl
  refine den_bin ?_ ?_ op_mod
  refine den_bin ?_ ?_ op_div
  exact den_loc (i := 10) rfl rfl rfl rfl
  exact den_int
  exact den_int
  exact denL_nil
  exact den_nil
  exact den_nil
  refine den_cons ?_ ?_
  refine den_if ?_ ?_ ?_
  refine den_and2 ?_ ?_
  refine den_testcmp ?_ ?_ op_gt op_tru rfl
  exact den_loc (i := 7) rfl rfl rfl rfl
  exact den_int
  refine den_testcmp ?_ ?_ op_lt op_tru rfl
  refine den_bin ?_ ?_ op_mod
  exact den_loc (i := 9) rfl rfl rfl rfl
  exact den_int
  exact den_int
  refine den_cons ?_ ?_
  refine den_assign ok (Stores.loc (i := 4) rfl rfl) ?_ rfl
  refine den_bin ?_ ?_ op_add
  exact den_loc (i := 4) rfl rfl rfl rfl
  refine den_call (gnameb G.ok rfl rfl G.chr.1 G.chr.2) (.builtin _) ?_ op_chr (by intro _ _ h; cases h) (fun _ => rfl) rfl
  refine denL_cons ?_ ?_ (by intro _ _ h; cases h)
  refine den_bin ?_ ?_ op_add
  exact den_int
  refine den_bin ?_ ?_ op_mod
  exact den_loc (i := 10) rfl rfl rfl rfl
  exact den_int
  exact denL_nil
  refine den_cons ?_ ?_
  refine den_assign ok (Stores.loc (i := 5) rfl rfl) ?_ rfl
  refine den_bin ?_ ?_ op_add
  exact den_loc (i := 5) rfl rfl rfl rfl
  exact den_str
  refine den_cons ?_ ?_
  refine den_assign ok (Stores.loc (i := 7) rfl rfl) ?_ rfl
  refine den_bin ?_ ?_ op_add
  exact den_loc (i := 7) rfl rfl rfl rfl
  exact den_int
  exact den_nil
  refine den_cons ?_ ?_
  refine den_if ?_ ?_ ?_
  refine den_testcmp ?_ ?_ op_gt op_tru rfl
  exact den_loc (i := 7) rfl rfl rfl rfl
  exact den_int
  refine den_cons ?_ ?_
  refine den_assign ok (Stores.loc (i := 4) rfl rfl) ?_ rfl
  refine den_bin ?_ ?_ op_add
  exact den_loc (i := 4) rfl rfl rfl rfl
  refine den_item ?_ ?_ (fun _ _ => rfl)
  exact den_loc (i := 2) rfl rfl rfl rfl
  refine den_bin ?_ ?_ op_mod
  exact den_loc (i := 10) rfl rfl rfl rfl
  exact den_int
  refine den_cons ?_ ?_
  refine den_assign ok (Stores.loc (i := 6) rfl rfl) ?_ rfl
  refine den_bin ?_ ?_ op_add
  exact den_loc (i := 6) rfl rfl rfl rfl
  refine den_item ?_ ?_ (fun _ _ => rfl)
  exact den_loc (i := 2) rfl rfl rfl rfl
  refine den_bin ?_ ?_ op_mod
  exact den_loc (i := 10) rfl rfl rfl rfl
  exact den_int
  refine den_cons ?_ ?_
  refine den_assign ok (Stores.loc (i := 5) rfl rfl) ?_ rfl
  refine den_bin ?_ ?_ op_add
  exact den_loc (i := 5) rfl rfl rfl rfl
  exact den_str
  refine den_cons ?_ ?_
  refine den_assign ok (Stores.loc (i := 7) rfl rfl) ?_ rfl
  refine den_bin ?_ ?_ op_sub
  exact den_loc (i := 7) rfl rfl rfl rfl
  exact den_int
  exact den_nil
  exact den_nil
  exact den_nil
  exact den_nil
  refine den_cons ?_ ?_
  refine den_ret ?_
  refine den_tuple ?_
  refine denL_cons ?_ ?_ (by intro _ _ h; cases h)
  refine den_bin ?_ ?_ op_add
  exact den_loc (i := 4) rfl rfl rfl rfl
  refine den_bin ?_ ?_ op_mul
  exact den_str
  exact den_loc (i := 7) rfl rfl rfl rfl
  refine denL_cons ?_ ?_ (by intro _ _ h; cases h)
  refine den_bin ?_ ?_ op_add
  exact den_loc (i := 5) rfl rfl rfl rfl
  refine den_bin ?_ ?_ op_mul
  exact den_str
  exact den_loc (i := 7) rfl rfl rfl rfl
  refine denL_cons ?_ ?_ (by intro _ _ h; cases h)
  refine den_bin ?_ ?_ op_add
  exact den_loc (i := 6) rfl rfl rfl rfl
  refine den_bin ?_ ?_ op_mul
  exact den_str
  exact den_loc (i := 7) rfl rfl rfl rfl
  exact denL_nil
  exact den_nil

end Mine
end

section
set_option maxRecDepth 100000
set_option maxHeartbeats 1000000
set_option linter.unusedVariables false
open PySem PySem.W PyProof.Rows PySem.Calls PySem.Challenge
namespace Mine

section
variable {M : Model} {A : Around} {R : GenEnd} {Y : Protocol} {n : Nat} {s₀ : Shared} {c : Code} {fs : List Frame} {s : Shared} {env : Env}
  {K : Flow → Sem Fin} {H : Value → Sem Fin} {gd : Bool → Bool} {lv : List Value → List Value}
theorem seg_bindW {α β : Type} {m : Sem α} {k : α → Sem β} {K' : β → Sem Fin} {H' : Value → Sem Fin} {E : Value → Shared → Prop}
    (h : wpAny M (A.over c fs) m (fun a s' => Seg M A R Y n s₀ c ((k a).wrap K' H' gd lv) fs s') (fun x s' => Seg M A R Y n s₀ c (H' x) fs s') s) : Seg M A R Y n s₀ c ((m >>= k).wrap K' H' gd lv) fs s :=
  seg_bind_wrap h
theorem seg_stmt {st : Stmt} (h : wpAny M (A.over c fs) (exec st env) (fun f s' => Seg M A R Y n s₀ c (K f) fs s') (fun x s' => Seg M A R Y n s₀ c (H x) fs s') s) :
    Seg M A R Y n s₀ c ((exec st env).wrap K H gd lv) fs s := seg_wrap h
theorem seg_If {t : Expr} {b₁ b₂ : List Stmt} {pos : Pos}
    (h : wpAny M (A.over c fs) (isTrue t env (eval t env)) (fun b s' => match b with
      | true => Seg M A R Y n s₀ c ((execs b₁ env).wrap K H gd lv) fs s'
      | false => Seg M A R Y n s₀ c ((execs b₂ env).wrap K H gd lv) fs s') (fun x s' => Seg M A R Y n s₀ c (H x) fs s') s) :
    Seg M A R Y n s₀ c ((exec (.If t b₁ b₂ pos) env).wrap K H gd lv) fs s := by
  rw [exec_If]
  refine seg_bind_wrap (wpAny_standAt ?_)
  refine seg_bind_wrap (wpAny_mono h (fun b s' hb => ?_) fun _ _ e => e)
  cases b with
  | true => exact hb
  | false => exact hb
/-- what stands behind a loop that a def's frame runs -/
noncomputable def ownK (env : Env) (r : Result) : Sem Flow := (match r with | .ok f => (.pure f : Sem Flow) | .error e => .raise e).onRaise fun (x : Value) => do
  if (← field x 1) == Value.none then unsupported "frame.own-activation:exception-without-traceback"
  setFlight x env.frame
theorem seg_For {tgt iter : Expr} {body orelse : List Stmt} {pos : Pos} (hs : ∀ x, foldedSetIterable iter env x = pure x)
    (h : wpAny M (A.over c fs) (eval iter env) (fun x s₁ => wpAny M (A.over c fs) (pyIter x) (fun it s₂ => ∀ p,
      Seg M A R Y n s₀ (.forLoop tgt it body orelse env) (M.den (.forLoop tgt it body orelse env)) (.ret (fun r => (ownK env r).wrap K H gd lv) none (gd false) (lv []) c p [] :: fs) s₂)
        (fun x s' => Seg M A R Y n s₀ c (H x) fs s') s₁) (fun x s' => Seg M A R Y n s₀ c (H x) fs s') s) :
    Seg M A R Y n s₀ c ((exec (.For tgt iter body orelse pos) env).wrap K H gd lv) fs s := by
  rw [exec_For]
  refine seg_bind_wrap (wpAny_standAt ?_)
  refine seg_bind_wrap (wpAny_mono h (fun x s₁ h₁ => ?_) fun _ _ e => e)
  refine seg_bind_wrap (wpAny_of_eq (hs x) ?_)
  refine seg_bind_wrap (wpAny_standAt ?_)
  refine seg_bind_wrap (wpAny_holding (wpAny_mono h₁ (fun it s₂ h₂ => ?_) fun _ _ e => e))
  exact seg_call h₂
end

section
variable {prog : Program} {w : World} {A : Around} {R : GenEnd} {Y : Protocol} {n : Nat} {s₀ : Shared} {fs : List Frame} {s : Shared} {env : Env}
noncomputable abbrev turnK (tgt : Expr) (it : Value) (body : List Stmt) (env : Env) (f : Flow) : Sem Fin := match f with
  | .next | .cont => .pure (.again (.forLoop tgt it body [] env))
  | .brk => .pure (.done .next)
  | .ret v => .pure (.done (.ret v))
noncomputable abbrev turnH (env : Env) (e : Value) : Sem Fin := (do noteFrame e env; theTreesLotGoes e : Sem Unit).bind fun _ => .raise e
theorem seg_forLoop {tgt : Expr} {it : Value} {body : List Stmt} {k : Result → Sem Fin} {h' : Option Value} {g' : Bool} {l' : List Value} {c₁ : Code} {p₁ : Pos} {kp : List Value}
    (h : ∀ E, wpAny (model prog w) (A.over (.forLoop tgt it body [] env) (.ret k h' g' l' c₁ p₁ kp :: fs)) (pyNext it) (fun r s₁ => match r with
      | none => Seg (model prog w) A R Y n s₀ c₁ (k (.ok .next)) fs s₁
      | some v => wpAny (model prog w) (A.over (.forLoop tgt it body [] env) (.ret k h' g' l' c₁ p₁ kp :: fs)) (letOwnedTupleGo tgt it v) (fun _ s₂ =>
          wpAny (model prog w) (A.over (.forLoop tgt it body [] env) (.ret k h' g' l' c₁ p₁ kp :: fs)) (assign tgt env v) (fun _ s₃ =>
            Seg (model prog w) A R Y n s₀ (.forLoop tgt it body [] env) ((execs body env).wrap (turnK tgt it body env) (turnH env) id id) (.ret k h' g' l' c₁ p₁ kp :: fs) s₃) E s₂) E s₁) E s) :
    Seg (model prog w) A R Y n s₀ (.forLoop tgt it body [] env) ((model prog w).den (.forLoop tgt it body [] env)) (.ret k h' g' l' c₁ p₁ kp :: fs) s := by
  show Seg _ A R Y n s₀ _ ((forTurn tgt it body [] env).onRaise (fun x => do noteFrame x env; theTreesLotGoes x)) _ s
  unfold forTurn
  rw [Sem.onRaise_eq_wrap]
  refine seg_bind_wrap (wpAny_standAt ?_)
  refine seg_bind_wrap (wpAny_onRaise (wpAny_mono (h _) (fun r s₁ h₁ => ?_) fun x s' h' => wpAny_standAt h'))
  cases r with
  | none =>
    show Seg _ A R Y n s₀ _ (.pure (.again (.block [] env))) _ s₁
    refine seg_again rfl ?_
    show Seg _ A R Y n s₀ _ ((execs [] env) >>= fun f => pure (.done f)) _ s₁
    exact seg_leaf (.ok .next) h₁
  | some v =>
    refine seg_bind_wrap (wpAny_mono h₁ (fun _ s₂ h₂ => ?_) fun _ _ e => e)
    refine seg_bind_wrap (wpAny_mono h₂ (fun _ s₃ h₃ => ?_) fun _ _ e => e)
    rw [Sem.bind_eq_wrap', Sem.wrap_wrap]
    rw [Sem.wrap_congr (execs body env) _ _ (K' := turnK tgt it body env) (H' := turnH env) (fun f => by cases f <;> rfl) (fun e => by rfl)]
    exact h₃
end
end Mine
end

section
set_option maxRecDepth 100000
set_option maxHeartbeats 1000000
set_option linter.unusedVariables false
open PySem PySem.W PyProof.Rows PySem.Calls PySem.Challenge
namespace Mine

/-- what a segment of the generator may turn -/
structure GMove (FP : List Addr) (s s' : Shared) : Prop where
  keep : ∀ b o, s.heap.get? b = some o → b ∉ FP → s'.heap.get? b = some o
  gens : GExt s.gens s'.gens
  os : s'.os = s.os
theorem GMove.refl (FP : List Addr) (s : Shared) : GMove FP s s := ⟨fun _ _ e _ => e, .refl _, rfl⟩
theorem GMove.trans {FP : List Addr} {s s' s'' : Shared} (x : GMove FP s s') (y : GMove FP s' s'') : GMove FP s s'' :=
  ⟨fun b o e h => y.keep b o (x.keep b o e h) h, x.gens.trans y.gens, y.os.trans x.os⟩
theorem GMove.of_ext {c : Cx} {σ' : List Addr} {FP : List Addr} {s s' : Shared} (x : Ext c [] s σ' s') (h : ∀ b ∈ c.mt, b ∈ FP) : GMove FP s s' :=
  ⟨fun b o e hb => x.keep b o e (fun hm => hb (h b hm)) (by simp), x.gens, x.os⟩

theorem low_func {d : Nat} {A : Around} {body : List Stmt} {env : Env} (h : Low (d + 2) A) : Low d (A.in1.over (.func body env) []) := by
  obtain ⟨h1, h2, h3⟩ := h
  refine ⟨h1, ?_, ?_⟩
  · show A.depth + 0 + 1 + d < _; omega
  · show A.units + 1 + 0 + 3 + 20 * d + 100 < _; omega
theorem low_loop {d : Nat} {A : Around} {body body' : List Stmt} {env env' : Env} {tgt : Expr} {it : Value} {k : Result → Sem PySem.Fin} {p : Pos} (h : Low (d + 2) A) :
    Low d (A.in1.over (.forLoop tgt it body' [] env') [.ret k none false [] (.func body env) p []]) := by
  obtain ⟨h1, h2, h3⟩ := h
  refine ⟨h1, ?_, ?_⟩
  · show A.depth + (1 + 0) + 0 + d < _; omega
  · show A.units + 1 + (3 + 0) + 0 + 20 * d + 100 < _; omega

section
variable {prog : Program} {w : World} {A : Around} {E : Value → Shared → Prop} {s : Shared}
theorem pyNext_genQ {a : Addr} {g n : Nat} {gs : GenState} {P : Nat → Shared → Shared → Prop} {Y : Protocol} {Q : Option Value → Shared → Prop} (hh : A.handled = none)
    (hl : s.heap.NoLimit) (hroom : A.depth < recursionLimit) (hg : s.heap.IsGen a g) (hgs : s.gens[g]? = some gs)
    (hgo : gs.Goes (model prog w) A.in1 (fun n s₀ r s₁ => r = .ok (.ret .none) ∧ P n s₀ s₁) Y n (.send .none) (s.setGen g .running))
    (hY : ∀ v s₁ gs', gs'.bare = true → Y (n - 1) (s.setGen g .running) v s₁ (fun r' s'' => match n with
        | 0 => False
        | m + 1 => gs'.Goes (model prog w) A.in1 (fun n s₀ r s₁ => r = .ok (.ret .none) ∧ P n s₀ s₁) Y m r' s'') → Q (some v) (s₁.setGen g gs'))
    (hP : ∀ s₁, P n (s.setGen g .running) s₁ → ∀ h', (∀ b o, s₁.heap.get? b = some o → h'.get? b = some o) → Q none { s₁.setGen g .finished with heap := h' }) :
    wpAny (model prog w) A (pyNext (.ref a)) Q E s := by
  unfold pyNext
  refine wpAny_bind (wpAny_attempt (wpAny_callSpecial?_slot (name := Str.ofString "__next__") hg.typeIs slot_gen_next
    (wpAny_call_entry slot_gen_next hg.typeIs entry_gen_next ?_ (args_gen_next _))))
  show wpAny _ A.in1 (Builtin.Generator.genWake (.ref a) (.send .none)) _ _ s
  unfold Builtin.Generator.genWake
  refine wpAny_bind (wpAny_holding (wpAny_genNumber hg (wpAny_bind (wpAny_genState hgs ?_))))
  cases gs with
  | running => exact hgo.elim
  | finished => exact hgo.elim
  | _ =>
    refine wpAny_bind (wpAny_roomToWake hl hroom ?_)
    show wpAny _ A.in1 (.resume g (.send .none) [] _) _ _ s
    refine wpAny_resumeQ hgs hgo (fun x s₁ hx => ?_) (fun v s₁ gs' hb hv => ?_)
    · obtain ⟨rfl, hp⟩ := hx
      show wpAny _ A.in1 (newExc (.type "StopIteration") [] >>= _) _ _ _
      refine wpAny_bind ?_
      simp only [newExc, newTuple]
      refine wpAny_bind (wpAny_newObj_type ?_ (by size_fits))
      refine wpAny_bind (m := firstArgMember _ _) (wpAny_of_eq (a := Value.none) (by first | rfl | (simp only [firstArgMember]; rfl)) ?_)
      refine wpAny_newObj_type ?_ (by size_fits)
      simp only [raiseNew]
      refine wpAny_bind (wpAny_bind (wpAny_handled ?_))
      first | rw [show A.in1.handled = none from hh] | rw [hh]
      refine wpAny_throw ?_
      refine wpAny_bind (wpAny_isInstance (T := "StopIteration") (b := true) ⟨_, Heap.get?_push_size _ rfl, rfl⟩ isSubtype_stop ?_)
      exact wpAny_pure (hP s₁ hp _ fun b o hb => Heap.get?_push_of_some _ (Heap.get?_push_of_some _ hb))
    · exact wpAny_pure ⟨v, rfl, wpAny_pure (hY v s₁ gs' hb hv)⟩
end

-- the plain law of the generator
noncomputable def escGo : List (Nat × Nat) → Bool → Nat → List (AV × AV)
  | [], e, p => match e with
    | true => [(.int p, .str "\\")]
    | false => []
  | (p, ch) :: r, true, _ => (.int p, .str (("\\" : Str) ++ ⟨#[ch]⟩)) :: escGo r false p
  | (p, ch) :: r, false, _ => match (⟨#[ch]⟩ : Str).cps.toList == ("\\" : Str).cps.toList with
    | true => escGo r true p
    | false => (.int p, .str ⟨#[ch]⟩) :: escGo r false p
noncomputable def escEnd : List (Nat × Nat) → Bool → Bool
  | [], e => e
  | _ :: r, true => escEnd r false
  | (_, ch) :: r, false => match (⟨#[ch]⟩ : Str).cps.toList == ("\\" : Str).cps.toList with
    | true => escEnd r true
    | false => escEnd r false
noncomputable def escItems (x : Str) : List (AV × AV) := escGo ((List.range x.cps.size).zip x.cps.toList) false 0
end Mine
end

section
set_option maxRecDepth 100000
set_option maxHeartbeats 2000000
set_option linter.unusedVariables false
open PySem PySem.W PyProof.Rows PySem.Calls PySem.Challenge
namespace Mine

noncomputable abbrev gName : Str := "_iter_escaped_chars"
noncomputable def gScope : Scope := fScope (stAt 7)
noncomputable def gBody : List Stmt := fBody (stAt 7)
noncomputable def gTgt : Expr := match gBody with
  | _ :: _ :: .For t _ _ _ _ :: _ => t
  | _ => .Name "" ⟨0, 0, 0, 0⟩
noncomputable def gLoop : List Stmt := match gBody with
  | _ :: _ :: .For _ _ b _ _ :: _ => b
  | _ => []
noncomputable def gTail : List Stmt := gBody.drop 3
noncomputable abbrev gEnv (L : Addr) (cd : Value) : Env := envOf gName gScope L 68 cd
noncomputable abbrev gCx (prog : Program) (w : World) (B : Heap) (cd : Value) (L : Addr) : Cx := defCx prog w B gName gScope 68 cd ["addr", "pos", "escape", "ch"] 0 L

noncomputable def escR (FP : List Addr) (L : Addr) (tE : Bool) : GenEnd := fun n s₀ r s₁ => r = .ok (.ret .none) ∧ (n = 0 ∧ GMove (if tE = true then [L] else FP) s₀ s₁)
noncomputable def escY (B : Heap) (FP : List Addr) (L : Addr) (tE : Bool) (items : List (AV × AV)) : Protocol := fun m s₀ v s kap =>
  (∃ it, items[items.length - 1 - m]? = some it ∧ ∃ T x y, v = .ref T ∧ s.heap.IsTuple T #[x, y] ∧ VRel [] it.1 x ∧ VRel [] it.2 y) ∧ GMove FP s₀ s ∧ ∃ FQ : List Addr, (FQ = FP ∨ (FQ = [L] ∧ m = 0 ∧ tE = true)) ∧ (∀ b ∈ FQ, ∃ o, s.heap.get? b = some o) ∧
    ∀ s'' : Shared, (∀ b ∈ FQ, ∀ o, s.heap.get? b = some o → s''.heap.get? b = some o) → (∀ b o, B.get? b = some o → s''.heap.get? b = some o) → kap (.send .none) s''

noncomputable def light : AV → Bool
  | .unb => true
  | u => plain u
theorem LV.light {σ σ' : List Addr} {u : AV} {ov : Option Value} (h : Mine.light u = true) (r : LV σ u ov) : LV σ' u ov := by
  cases u <;> cases ov <;> first | exact r | exact r.elim | exact VRel.plain h r
section
variable {prog : Program} {w : World} {B : Heap} {cd : Value} {L : Addr}
theorem Rel.rest {σ : List Addr} {m : List AV} {H : List AO} {z : Nat} {s s'' : Shared} (r : Rel (gCx prog w B cd L) σ ⟨m, H, z⟩ s) (hm : m.all light = true) (hL : ∀ o, s.heap.get? L = some o → s''.heap.get? L = some o)
    (hB : ∀ b o, B.get? b = some o → s''.heap.get? b = some o) : Rel (gCx prog w B cd L) [] ⟨m, [], 0⟩ s'' := by
  obtain ⟨cm, h1, h2⟩ := r.ns
  refine ⟨rfl, hB, ⟨cm, h1.at' hL, fun i x e => ?_⟩, fun i x a e => ?_, fun i a o e => by simp at e, List.nodup_nil, (fun a h => nomatch h), (fun a h => nomatch h), fun a ha => ?_, rfl⟩
  · refine LV.light ?_ (h2 i x e)
    cases q : m[i]? with
    | none => rfl
    | some u => exact List.all_eq_true.mp hm u (List.mem_of_getElem? q)
  · have : ((["addr", "pos", "escape", "ch"] : List Str).map fun x => (x, (none : Option Addr)))[i]? = some (x, some a) := e
    rw [List.getElem?_map] at this
    cases q : (["addr", "pos", "escape", "ch"] : List Str)[i]? with
    | none => rw [q] at this; cases this
    | some y => rw [q] at this; cases this
  · rw [List.mem_singleton.mp ha]
    obtain ⟨o, _, _, e, _⟩ := h1
    exact ⟨o, hL o e⟩

noncomputable abbrev eK0 (f : Flow) : Sem PySem.Fin := .pure (.done (.ret (match f with | .ret v => v | _ => .none)))
noncomputable abbrev eH0 (env : Env) (e : Value) : Sem PySem.Fin := (leaving env e).wrap (fun _ => .raise e) .raise id id
noncomputable abbrev eK1 (env : Env) (f : Flow) : Sem PySem.Fin := match f with
  | .next => (execs gTail env).wrap eK0 (eH0 env) id id
  | f => eK0 f
noncomputable abbrev eFr (env : Env) (p : Pos) : List Frame := [.ret (fun r => (ownK env r).wrap (eK1 env) (eH0 env) id id) none (id false) (id []) (.func gBody env) p []]

theorem tup_ok {c : Cx} {d : Nat} {e₁ e₂ : Expr} {k : Nat} {pos : Pos} {f g : F AV} (h₁ : Den c d (eval e₁ c.env) VRel f) (h₂ : Den c d (eval e₂ c.env) VRel g) (n₁ : ∀ x p, e₁ ≠ .Starred x p) (n₂ : ∀ x p, e₂ ≠ .Starred x p) :
    Den c d (eval (.Tuple [e₁, e₂] k pos) c.env) VRel (F.bind (F.bind f fun u => F.bind (F.bind g fun v => F.bind (F.pure []) fun vs => F.pure (v :: vs)) fun vs => F.pure (u :: vs)) fun vs => newAt (.tup vs)) :=
  den_tuple (denL_cons h₁ (denL_cons h₂ denL_nil n₂) n₁)

variable {A : Around} {E I : Addr} {x : Str} {t : Tok} {items : List (AV × AV)} {p : Pos}
/-- where the loop stands -/
structure EInv (prog : Program) (w : World) (B : Heap) (cd : Value) (L E I : Addr) (x : Str) (t : Tok) (j : Nat) (m : List AV) (s : Shared) : Prop where
  rel : Rel (gCx prog w B cd L) [] ⟨m, [], 0⟩ s
  en : ∃ old, IsEnum s.heap E I j old
  it : s.heap.IsStrIter I (strIterType x) x t j
theorem EInv.live {j : Nat} {m : List AV} {s : Shared} (h : EInv prog w B cd L E I x t j m s) : ∀ b ∈ [L, E, I], ∃ o, s.heap.get? b = some o := fun b hb => by
  simp only [List.mem_cons, List.not_mem_nil, or_false] at hb
  rcases hb with rfl | rfl | rfl
  · exact h.rel.ml _ (List.mem_singleton.mpr rfl)
  · obtain ⟨_, q⟩ := h.en; exact ⟨_, q⟩
  · obtain ⟨o, q, _⟩ := h.it; exact ⟨o, q⟩
theorem EInv.keep {j : Nat} {m : List AV} {σ : List Addr} {H : List AO} {z : Nat} {s s'' : Shared} (hm : m.all light = true) (r : Rel (gCx prog w B cd L) σ ⟨m, H, z⟩ s) (he : ∃ old, IsEnum s.heap E I j old) (hi : s.heap.IsStrIter I (strIterType x) x t j)
    (hk : ∀ b ∈ [L, E, I], ∀ o, s.heap.get? b = some o → s''.heap.get? b = some o) (hB : ∀ b o, B.get? b = some o → s''.heap.get? b = some o) : EInv prog w B cd L E I x t j m s'' := by
  obtain ⟨old, he⟩ := he
  obtain ⟨oi, hi1, hi2⟩ := hi
  exact ⟨r.rest hm (fun o e => hk L (by simp) o e) hB, ⟨old, hk E (by simp) _ he⟩, ⟨oi, hk I (by simp) _ hi1, hi2⟩⟩

theorem walkE {A : Around} (hh : A.handled = none) (hne : E ≠ I) : WalksT prog w A E [E, I] [E, I] x.cps.size
        (fun i vals => ∃ t x', (∃ ch u, x.cps[i]? = some ch ∧ x' = Value.str ⟨#[ch]⟩ u) ∧ vals = #[.int i t, x'])
        (fun i h => (∃ old, IsEnum h E I i old) ∧ h.IsStrIter I (strIterType x) x t i)
        (fun i T h => (∃ x', IsEnumOut h E I ((i : Int) + 1) x' T) ∧ h.IsStrIter I (strIterType x) x t (i + 1) ∧ T ≠ E ∧ T ≠ I) :=
  WalksT.enumerateD (A := A) (drawsStr (prog := prog) (w := w) (A := A.in1) hh I x t) E hne (by simpa using hne) (by simp)

/-- what is yielded -/
theorem yields {d : Nat} {e₁ e₂ : Expr} {kk : Nat} {pos : Pos} {f g : F AV} {m : List AV} {n : Nat} {u v : AV} {s₀ s : Shared} {A' : Around} {Er : Value → Shared → Prop} {pre tl : List (AV × AV)} (FP FQ : List Addr) (hA : Low d A')
    (h₁ : Den (gCx prog w B cd L) d (eval e₁ (gCx prog w B cd L).env) VRel f) (h₂ : Den (gCx prog w B cd L) d (eval e₂ (gCx prog w B cd L).env) VRel g) (n₁ : ∀ x p, e₁ ≠ .Starred x p) (n₂ : ∀ x p, e₂ ≠ .Starred x p)
    (hf : f ⟨m, [], 0⟩ = some (u, ⟨m, [], 0⟩)) (hg : g ⟨m, [], 0⟩ = some (v, ⟨m, [], 0⟩)) (hu : plain u = true) (hv : plain v = true) (hm : m.all light = true)
    (hL : L ∈ FP) {tE : Bool} (hFQ : L :: FQ = FP ∨ (L :: FQ = [L] ∧ n = 0 ∧ tE = true)) (hQ : ∀ b ∈ FQ, b ≠ L ∧ ∃ o, s.heap.get? b = some o) (rel : Rel (gCx prog w B cd L) [] ⟨m, [], 0⟩ s) (mv : GMove FP s₀ s) (hit : items = pre ++ (u, v) :: tl) (hn : n = tl.length)
    {next : Shared → Prop} (hnext : ∀ s'', Rel (gCx prog w B cd L) [] ⟨m, [], 0⟩ s'' → (∀ b ∈ FQ, ∀ o, s.heap.get? b = some o → s''.heap.get? b = some o) → next s'') :
    wpAny (model prog w) A' (eval (.Tuple [e₁, e₂] kk pos) (gEnv L cd)) (fun val s' => ∀ kap : Resume → Shared → Prop,
      (∀ x s'', (match x with | .ref _ => False | _ => next s'') → kap (.send x) s'') → escY B FP L tE items n s₀ val s' kap) Er s := by
  have hF : (F.bind (F.bind f fun u => F.bind (F.bind g fun v => F.bind (F.pure []) fun vs => F.pure (v :: vs)) fun vs => F.pure (u :: vs)) fun vs => newAt (.tup vs)) ⟨m, [], 0⟩ = some (.ref 0, ⟨m, [.tup [u, v]], 0⟩) := by
    simp only [F.bind, F.pure, hf, hg, newAt, AO.items]
    rfl
  refine (tup_ok h₁ h₂ n₁ n₂).run A' hA [] _ s rel _ _ hF _ _ fun σ' s' val r' x' y' kap hkap => ?_
  obtain ⟨T, rfl, hT⟩ := y'.ref_inv
  obtain ⟨vs, nn, ho, hvs⟩ := r'.obj 0 T _ hT rfl
  obtain ⟨a, as', rfl, ha, h2⟩ := hvs.cons_inv
  obtain ⟨b, bs', rfl, hb, h3⟩ := h2.cons_inv
  obtain rfl := h3.nil_inv
  have mv' : GMove FP s s' := .of_ext x' (fun b hb => by rw [List.mem_singleton.mp hb]; exact hL)
  have keepQ : ∀ b ∈ FQ, ∀ o, s.heap.get? b = some o → s'.heap.get? b = some o := fun b hb o e => x'.keep b o e (fun hm' => (hQ b hb).1 (List.mem_singleton.mp hm')) (by simp)
  have hLl : ∃ o, s'.heap.get? L = some o := r'.ml _ (List.mem_singleton.mpr rfl)
  refine ⟨⟨(u, v), ?_, T, a, b, rfl, ⟨_, ho, rfl, nn, rfl⟩, VRel.plain hu ha, VRel.plain hv hb⟩, mv.trans mv', L :: FQ, hFQ, fun b hb => ?_, fun s'' hk hB => ?_⟩
  · subst hn
    rw [hit]
    have : (pre ++ (u, v) :: tl).length - 1 - tl.length = pre.length := by simp
    rw [this]; simp
  · rcases List.mem_cons.mp hb with rfl | hb
    · exact hLl
    · obtain ⟨o, e⟩ := (hQ b hb).2; exact ⟨o, keepQ b hb o e⟩
  · exact hkap .none s'' (hnext s'' (r'.rest hm (fun o e => hk L (by simp) o e) hB) fun b hb o e => hk b (List.mem_cons_of_mem _ hb) o (keepQ b hb o e))
end
end Mine
end

section
set_option maxRecDepth 100000
set_option maxHeartbeats 2000000
set_option linter.unusedVariables false
open PySem PySem.W PyProof.Rows PySem.Calls PySem.Challenge
namespace Mine
section
variable {prog : Program} {w : World} {B : Heap} {cd : Value} {L : Addr} {A : Around} {E I : Addr} {x : Str} {t : Tok} {items : List (AV × AV)} {d : Nat} {tE : Bool}

theorem esc_tail (hA : Low (d + 2) A) (ok : CxOk (gCx prog w B cd L)) {e : Bool} {q : Nat} {cv : AV} (hcv : light cv = true) {s₀ s : Shared} {pre : List (AV × AV)} (rel : Rel (gCx prog w B cd L) [] ⟨[.str x, .int q, .bool e, cv], [], 0⟩ s) (mv : GMove [L, E, I] s₀ s)
    (hit : items = pre ++ escGo [] e q) (ht : tE = e) :
    Seg (model prog w) A.in1 (escR [L, E, I] L tE) (escY B [L, E, I] L tE items) (escGo [] e q).length s₀ (.func gBody (gEnv L cd)) ((execs gTail (gEnv L cd)).wrap eK0 (eH0 (gEnv L cd)) id id) [] s := by
  have hl := low_func (body := gBody) (env := gEnv L cd) hA
  have hm : [AV.str x, .int q, .bool e, cv].all light = true := by show (true && (true && (true && (light cv && true)))) = true; rw [hcv]; rfl
  refine seg_execs_cons ?_
  refine seg_If ((den_test (c := gCx prog w B cd L) (den_loc (i := 2) rfl rfl rfl rfl) op_tru rfl).run _ hl [] _ s rel e _ rfl _ _ fun σ' s' a r' x' y' => ?_)
  cases y'
  have mv' : GMove [L, E, I] s s' := .of_ext x' (fun b hb => by rw [List.mem_singleton.mp hb]; simp)
  have r1 : Rel (gCx prog w B cd L) [] ⟨[.str x, .int q, .bool e, cv], [], 0⟩ s' := r'.rest hm (fun _ e => e) r'.base
  subst ht
  cases tE with
  | false =>
    refine seg_execs_nil ?_
    refine seg_execs_nil ?_
    exact seg_end (.ok (.ret .none)) ⟨rfl, rfl, mv.trans mv'⟩
  | true =>
    refine seg_execs_cons ?_
    refine seg_Expr_Yield rfl rfl rfl (yields (f := getVar 1) (g := F.pure (.str "\\")) (pre := pre) (tl := []) [L, E, I] [] hl (den_loc (i := 1) rfl rfl rfl rfl) den_str (by intro _ _ h; cases h) (by intro _ _ h; cases h) rfl rfl rfl rfl hm (by simp) (.inr ⟨rfl, rfl, rfl⟩) (by simp) r1 (mv.trans mv') hit rfl fun s'' r'' _ => ?_) rfl rfl
    refine seg_execs_nil ?_
    refine seg_execs_nil ?_
    exact seg_end (.ok (.ret .none)) ⟨rfl, rfl, .refl _ _⟩

theorem EInv.ext (hE : E ≠ L) (hI : I ≠ L) {j : Nat} {m m' : List AV} {σ' : List Addr} {H : List AO} {z : Nat} {s s' : Shared} (inv : EInv prog w B cd L E I x t j m s) (r' : Rel (gCx prog w B cd L) σ' ⟨m', H, z⟩ s') (x' : Ext (gCx prog w B cd L) [] s σ' s') (hm : m'.all light = true) :
    EInv prog w B cd L E I x t j m' s' ∧ GMove [L, E, I] s s' := by
  have keepE : ∀ b ∈ [E, I], ∀ o, s.heap.get? b = some o → s'.heap.get? b = some o := fun b hb o e => x'.keep b o e (fun hm' => by
    rw [List.mem_singleton.mp hm'] at hb
    simp only [List.mem_cons, List.not_mem_nil, or_false] at hb
    rcases hb with q | q
    · exact hE q.symm
    · exact hI q.symm) (by simp)
  obtain ⟨old, he⟩ := inv.en
  obtain ⟨oi, hi1, hi2⟩ := inv.it
  exact ⟨⟨r'.rest hm (fun o e => e) r'.base, ⟨old, keepE E (by simp) _ he⟩, ⟨oi, keepE I (by simp) _ hi1, hi2⟩⟩, .of_ext x' (fun b hb => by rw [List.mem_singleton.mp hb]; simp)⟩
theorem EInv.then {j : Nat} {m : List AV} {s s'' : Shared} (inv : EInv prog w B cd L E I x t j m s) (r : Rel (gCx prog w B cd L) [] ⟨m, [], 0⟩ s'') (hk : ∀ b ∈ [E, I], ∀ o, s.heap.get? b = some o → s''.heap.get? b = some o) : EInv prog w B cd L E I x t j m s'' := by
  obtain ⟨old, he⟩ := inv.en
  obtain ⟨oi, hi1, hi2⟩ := inv.it
  exact ⟨r, ⟨old, hk E (by simp) _ he⟩, ⟨oi, hk I (by simp) _ hi1, hi2⟩⟩
theorem zip_drop {x : Str} {j : Nat} (hj : j < x.cps.size) {p ch : Nat} {r : List (Nat × Nat)} (h : ((List.range x.cps.size).zip x.cps.toList).drop j = (p, ch) :: r) : p = j ∧ x.cps[j]? = some ch ∧ ((List.range x.cps.size).zip x.cps.toList).drop (j + 1) = r := by
  have h0 : (((List.range x.cps.size).zip x.cps.toList).drop j)[0]? = some (p, ch) := by rw [h]; rfl
  rw [List.getElem?_drop, Nat.add_zero] at h0
  obtain ⟨h1, h2⟩ := List.getElem?_zip_eq_some.mp h0
  refine ⟨?_, ?_, ?_⟩
  · rw [List.getElem?_range hj] at h1; exact (Option.some.inj h1).symm
  · rw [Array.getElem?_toList] at h2; exact h2
  · rw [← List.drop_drop, h]; rfl

theorem esc_loop (hA : Low (d + 2) A) (ok : CxOk (gCx prog w B cd L)) (hE : E ≠ L) (hI : I ≠ L) (hEI : E ≠ I) (hBE : B.get? E = none) (hBI : B.get? I = none) :
    ∀ (rest : List (Nat × Nat)) (j : Nat) (e : Bool) (q : Nat) (cv : AV) (s₀ s : Shared) (pre : List (AV × AV)) (p : Pos), light cv = true → j ≤ x.cps.size → ((List.range x.cps.size).zip x.cps.toList).drop j = rest → items = pre ++ escGo rest e q → tE = escEnd rest e →
      EInv prog w B cd L E I x t j [.str x, .int q, .bool e, cv] s → GMove [L, E, I] s₀ s →
      Seg (model prog w) A.in1 (escR [L, E, I] L tE) (escY B [L, E, I] L tE items) (escGo rest e q).length s₀ (.forLoop gTgt (.ref E) gLoop [] (gEnv L cd)) ((model prog w).den (.forLoop gTgt (.ref E) gLoop [] (gEnv L cd))) (eFr (gEnv L cd) p) s := by
  have hoff : ∀ σ : List Addr, σ = [] → Off (gCx prog w B cd L) σ [E, I] := fun σ hσ => by
    subst hσ
    refine ⟨fun b _ => by simp, fun b hb hm => ?_, fun b hb => ?_, fun b hb => ?_, fun b hb y a hx => ?_⟩
    · rw [List.mem_singleton.mp hm] at hb
      simp only [List.mem_cons, List.not_mem_nil, or_false] at hb
      rcases hb with h | h
      · exact hE h.symm
      · exact hI h.symm
    · simp only [List.mem_cons, List.not_mem_nil, or_false] at hb
      rcases hb with rfl | rfl
      · exact hBE
      · exact hBI
    · simp only [List.mem_cons, List.not_mem_nil, or_false] at hb
      rcases hb with rfl | rfl
      · exact hE
      · exact hI
    · have hx' : (y, some a) ∈ ((["addr", "pos", "escape", "ch"] : List Str).map fun x => (x, (none : Option Addr))) := hx
      obtain ⟨_, _, z⟩ := List.mem_map.mp hx'
      cases z
  intro rest
  induction rest with
  | nil =>
    intro j e q cv s₀ s pre p hcv hj hd hit ht inv mv
    have hjs : j = x.cps.size := by
      have := congrArg List.length hd
      simp at this; omega
    subst hjs
    refine seg_forLoop fun Er => ?_
    refine (walkE (x := x) (t := t) (low_loop (body := gBody) (body' := gLoop) (env := gEnv L cd) (env' := gEnv L cd) (tgt := gTgt) (it := .ref E) (p := p) (k := fun r => (ownK (gEnv L cd) r).wrap (eK1 (gEnv L cd)) (eH0 (gEnv L cd)) id id) hA).handled hEI).done s _ _ ⟨inv.en, inv.it⟩ fun h' tk hk => ?_
    have mvv : Moved [E, I] [] s { s with heap := h', toks := tk } := ⟨fun b o eb hb => hk b o hb eb, fun i x e _ => e, id, rfl⟩
    have r1 := inv.rel.moved (hoff [] rfl) mvv
    have mv1 : GMove [L, E, I] s { s with heap := h', toks := tk } := ⟨fun b o eb hb => hk b o (fun h => hb (List.mem_cons_of_mem _ h)) eb, .refl _, rfl⟩
    exact esc_tail hA ok hcv r1 (mv.trans mv1) hit ht
  | cons pc r ih =>
    obtain ⟨p', ch⟩ := pc
    intro j e q cv s₀ s pre p hcv hj hd hit ht inv mv
    have hlt : j < x.cps.size := by
      rcases Nat.lt_or_ge j x.cps.size with h | h
      · exact h
      · rw [List.drop_eq_nil_of_le (by simp; omega)] at hd; cases hd
    obtain ⟨rfl, hch, hd'⟩ := zip_drop hlt hd
    refine seg_forLoop fun Er => ?_
    have hl := low_loop (body := gBody) (body' := gLoop) (env := gEnv L cd) (env' := gEnv L cd) (tgt := gTgt) (it := .ref E) (p := p) (k := fun r => (ownK (gEnv L cd) r).wrap (eK1 (gEnv L cd)) (eH0 (gEnv L cd)) id id) hA
    have W := walkE (prog := prog) (w := w) (x := x) (t := t) hl.handled hEI
    refine W.item p' s _ _ hlt ⟨inv.en, inv.it⟩ fun T vals h₁ tk₁ hPt _ hT hMid hk₁ => ?_
    obtain ⟨t', x', ⟨ch', u', hc', rfl⟩, rfl⟩ := hPt
    rw [hch] at hc'; cases hc'
    refine W.go _ _ _ p' T _ _ _ hMid fun h₂ hst₂ hk₂ => ?_
    have hTw := W.apart _ _ _ hMid
    have mvv : Moved [E, I] [] s { s with heap := h₂, toks := tk₁ } := ⟨fun b o eb hb => hk₂ b o hb (hk₁ b o hb eb), fun i x e _ => e, id, rfl⟩
    have r1 := inv.rel.moved (hoff [] rfl) mvv
    have mv1 : GMove [L, E, I] s { s with heap := h₂, toks := tk₁ } := ⟨fun b o eb hb => mvv.keep b o eb (fun h => hb (List.mem_cons_of_mem _ h)), .refl _, rfl⟩
    refine (tgt_pair (c := gCx prog w B cd L) (d := d) ok (Stores.loc (i := 1) rfl rfl) (Stores.loc (i := 3) rfl rfl)).run _ hl [] _ _ r1 (.two (.int p') (.str ⟨#[ch]⟩)) (.ref T) ⟨T, _, _, rfl, hT.at fun o e => hk₂ T o hTw e, rfl, rfl⟩ () ⟨[.str x, .int p', .bool e, .str ⟨#[ch]⟩], [], 0⟩ rfl _ _ fun s₃ r₃ x₃ => ?_
    have keepE : ∀ b ∈ [E, I], ∀ o, h₂.get? b = some o → s₃.heap.get? b = some o := fun b hb o eo => x₃.keep b o eo (fun hm' => (hoff [] rfl).mt b hb hm') (by simp)
    have mv2 : GMove [L, E, I] s s₃ := mv1.trans (.of_ext x₃ (fun b hb => by rw [List.mem_singleton.mp hb]; simp))
    obtain ⟨⟨old, hen⟩, oi, hi1, hi2⟩ := hst₂
    have hm : ∀ b : Bool, [AV.str x, .int p', .bool b, .str ⟨#[ch]⟩].all light = true := fun b => rfl
    have inv3 : EInv prog w B cd L E I x t (p' + 1) [.str x, .int p', .bool e, .str ⟨#[ch]⟩] s₃ := ⟨r₃, ⟨old, keepE E (by simp) _ hen⟩, ⟨oi, keepE I (by simp) _ hi1, hi2⟩⟩
    -- the body
    have mv3 := mv.trans mv2
    clear mv2 mv1 r1 mvv keepE hk₁ hk₂ hMid hTw hT W hen hi1 hi2 r₃ x₃
    have hq3 : ∀ {s4 : Shared}, EInv prog w B cd L E I x t (p' + 1) [.str x, .int p', .bool e, .str ⟨#[ch]⟩] s4 → ∀ b ∈ [E, I], b ≠ L ∧ ∃ o, s4.heap.get? b = some o := fun i4 b hb => by
      refine ⟨?_, i4.live b (List.mem_cons_of_mem _ hb)⟩
      simp only [List.mem_cons, List.not_mem_nil, or_false] at hb
      rcases hb with rfl | rfl
      · exact hE
      · exact hI
    refine seg_execs_cons ?_
    refine seg_If ((den_test (c := gCx prog w B cd L) (den_loc (i := 2) rfl rfl rfl rfl) op_tru rfl).run _ hl [] _ s₃ inv3.rel e _ rfl _ _ fun σ' s4 a r' x' y' => ?_)
    cases y'
    obtain ⟨inv4, mv4⟩ := inv3.ext hE hI r' x' (hm e)
    have mv04 := mv3.trans mv4
    -- the last store of a turn
    have last : ∀ (b b' : Bool) (n : Nat) (s0 s5 : Shared) (K2 : Flow → Sem PySem.Fin), n = (escGo r b' p').length → (∀ s6, Seg (model prog w) A.in1 (escR [L, E, I] L tE) (escY B [L, E, I] L tE items) n s0 (.forLoop gTgt (.ref E) gLoop [] (gEnv L cd)) (.pure (.again (.forLoop gTgt (.ref E) gLoop [] (gEnv L cd)))) (eFr (gEnv L cd) p) s6 →
          Seg (model prog w) A.in1 (escR [L, E, I] L tE) (escY B [L, E, I] L tE items) n s0 (.forLoop gTgt (.ref E) gLoop [] (gEnv L cd)) (K2 .next) (eFr (gEnv L cd) p) s6) → ∀ pre', items = pre' ++ escGo r b' p' → tE = escEnd r b' →
        EInv prog w B cd L E I x t (p' + 1) [.str x, .int p', .bool b, .str ⟨#[ch]⟩] s5 → GMove [L, E, I] s0 s5 → ∀ (kc : Nat) (p₁ p₂ p₃ : Pos) (Hh : Value → Sem PySem.Fin),
        Seg (model prog w) A.in1 (escR [L, E, I] L tE) (escY B [L, E, I] L tE items) n s0 (.forLoop gTgt (.ref E) gLoop [] (gEnv L cd)) ((exec (.Assign [.Name "escape" p₁] (.Constant (.bool b') kc p₂) p₃) (gEnv L cd)).wrap K2 Hh id id) (eFr (gEnv L cd) p) s5 := fun b b' n s0 s5 K2 hn hK pre' hit' ht' i5 m5 kc p₁ p₂ p₃ Hh => by
      refine seg_stmt ((den_assign (c := gCx prog w B cd L) (d := d) ok (Stores.loc (i := 2) rfl rfl) den_bool rfl).run _ hl [] _ s5 i5.rel .next ⟨[.str x, .int p', .bool b', .str ⟨#[ch]⟩], [], 0⟩ rfl _ _ fun σ6 s6 a r6 x6 y6 => ?_)
      cases a <;> first | exact y6.elim | skip
      obtain ⟨i6, m6⟩ := i5.ext hE hI r6 x6 (hm b')
      refine hK s6 (seg_again rfl ?_)
      rw [hn]
      exact ih (p' + 1) b' p' _ s0 s6 pre' p rfl hlt hd' hit' ht' i6 (m5.trans m6)
    cases e with
    | true =>
      refine seg_execs_cons ?_
      refine seg_Expr_Yield rfl rfl rfl (yields (f := getVar 1) (g := F.bind (F.pure (.str "\\")) fun a => F.bind (getVar 3) fun b => addF a b) (pre := pre) (tl := escGo r false p') [L, E, I] [E, I] hl (den_loc (i := 1) rfl rfl rfl rfl) (den_bin den_str (den_loc (i := 3) rfl rfl rfl rfl) op_add)
        (by intro _ _ h; cases h) (by intro _ _ h; cases h) rfl rfl rfl rfl (hm true) (by simp) (.inl rfl) (hq3 inv4) inv4.rel mv04 hit rfl fun s5 r5 hk5 => ?_) rfl rfl
      refine seg_execs_cons ?_
      refine last true false _ s5 s5 _ rfl (fun s6 h6 => ?_) (pre ++ [(.int p', .str (("\\" : Str) ++ ⟨#[ch]⟩))]) (by rw [hit, List.append_assoc]; rfl) ht (inv4.then r5 hk5) (.refl _ _) _ _ _ _ _
      refine seg_execs_nil ?_
      refine seg_execs_nil ?_
      exact h6
    | false =>
      refine seg_execs_cons ?_
      have hb : ∀ b : Bool, (false != b) = b := fun b => by cases b <;> rfl
      refine seg_If ((den_testcmp (c := gCx prog w B cd L) (d := d) (den_loc (i := 3) rfl rfl rfl rfl) den_str op_eq op_tru rfl).run _ hl [] _ s4 inv4.rel ((⟨#[ch]⟩ : Str).cps.toList == ("\\" : Str).cps.toList) ⟨[.str x, .int p', .bool false, .str ⟨#[ch]⟩], [], 0⟩
        (by simp only [F.bind, F.pure, getVar, eqF, truF, hb, List.getElem?_cons_succ, List.getElem?_cons_zero, Option.getD_some]) _ _ fun σ' s5 a r' x' y' => ?_)
      cases y'
      obtain ⟨inv5, mv5⟩ := inv4.ext hE hI r' x' (hm false)
      have mv05 := mv04.trans mv5
      cases hc : (⟨#[ch]⟩ : Str).cps.toList == ("\\" : Str).cps.toList with
      | true =>
        have hg : escGo ((p', ch) :: r) false q = escGo r true p' := by show (match _ with | true => _ | false => _) = _; rw [hc]
        have ht' : tE = escEnd r true := ht.trans (by show (match _ with | true => _ | false => _) = _; rw [hc])
        rw [hg] at hit ⊢
        refine seg_execs_cons ?_
        refine last false true _ s₀ s5 _ rfl (fun s6 h6 => ?_) pre hit ht' inv5 mv05 _ _ _ _ _
        refine seg_execs_nil ?_
        refine seg_execs_nil ?_
        refine seg_execs_nil ?_
        exact h6
      | false =>
        have hg : escGo ((p', ch) :: r) false q = (.int p', .str ⟨#[ch]⟩) :: escGo r false p' := by show (match _ with | true => _ | false => _) = _; rw [hc]
        have ht' : tE = escEnd r false := ht.trans (by show (match _ with | true => _ | false => _) = _; rw [hc])
        rw [hg] at hit ⊢
        refine seg_execs_cons ?_
        refine seg_Expr_Yield rfl rfl rfl (yields (f := getVar 1) (g := getVar 3) (pre := pre) (tl := escGo r false p') [L, E, I] [E, I] hl (den_loc (i := 1) rfl rfl rfl rfl) (den_loc (i := 3) rfl rfl rfl rfl)
          (by intro _ _ h; cases h) (by intro _ _ h; cases h) rfl rfl rfl rfl (hm false) (by simp) (.inl rfl) (hq3 inv5) inv5.rel mv05 hit rfl fun s6 r6 hk6 => ?_) rfl rfl
        refine seg_execs_nil ?_
        refine seg_execs_nil ?_
        refine seg_execs_nil ?_
        refine seg_again rfl ?_
        exact ih (p' + 1) false p' _ s6 s6 (pre ++ [(.int p', .str ⟨#[ch]⟩)]) p rfl hlt hd' (by rw [hit, List.append_assoc]; rfl) ht' (inv5.then r6 hk6) (.refl _ _)
end
end Mine
end

section
set_option maxRecDepth 100000
set_option maxHeartbeats 2000000
set_option linter.unusedVariables false
open PySem PySem.W PyProof.Rows PySem.Calls PySem.Challenge
namespace Mine
section
variable {prog : Program} {w : World} {B : Heap} {cd : Value} {L : Addr} {A : Around} {x : Str} {t : Tok} {d : Nat} {mg mb : Str → Option Value}

theorem gRel {s : Shared} {cm : Str → Option Value} {m : List AV} (hn : s.heap.Ns L cm) (hB : ∀ b o, B.get? b = some o → s.heap.get? b = some o)
    (h : ∀ (i : Nat) (y : Str), (["addr", "pos", "escape", "ch"] : List Str)[i]? = some y → LV [] ((m[i]?).getD AV.unb) (cm y)) : Rel (gCx prog w B cd L) [] ⟨m, [], 0⟩ s := by
  refine ⟨rfl, hB, ⟨cm, hn, fun i y e => ?_⟩, fun i y a e => ?_, fun i a o e => by simp at e, List.nodup_nil, (fun a h => nomatch h), (fun a h => nomatch h), fun a ha => ?_, rfl⟩
  · have : ((["addr", "pos", "escape", "ch"] : List Str).map fun x => (x, (none : Option Addr)))[i]? = some (y, none) := e
    rw [List.getElem?_map] at this
    cases q : (["addr", "pos", "escape", "ch"] : List Str)[i]? with
    | none => rw [q] at this; cases this
    | some y' => rw [q] at this; cases this; exact h i y q
  · have : ((["addr", "pos", "escape", "ch"] : List Str).map fun x => (x, (none : Option Addr)))[i]? = some (y, some a) := e
    rw [List.getElem?_map] at this
    cases q : (["addr", "pos", "escape", "ch"] : List Str)[i]? with
    | none => rw [q] at this; cases this
    | some y' => rw [q] at this; cases this
  · rw [List.mem_singleton.mp ha]; obtain ⟨o, _, _, e, _⟩ := hn; exact ⟨o, e⟩
theorem gOk (hB : B.get? L = none) : CxOk (gCx prog w B cd L) := by
  have nc : ∀ y a, (y, some a) ∈ (gCx prog w B cd L).ns → False := fun y a h => by
    have h' : (y, some a) ∈ ((["addr", "pos", "escape", "ch"] : List Str).map fun x => (x, (none : Option Addr))) := h
    obtain ⟨_, _, z⟩ := List.mem_map.mp h'; cases z
  exact ⟨rfl, by show (["addr", "pos", "escape", "ch"] : List Str).Nodup; decide +kernel, List.mem_singleton.mpr rfl, hB, fun y a h => (nc y a h).elim, fun y a h => (nc y a h).elim, fun i j y z a h => (nc y a (List.mem_of_getElem? h)).elim⟩

theorem exec_setC {M : Model} {A : Around} {env : Env} {y : Str} {p pos : Pos} {value : Expr} {v : Value} {s : Shared} {cm : Str → Option Value} {Q : Flow → Shared → Prop} {E : Value → Shared → Prop}
    (hk : env.scope.kind = .function) (hy : env.kindOf y = some .local) (hn : s.heap.Ns env.locals cm) (hs : swapsWith value (some (.Name y p)) pos.line env = pure false)
    (hv : ∀ (Q : Value → Shared → Prop), (∀ tk v', v' = v ∨ (∃ i t t', v = .int i t ∧ v' = .int i t') → Q v' { s with toks := tk }) → wpAny M A (eval value env) Q E s)
    (h : ∀ h' tk v', v' = v ∨ (∃ i t t', v = .int i t ∧ v' = .int i t') → h'.Ns env.locals (fun z => if z = y then some v' else cm z) → Heap.SameBut env.locals s.heap h' → Q .next { s with heap := h', toks := tk }) :
    wpAny M A (exec (.Assign [.Name y p] value pos) env) Q E s := by
  rw [exec_Assign_Name env y p value pos hs]
  refine wpAny_bind (wpAny_standAt (wpAny_bind (hv _ fun tk v' hv' => wpAny_bind (wpAny_standAt (wpAny_bind (wpAny_bindName (wpAny_storeName_local hy hn (fun h' hn' hs' => wpAny_pure ?_) (by rw [hk]; rfl))))))))
  exact h h' _ v' hv' hn' hs'

theorem esc_start (G : GlobOk B mg mb) (hen : mg "enumerate" = none ∧ mb "enumerate" = some (.type "enumerate")) (hA : Low (d + 2) A) (hBL : B.get? L = none) {s : Shared} (hB : ∀ b o, B.get? b = some o → s.heap.get? b = some o)
    (hn : s.heap.Ns L fun y => if y = ("addr" : Str) then some (.str x t) else none) :
    Seg (model prog w) A.in1 (escR [L, s.heap.objs.size + 1, s.heap.objs.size] L (escEnd ((List.range x.cps.size).zip x.cps.toList) false)) (escY B [L, s.heap.objs.size + 1, s.heap.objs.size] L (escEnd ((List.range x.cps.size).zip x.cps.toList) false) (escItems x))
      (escItems x).length s (.func gBody (gEnv L cd)) ((model prog w).den (.func gBody (gEnv L cd))) [] s := by
  have hl := low_func (body := gBody) (env := gEnv L cd) hA
  have hLlt : L < s.heap.objs.size := by obtain ⟨o, _, _, e, _⟩ := hn; exact Heap.lt_size e
  refine seg_func ?_
  refine seg_execs_cons ?_
  refine seg_stmt (exec_setC (v := .int 0 0) rfl rfl hn rfl (fun Q hQ => wpAny_Constant_int (hQ _ _ (.inr ⟨0, 0, _, rfl, rfl⟩))) fun h₁ tk₁ v₁ hv₁ hn₁ hs₁ => ?_)
  refine seg_execs_cons ?_
  refine seg_stmt (exec_setC (v := .bool false) rfl rfl hn₁ rfl (fun Q hQ => fun _ _ _ => hQ _ _ (.inl rfl)) fun h₂ tk₂ v₂ hv₂ hn₂ hs₂ => ?_)
  replace hs₁ : Heap.SameBut L s.heap h₁ := hs₁
  replace hs₂ : Heap.SameBut L h₁ h₂ := hs₂
  have up : ∀ b o, b ≠ L → s.heap.get? b = some o → h₂.get? b = some o := fun b o hb e => hs₂.extBut b o hb (hs₁.extBut b o hb e)
  have hB₂ : ∀ b o, B.get? b = some o → h₂.get? b = some o := fun b o e => up b o (fun h => by rw [h, hBL] at e; cases e) (hB b o e)
  have hv1 : ∃ t0, v₁ = .int 0 t0 := by
    rcases hv₁ with rfl | ⟨i, t0, t1, h1, rfl⟩
    · exact ⟨_, rfl⟩
    · cases h1; exact ⟨_, rfl⟩
  have hv2 : v₂ = .bool false := by
    rcases hv₂ with rfl | ⟨i, t0, t1, h1, rfl⟩
    · rfl
    · cases h1
  obtain ⟨t0, rfl⟩ := hv1
  subst hv2
  have hsz : h₂.objs.size = s.heap.objs.size := by rw [hs₂.1, hs₁.1]
  have rel₂ : Rel (gCx prog w B cd L) [] ⟨[.str x, .int 0, .bool false, .unb], [], 0⟩ { s with heap := h₂, toks := tk₂ } := by
    refine gRel hn₂ hB₂ fun i y hy => ?_
    match i, hy with
    | 0, hy => cases hy; rfl
    | 1, hy => cases hy; rfl
    | 2, hy => cases hy; rfl
    | 3, hy => trivial
    | i + 4, hy => cases hy
  refine seg_execs_cons ?_
  refine seg_For (fun _ => rfl) ?_
  have gn : GName (gCx prog w B cd L) "enumerate" (.type "enumerate") := gnameb G rfl rfl hen.1 hen.2
  refine Call_Name1 (gn.load rel₂ ?_ rfl)
  refine PyProof.Rows.callWith_type rfl (evalArgs_plain (spliced_cons (wpAny_Name (wpAny_loadName_local rfl rfl hn₂ (v := .str x t) rfl (spliced_nil ?_)) rfl)))
  refine call_enumerate_str fun h₃ he hi hsz₃ up₃ => wpAny_pyIter_enum he fun p => ?_
  replace up₃ : ∀ b o, h₂.get? b = some o → h₃.get? b = some o := up₃
  have he' : IsEnum h₃ (s.heap.objs.size + 1) s.heap.objs.size 0 .none := by rw [← hsz]; exact he
  have hi' : h₃.IsStrIter s.heap.objs.size (strIterType x) x t 0 := by rw [← hsz]; exact hi
  have nB : ∀ b, s.heap.objs.size ≤ b → B.get? b = none := fun b hb => by
    cases q : B.get? b with
    | none => rfl
    | some o => have := hB b o q; rw [none_of_ge hb] at this; cases this
  have rel₃ : Rel (gCx prog w B cd L) [] ⟨[.str x, .int 0, .bool false, .unb], [], 0⟩ { s with heap := h₃, toks := tk₂ } := rel₂.rest rfl (fun o e => up₃ L o e) fun b o e => up₃ b o (hB₂ b o e)
  have hEq : Value.ref (h₂.objs.size + 1) = Value.ref (s.heap.objs.size + 1) := by rw [hsz]
  show Seg _ _ _ _ _ _ (.forLoop _ (Value.ref (h₂.objs.size + 1)) _ _ _) _ _ _
  rw [hEq]
  have n1 : s.heap.objs.size + 1 ≠ L := Nat.ne_of_gt (Nat.lt_succ_of_lt hLlt)
  have n2 : s.heap.objs.size ≠ L := Nat.ne_of_gt hLlt
  exact esc_loop (E := s.heap.objs.size + 1) (I := s.heap.objs.size) (x := x) (t := t) (items := escItems x) (tE := escEnd ((List.range x.cps.size).zip x.cps.toList) false) hA (gOk hBL) n1 n2 (Nat.succ_ne_self _) (nB _ (Nat.le_succ _)) (nB _ (Nat.le_refl _)) ((List.range x.cps.size).zip x.cps.toList) 0 false 0 .unb s _ [] p rfl (Nat.zero_le _) rfl rfl rfl
    ⟨rel₃, ⟨_, he'⟩, hi'⟩ ⟨fun b o e hb => up₃ b o (up b o (fun h => hb (by simp [h])) e), .refl _, rfl⟩
end
end Mine
end

section
set_option maxRecDepth 100000
set_option maxHeartbeats 2000000
set_option linter.unusedVariables false
open PySem PySem.W PyProof.Rows PySem.Calls PySem.Challenge
namespace Mine
section
variable {prog : Program} {w : World} {B : Heap} {cd : Value} {A : Around} {x : Str} {t : Tok} {d : Nat} {mg mb : Str → Option Value}
noncomputable abbrev escPairs (x : Str) : List (Nat × Nat) := (List.range x.cps.size).zip x.cps.toList
noncomputable abbrev escT (x : Str) : Bool := escEnd (escPairs x) false

/-- the generator, k items handed out -/
noncomputable def EP (prog : Program) (w : World) (B : Heap) (cd : Value) (A : Around) (x : Str) (t : Tok) (a L : Addr) (g : Nat) (k : Nat) (fp : List Addr) (gp : List Nat) (s : Shared) : Prop :=
  gp = [g] ∧ s.heap.IsGen a g ∧ ∃ FQ gs, fp = a :: FQ ∧ s.gens[g]? = some gs ∧ gs.bare = true ∧ (∀ b ∈ FQ, ∃ o, s.heap.get? b = some o) ∧ k ≤ (escItems x).length ∧
    ((k = 0 ∧ gs = .fresh (.func gBody (gEnv L cd)) ∧ FQ = [L] ∧ s.heap.Ns L fun y => if y = ("addr" : Str) then some (.str x t) else none) ∨
     (∃ E I, a ∉ [L, E, I] ∧ B.get? E = none ∧ B.get? I = none ∧ (FQ = [L, E, I] ∨ (FQ = [L] ∧ (escItems x).length - k = 0 ∧ escT x = true)) ∧ 1 ≤ k ∧ ∀ s' : Shared, (∀ b ∈ FQ, ∀ o, s.heap.get? b = some o → s'.heap.get? b = some o) →
        (∀ b o, B.get? b = some o → s'.heap.get? b = some o) → gs.Goes (model prog w) A.in1 (escR [L, E, I] L (escT x)) (escY B [L, E, I] L (escT x) (escItems x)) ((escItems x).length - k) (.send .none) s'))

theorem setGen_heap (s : Shared) (g : Nat) (gs : GenState) : (s.setGen g gs).heap = s.heap := rfl
theorem bare_set {gens : Array GenState} {g : Nat} {gs : GenState} (h : AllBare gens) (hb : gs.bare = true) : AllBare (gens.setIfInBounds g gs) := by
  intro y hy
  obtain ⟨i, hi, e⟩ := Array.getElem_of_mem hy
  have e' : (gens.setIfInBounds g gs)[i]? = some y := by rw [Array.getElem?_eq_getElem hi, e]
  by_cases hig : g = i
  · subst hig
    rw [Array.getElem?_setIfInBounds_self_of_lt (by simpa using hi)] at e'
    cases e'; exact hb
  · rw [Array.getElem?_setIfInBounds_ne hig] at e'
    exact h _ (Array.mem_of_getElem? e')
theorem letGo_gen {M : Model} {A : Around} {a : Addr} {g : Nat} {elts : List Expr} {kk : Nat} {p : Pos} {v : Value} {s : Shared} {Q : Unit → Shared → Prop} {E : Value → Shared → Prop} (hg : s.heap.IsGen a g) (h : Q () s) :
    wpAny M A (letOwnedTupleGo (.Tuple elts kk p) (.ref a) v) Q E s := by
  obtain ⟨o, nm, qn, ho, hc, hd, hs⟩ := hg
  cases v <;> first | exact wpAny_pure h | skip
  unfold letOwnedTupleGo
  refine wpAny_bind (wpAny_load ho ?_)
  rw [hc, hd]
  exact wpAny_pure h

theorem ep_next {c : Cx} (hp : c.prog = prog) (hw : c.w = w) (hBc : c.B = B) (G : GlobOk B mg mb) (hen : mg "enumerate" = none ∧ mb "enumerate" = some (.type "enumerate")) (hA : Low (d + 2) A) {a L : Addr} {g k : Nat} (haL : a ≠ L) (hBL : B.get? L = none)
    {σ : List Addr} {S : St} {s : Shared} {fp : List Addr} {gp : List Nat} (r : Rel c σ S s) (h : EP prog w B cd A x t a L g k fp gp s) {elts : List Expr} {kk : Nat} {p : Pos}
    {rr : Option Item} (hi : seqItem2 (escItems x) k S.H = some rr) (Q : Option Value → Shared → Prop) (E' : Value → Shared → Prop)
    (h0 : rr = none → ∀ s', Moved fp gp s s' → Q none s')
    (h1 : ∀ y, rr = some y → ∀ v s' fp', EP prog w B cd A x t a L g (k + 1) fp' gp s' → (∀ b ∈ fp', b ∉ fp → s.heap.get? b = none) → Moved fp gp s s' → IRel σ s'.heap y v → Q (some v) s') :
    wpAny (model prog w) A (pyNext (.ref a)) Q E' s := by
  subst hp hw hBc
  obtain ⟨rfl, hgen, FQ, gs, rfl, hgs, hbare, hlive, hkN, hcase⟩ := h
  have hgs' : (s.setGen g .running).gens[g]? = some .running := by
    have hlt : g < s.gens.size := (Array.getElem?_eq_some_iff.mp hgs).1
    show (s.gens.setIfInBounds g .running)[g]? = _
    rw [Array.getElem?_setIfInBounds_self_of_lt hlt]
  -- in both cases the generator goes on, by a protocol over its own addresses
  have key : ∃ E I, a ∉ [L, E, I] ∧ c.B.get? E = none ∧ c.B.get? I = none ∧ (FQ = [L, E, I] ∨ (FQ = [L] ∧ (escItems x).length - k = 0 ∧ escT x = true) ∨ (FQ = [L] ∧ k = 0 ∧ s.heap.get? E = none ∧ s.heap.get? I = none)) ∧
      gs.Goes (model c.prog c.w) A.in1 (escR [L, E, I] L (escT x)) (escY c.B [L, E, I] L (escT x) (escItems x)) ((escItems x).length - k) (.send .none) (s.setGen g .running) := by
    rcases hcase with ⟨rfl, rfl, rfl, hn⟩ | ⟨E, I, ha, hE, hI, hFQ, hk1, hgo⟩
    · have hlt : a < s.heap.objs.size := by obtain ⟨o, _, _, e, _⟩ := hgen; exact Heap.lt_size e
      have nB : ∀ b, s.heap.objs.size ≤ b → c.B.get? b = none := fun b hb => by
        cases q : c.B.get? b with
        | none => rfl
        | some o => have := r.base b o q; rw [none_of_ge hb] at this; cases this
      refine ⟨s.heap.objs.size + 1, s.heap.objs.size, ?_, nB _ (Nat.le_succ _), nB _ (Nat.le_refl _), .inr (.inr ⟨rfl, rfl, none_of_ge (Nat.le_succ _), none_of_ge (Nat.le_refl _)⟩), rfl, ?_⟩
      · simp only [List.mem_cons, List.not_mem_nil, or_false, not_or]
        exact ⟨haL, Nat.ne_of_lt (Nat.lt_succ_of_lt hlt), Nat.ne_of_lt hlt⟩
      · exact esc_start (s := s.setGen g .running) G hen hA hBL r.base hn
    · refine ⟨E, I, ha, hE, hI, ?_, hgo _ (fun b _ o e => e) r.base⟩
      rcases hFQ with h | h
      · exact .inl h
      · exact .inr (.inl h)
  obtain ⟨E, I, haF, hBE, hBI, hFQ, hgo⟩ := key
  have offB : ∀ b o, c.B.get? b = some o → b ∉ [L, E, I] := fun b o e hb => by
    simp only [List.mem_cons, List.not_mem_nil, or_false] at hb
    rcases hb with rfl | rfl | rfl
    · rw [hBL] at e; cases e
    · rw [hBE] at e; cases e
    · rw [hBI] at e; cases e
  have hi' : some (((escItems x)[k]?).map fun p => Item.two p.1 p.2) = some rr := hi
  -- what has moved
  have moved : ∀ (FP' : List Addr) (s₁ : Shared) (gs' : GenState) (h' : Heap), GMove FP' (s.setGen g .running) s₁ → (∀ b o, s₁.heap.get? b = some o → h'.get? b = some o) → gs'.bare = true →
      (∀ b ∈ FP', b ∈ FQ ∨ s.heap.get? b = none) → Moved (a :: FQ) [g] s { s₁.setGen g gs' with heap := h' } := fun FP' s₁ gs' h' m hk hb' hsub => by
    refine ⟨fun b o e hb => hk b o (m.keep b o e fun hm => ?_), fun i y e hne => ?_, fun hall => ?_, m.os⟩
    · rcases hsub b hm with h | h
      · exact hb (List.mem_cons_of_mem _ h)
      · rw [h] at e; cases e
    · have hig : g ≠ i := fun h => hne (by simp [h])
      have e1 : (s.setGen g .running).gens[i]? = some y := by
        show (s.gens.setIfInBounds g .running)[i]? = _
        rw [Array.getElem?_setIfInBounds_ne hig]; exact e
      have e2 := m.gens.1 i y e1
      show (s₁.gens.setIfInBounds g gs')[i]? = _
      rw [Array.getElem?_setIfInBounds_ne hig]; exact e2
    · exact bare_set (m.gens.2 (bare_set hall rfl)) hb'
  refine pyNext_genQ hA.handled (G.lim.keeps r.base) (by have := hA.depth; omega) hgen hgs hgo (fun v s₁ gs' hb' hy => ?_) (fun s₁ hPn h' hk => ?_)
  · obtain ⟨⟨it, hit, T, av, bv, rfl, hT, hva, hvb⟩, hm, FQ', hFQ', hlive', hkap⟩ := hy
    have hB₁ : ∀ b o, c.B.get? b = some o → s₁.heap.get? b = some o := fun b o e => hm.keep b o (r.base b o e) (offB b o e)
    cases hn : (escItems x).length - k with
    | zero =>
      rw [hn] at hkap
      exact (hkap s₁ (fun b _ o e => e) hB₁).elim
    | succ m =>
      rw [hn] at hkap hit hFQ'
      have hkm : (escItems x).length - 1 - (m + 1 - 1) = k := by omega
      rw [hkm] at hit
      rw [hit] at hi'
      cases hi'
      have hFQ2 : FQ = [L, E, I] ∨ (FQ = [L] ∧ k = 0 ∧ s.heap.get? E = none ∧ s.heap.get? I = none) := by
        rcases hFQ with h | h | h
        · exact .inl h
        · have := h.2.1; omega
        · exact .inr h
      have hsub : ∀ b ∈ [L, E, I], b ∈ FQ ∨ s.heap.get? b = none := fun b hb => by
        rcases hFQ2 with rfl | ⟨rfl, _, hE, hI⟩
        · exact .inl hb
        · simp only [List.mem_cons, List.not_mem_nil, or_false] at hb
          rcases hb with rfl | rfl | rfl
          · exact .inl (by simp)
          · exact .inr hE
          · exact .inr hI
      have hFQ'sub : ∀ b ∈ FQ', b ∈ [L, E, I] := fun b hb => by
        rcases hFQ' with rfl | ⟨rfl, _⟩
        · exact hb
        · rw [List.mem_singleton.mp hb]; simp
      have ha₁ : s₁.heap.IsGen a g := by
        obtain ⟨o, nm, qn, e, r⟩ := hgen
        exact ⟨o, nm, qn, hm.keep a o e haF, r⟩
      have hg₁ : g < s₁.gens.size := (Array.getElem?_eq_some_iff.mp (hm.gens.1 g _ hgs')).1
      refine h1 _ rfl _ (s₁.setGen g gs') (a :: FQ') ⟨rfl, ha₁, FQ', gs', rfl, ?_, hb', hlive', by omega, .inr ⟨E, I, haF, hBE, hBI, ?_, by omega, fun s' hk' hB' => ?_⟩⟩ (fun b hb hnb => ?_) (moved _ s₁ gs' s₁.heap hm (fun b o e => e) hb' hsub) ⟨T, av, bv, rfl, hT, hva.mono (List.nil_prefix), hvb.mono (List.nil_prefix)⟩
      · show (s₁.gens.setIfInBounds g gs')[g]? = _
        rw [Array.getElem?_setIfInBounds_self_of_lt hg₁]
      · rcases hFQ' with h | ⟨h, h2, h3⟩
        · exact .inl h
        · exact .inr ⟨h, by omega, h3⟩
      · have := hkap s' hk' hB'
        have e2 : (escItems x).length - (k + 1) = m := by omega
        rw [e2]; exact this
      · rcases List.mem_cons.mp hb with rfl | hb
        · exact absurd (List.mem_cons_self ..) hnb
        · rcases hsub b (hFQ'sub b hb) with h | h
          · exact absurd (List.mem_cons_of_mem _ h) hnb
          · exact h
  · obtain ⟨hn0, hm⟩ := hPn
    have hkk : k = (escItems x).length := by omega
    rw [List.getElem?_eq_none (by omega)] at hi'
    cases hi'
    refine h0 rfl _ (moved _ s₁ .finished h' hm hk rfl fun b hb => ?_)
    cases ht : escT x with
    | true =>
      have hb' : b = L := by rw [show escT x = true from ht, if_pos rfl] at hb; exact List.mem_singleton.mp hb
      subst hb'
      rcases hFQ with rfl | ⟨rfl, _⟩ | ⟨rfl, _⟩ <;> exact .inl (by simp)
    | false =>
      rw [show escT x = false from ht, if_neg Bool.false_ne_true] at hb
      rcases hFQ with rfl | ⟨rfl, _, h3⟩ | ⟨rfl, _, hE, hI⟩
      · exact .inl hb
      · rw [ht] at h3; cases h3
      · simp only [List.mem_cons, List.not_mem_nil, or_false] at hb
        rcases hb with rfl | rfl | rfl
        · exact .inl (by simp)
        · exact .inr hE
        · exact .inr hI
end
end Mine
end

section
set_option maxRecDepth 100000
set_option maxHeartbeats 2000000
set_option linter.unusedVariables false
open PySem PySem.W PyProof.Rows PySem.Calls PySem.Challenge
namespace Mine
variable {prog : Program} {w : World} {B₀ B : Heap} {mg mb : Str → Option Value} {c : Cx} {d : Nat}

noncomputable def itEsc {cd : Value} {A : Around} {x : Str} {t : Tok} {a L : Addr} {g : Nat} {elts : List Expr} {kk : Nat} {p : Pos} (G : GlobOk B mg mb) (hen : mg "enumerate" = none ∧ mb "enumerate" = some (.type "enumerate")) (haL : a ≠ L) (hBL : B.get? L = none) :
    It prog w B A (d + 2) (.Tuple elts kk p) (.ref a) (seqItem2 (escItems x)) where
  P := fun k σ fp gp s => EP prog w B cd A x t a L g k fp gp s
  keep := fun k σ σ' fp gp s s' h _ hk hg => by
    obtain ⟨rfl, hgen, FQ, gs, rfl, hgs, hbare, hlive, hkN, hcase⟩ := h
    have hgen' : s'.heap.IsGen a g := by
      obtain ⟨o, nm, qn, e, r⟩ := hgen
      exact ⟨o, nm, qn, hk a (by simp) o e, r⟩
    refine ⟨rfl, hgen', FQ, gs, rfl, hg g (by simp) gs hgs, hbare, fun b hb => (let ⟨o, e⟩ := hlive b hb; ⟨o, hk b (List.mem_cons_of_mem _ hb) o e⟩), hkN, ?_⟩
    rcases hcase with ⟨h1, h2, rfl, hn⟩ | ⟨E, I, ha, hE, hI, hFQ, hk1, hgo⟩
    · exact .inl ⟨h1, h2, rfl, hn.at' fun o e => hk L (by simp) o e⟩
    · exact .inr ⟨E, I, ha, hE, hI, hFQ, hk1, fun s'' hk' hB => hgo s'' (fun b hb o e => hk' b hb o (hk b (List.mem_cons_of_mem _ hb) o e)) hB⟩
  live := fun k σ fp gp s h b hb => by
    obtain ⟨rfl, ⟨o, _, _, e, _⟩, FQ, gs, rfl, hgs, hbare, hlive, hkN, hcase⟩ := h
    rcases List.mem_cons.mp hb with rfl | hb
    · exact ⟨o, e⟩
    · exact hlive b hb
  self := fun hA k σ fp gp s h Q E hQ => wpAny_pyIter_gen h.2.1 hQ
  next := fun c hp hw hB hA k σ S s fp gp r h ho rr hi Q E h0 h1 => by
    subst hp hw
    exact ep_next rfl rfl hB G hen hA haL hBL r h (elts := elts) (kk := kk) (p := p) hi (fun ro s₁ => match ro with
      | none => Q none s₁
      | some a' => wpAny (model c.prog c.w) A (letOwnedTupleGo (.Tuple elts kk p) (.ref a) a') (fun _ s₂ => Q (some a') s₂) E s₁) E h0 fun y hy v s' fp' hP hf hm hr => letGo_gen hP.2.1 (h1 y hy v s' fp' hP hf hm hr)

noncomputable def srcEsc : AV → F ItemF
  | .str x => F.pure (seqItem2 (escItems x))
  | _ => F.fail
theorem src_esc {elts : List Expr} {kk : Nat} {p rp pos : Pos} {e : Expr} {f : F AV} (T : Tops c.prog c.w B₀ mg mb) (hB : ∀ b o, B₀.get? b = some o → c.B.get? b = some o) (hx : GName c "_iter_escaped_chars" (.ref 68)) (h : Den c (d + 2) (eval e c.env) VRel f) (hn : ∀ x p, e ≠ .Starred x p) :
    Src c (d + 2) (.Tuple elts kk p) (.Call (.Name "_iter_escaped_chars" rp) [e] [] pos) (F.bind f srcEsc) := by
  refine ⟨fun A hA σ S s r item S' e' Q E K => ?_⟩
  obtain ⟨v, S₁, e1, e2⟩ := bind_some e'
  obtain ⟨o, pm, cd, doc, ho, hdata, hcd⟩ := T.f__iter_escaped_chars
  have G := (T.toGlobs.mono hB)
  refine Call_Name1 (hx.load r ?_ rfl) (by rw [starEach_cons hn]; rfl)
  refine callWith_function (o := o) (evalArgs_plain (spliced_cons (h.run A hA σ S s r v S₁ e1 _ E fun σ₁ s₁ a r₁ x₁ y₁ => spliced_nil ⟨⟨r₁.base _ _ (hB _ _ ho), hdata⟩, ?_⟩)))
  cases v with
  | str x =>
    obtain ⟨t, rfl⟩ := y₁.str_inv
    cases e2
    have hbase : ∀ b o, B₀.get? b = some o → s₁.heap.get? b = some o := fun b o e => r₁.base b o (hB b o e)
    refine wpAny_call (codeAny_call_generator (by have := hA.depth; omega) (hbase _ _ ho) hdata rfl rfl rfl (hcd.keeps hbase) ?_)
    refine wpAny_of_eq (a := [(("addr" : Str), Value.str x t)]) rfl ?_
    refine wpAny_newFunctionEnv (show ∀ x ∈ (fScope (stAt 7)).names, x.2 ≠ .cell by decide +kernel) (by intro y hy; rcases List.mem_singleton.mp hy with rfl; rfl) (fun h₁ hns hsb => ⟨T.ok.lim.keeps fun b o e => ?_, ?_⟩) rfl
    · exact hsb.extBut b o (Nat.ne_of_lt (Heap.lt_size (hbase b o e))) (Heap.get?_push_of_some _ (hbase b o e))
    · have up1 : ∀ b o, s₁.heap.get? b = some o → h₁.get? b = some o := fun b o e => hsb.extBut b o (Nat.ne_of_lt (Heap.lt_size e)) (Heap.get?_push_of_some _ e)
      have ha : h₁.get? h₁.objs.size = none := none_of_ge (Nat.le_refl _)
      have hLlt : s₁.heap.objs.size < h₁.objs.size := by obtain ⟨o', _, _, e, _⟩ := hns; exact Heap.lt_size e
      have sL : s₁.heap.get? s₁.heap.objs.size = none := none_of_ge (Nat.le_refl _)
      have sA : s₁.heap.get? h₁.objs.size = none := none_of_ge (Nat.le_of_lt hLlt)
      have nBL : c.B.get? s₁.heap.objs.size = none := by
        cases q : c.B.get? s₁.heap.objs.size with
        | none => rfl
        | some o' => have := r₁.base _ _ q; rw [sL] at this; cases this
      have back : ∀ b, s₁.heap.get? b = none → s.heap.get? b = none := fun b hb => by
        cases q : s.heap.get? b with
        | none => rfl
        | some o => obtain ⟨o', e'⟩ := x₁.dom b o q; rw [hb] at e'; cases e'
      let ob : Obj := { cls := .type "generator", data := .fields #[.int s₁.gens.size 0, .str "_iter_escaped_chars" (s₁.toks + 1), .str "_iter_escaped_chars" (s₁.toks + 1 + 1)] }
      let s₂ : Shared := { heap := h₁.push ob, gens := s₁.gens.push (.fresh (.func gBody (gEnv s₁.heap.objs.size cd))), drawn := s₁.drawn, toks := s₁.toks + 1 + 1 + 1, os := s₁.os }
      have up2 : ∀ b o, s₁.heap.get? b = some o → s₂.heap.get? b = some o := fun b o e => Heap.get?_push_of_some _ (up1 b o e)
      have hgen : s₂.heap.IsGen h₁.objs.size s₁.gens.size := ⟨ob, _, _, Heap.get?_push_size _ rfl, rfl, rfl, rfl⟩
      have hext : GExt s₁.gens s₂.gens := by
        refine ⟨fun i y e => ?_, fun hall y hy => ?_⟩
        · show (s₁.gens.push _)[i]? = _
          obtain ⟨hlt, e5⟩ := Array.getElem?_eq_some_iff.mp e
          rw [Array.getElem?_push_lt hlt, e5]
        · rcases Array.mem_push.mp hy with h | h
          · exact hall y h
          · rw [h]; rfl
      have r₂ : Rel c σ₁ S' s₂ := r₁.grown up2
      have x₂ : Ext c σ₁ s₁ σ₁ s₂ := ⟨List.prefix_refl _, fun a h n => absurd h n, fun b o e _ _ => up2 b o e, fun b o e => ⟨o, up2 b o e⟩, hext, rfl⟩
      show wpAny (model c.prog c.w) A (pyIter (.ref h₁.objs.size)) Q E s₂
      refine wpAny_pyIter_gen hgen ?_
      refine K σ₁ s₂ _ (itEsc (cd := cd) (x := x) (t := t) (L := s₁.heap.objs.size) (g := s₁.gens.size) G.ok G.enumerate (Nat.ne_of_gt hLlt) nBL) [h₁.objs.size, s₁.heap.objs.size] [s₁.gens.size] r₂ (x₁.trans r₁.nd x₂) ?_ ?_
      · refine ⟨rfl, hgen, [s₁.heap.objs.size], .fresh (.func gBody (gEnv s₁.heap.objs.size cd)), rfl, ?_, rfl, fun b hb => ?_, Nat.zero_le _, .inl ⟨rfl, rfl, rfl, ?_⟩⟩
        · show (s₁.gens.push _)[s₁.gens.size]? = _
          simp
        · rw [List.mem_singleton.mp hb]
          obtain ⟨o', _, _, e, _⟩ := hns
          exact ⟨o', Heap.get?_push_of_some _ e⟩
        · have e1 : (fun y : Str => ([(("addr" : Str), Value.str x t)] : List (Str × Value)).reverse.lookup y) = fun y : Str => if y = ("addr" : Str) then some (.str x t) else none := by
            funext y
            by_cases hy : y = "addr"
            · subst hy; rfl
            · have h2 : (y == ("addr" : Str)) = false := by simpa using hy
              simp [List.lookup, h2, hy]
          have hns' : h₁.Ns s₁.heap.objs.size fun y => if y = ("addr" : Str) then some (.str x t) else none := by rw [← e1]; exact hns
          exact hns'.push _
      · refine ⟨fun b hb => ?_, fun b hb hm => ?_, fun g hg => ?_⟩
        · simp only [List.mem_cons, List.not_mem_nil, or_false] at hb
          rcases hb with rfl | rfl
          · exact back _ sA
          · exact back _ sL
        · obtain ⟨o', e⟩ := r₁.live b hm
          simp only [List.mem_cons, List.not_mem_nil, or_false] at hb
          rcases hb with rfl | rfl
          · rw [sA] at e; cases e
          · rw [sL] at e; cases e
        · rw [List.mem_singleton.mp hg]
          cases q : s.gens[s₁.gens.size]? with
          | none => rfl
          | some y =>
            have := x₁.gens.1 _ _ q
            simp at this
  | _ => cases e2
end Mine
end

section
set_option maxRecDepth 100000
set_option maxHeartbeats 4000000
set_option linter.unusedVariables false
open PySem PySem.W PyProof.Rows PySem.Calls PySem.Challenge
namespace Mine
variable {prog : Program} {w : World} {B₀ B : Heap} {mg mb : Str → Option Value}

noncomputable def fStrip : F AFlow := (seqF (F.bind (F.bind (F.pure (.str "\"")) fun v1 => F.bind (getVar 0) fun v2 => F.bind (notInF v1 v2) truF) fun v4 => match v4 with | true => (seqF (F.bind (getVar 0) fun v3 => F.pure (.ret v3)) (F.pure .next)) | false => (F.pure .next)) (seqF (F.bind (F.pure (.int 0)) fun v5 => F.bind (setVar 1 v5) fun _ => F.pure .next) (seqF (F.bind (F.pure .none) fun v6 => F.bind (setVar 2 v6) fun _ => F.pure .next) (seqF (F.bind (F.bind (F.pure []) fun v8 => newAt (.list v8)) fun v7 => F.bind (setVar 3 v7) fun _ => F.pure .next) (seqF (F.bind (F.bind (getVar 0) srcEsc) fun it32 => forF it32 (st2 4 5) (seqF (F.bind (F.bind (getVar 5) fun v9 => F.bind (F.pure (.str "\"")) fun v10 => F.bind ((eqF false) v9 v10) truF) fun v31 => match v31 with | true => (seqF (F.bind (F.bind (getVar 2) fun v11 => F.bind (F.pure .none) fun v12 => F.bind (isF v11 v12) truF) fun v30 => match v30 with | true => (seqF (F.bind (getVar 4) fun v13 => F.bind (setVar 2 v13) fun _ => F.pure .next) (F.pure .next)) | false => (seqF (F.bind (F.bind (getVar 1) fun v14 => F.bind (getVar 2) fun v15 => F.bind ((eqF true) v14 v15) truF) fun v25 => match v25 with | true => (seqF (F.bind (F.bind (getVar 3) fun v16 => F.bind (typed "list" v16) fun _ => F.bind (F.bind (F.bind (getVar 0) fun v19 => F.bind (getVar 1) fun v20 => F.bind (getVar 2) fun v21 => sliceF v19 v20 v21) fun v22 => F.bind (F.pure []) fun v23 => F.pure (v22 :: v23)) fun v18 => appendM v16 v18) fun v24 => exprF v24) (F.pure .next)) | false => (F.pure .next)) (seqF (F.bind (F.bind (getVar 4) fun v27 => F.bind (F.pure (.int 1)) fun v28 => addF v27 v28) fun v26 => F.bind (setVar 1 v26) fun _ => F.pure .next) (seqF (F.bind (F.pure .none) fun v29 => F.bind (setVar 2 v29) fun _ => F.pure .next) (F.pure .next))))) (F.pure .next)) | false => (F.pure .next)) (F.pure .next)) 40 0) (seqF (F.bind (F.bind (getVar 1) fun v35 => F.bind (F.bind (F.bind (getVar 0) fun v33 => F.bind (F.pure []) fun v34 => F.pure (v33 :: v34)) lenF) fun v36 => F.bind (ltF v35 v36) truF) fun v46 => match v46 with | true => (seqF (F.bind (F.bind (getVar 3) fun v37 => F.bind (typed "list" v37) fun _ => F.bind (F.bind (F.bind (getVar 0) fun v40 => F.bind (getVar 1) fun v41 => F.bind (F.pure .none) fun v42 => sliceF v40 v41 v42) fun v43 => F.bind (F.pure []) fun v44 => F.pure (v43 :: v44)) fun v39 => appendM v37 v39) fun v45 => exprF v45) (F.pure .next)) | false => (F.pure .next)) (seqF (F.bind (F.bind (F.pure (.str "")) fun v47 => F.bind (typed "str" v47) fun _ => F.bind (F.bind (getVar 3) fun v50 => F.bind (F.pure []) fun v51 => F.pure (v50 :: v51)) fun v49 => joinM v47 v49) fun v52 => F.pure (.ret v52)) (F.pure .next))))))))
noncomputable def gStrip (ds : List DV) : Option DV := if ds.length = 1 then callF 5 fStrip ds else none
theorem fnStrip {d : Nat} (T : Tops prog w B₀ mg mb) : Fn prog w B₀ (d + 3) 75 gStrip := by
  obtain ⟨o, pm, cd, doc, ho, hdata, hcd⟩ := T.f__strip_quoted_realnames
  refine fn_def (d := d + 2) (ps := ["addr"]) (vs := ["start", "open_pos", "result", "pos", "ch"]) (f := fStrip) ho hdata T.ok.lim hcd (bind1 fun _ => rfl) (by decide +kernel) (by decide +kernel) rfl rfl rfl (by decide +kernel) (fun B hB z L ok => ?_)
  have G := T.toGlobs.mono hB
  refine den_cons ?_ ?_
  refine den_if ?_ ?_ ?_
  refine den_testcmp ?_ ?_ op_notIn op_tru rfl
  exact den_str
  exact den_loc (i := 0) rfl rfl rfl rfl
  refine den_cons ?_ ?_
  refine den_ret ?_
  exact den_loc (i := 0) rfl rfl rfl rfl
  exact den_nil
  exact den_nil
  refine den_cons ?_ ?_
  refine den_assign ok (Stores.loc (i := 1) rfl rfl) ?_ rfl
  exact den_int
  refine den_cons ?_ ?_
  refine den_assign ok (Stores.loc (i := 2) rfl rfl) ?_ rfl
  exact den_none
  refine den_cons ?_ ?_
  refine den_assign ok (Stores.loc (i := 3) rfl rfl) ?_ rfl
  refine den_list ?_
  exact denL_nil
  refine den_cons ?_ ?_
  refine den_for 40 ?_ ?_ ?_ (fun _ => rfl)
  refine src_esc T hB (gname G.ok rfl rfl G.n__iter_escaped_chars) ?_ (by intro _ _ h; cases h)
  exact den_loc (i := 0) rfl rfl rfl rfl
  exact tgt_pair ok (Stores.loc (i := 4) rfl rfl) (Stores.loc (i := 5) rfl rfl)
  refine den_cons ?_ ?_
  refine den_if ?_ ?_ ?_
  refine den_testcmp ?_ ?_ op_eq op_tru rfl
  exact den_loc (i := 5) rfl rfl rfl rfl
  exact den_str
  refine den_cons ?_ ?_
  refine den_if ?_ ?_ ?_
  refine den_testcmp ?_ ?_ op_is op_tru rfl
  exact den_loc (i := 2) rfl rfl rfl rfl
  exact den_none
  refine den_cons ?_ ?_
  refine den_assign ok (Stores.loc (i := 2) rfl rfl) ?_ rfl
  exact den_loc (i := 4) rfl rfl rfl rfl
  exact den_nil
  refine den_cons ?_ ?_
  refine den_if ?_ ?_ ?_
  refine den_testcmp ?_ ?_ op_ne op_tru rfl
  exact den_loc (i := 1) rfl rfl rfl rfl
  exact den_loc (i := 2) rfl rfl rfl rfl
  refine den_cons ?_ ?_
  refine den_expr ?_ rfl rfl
  refine den_meth mo_append rfl rfl rfl (by intro _ _ h; cases h) (fun _ => rfl) ?_ ?_ op_append
  exact den_loc (i := 3) rfl rfl rfl rfl
  refine denL_cons ?_ ?_ (by intro _ _ h; cases h)
  refine den_slice ?_ ?_ ?_
  exact den_loc (i := 0) rfl rfl rfl rfl
  refine part_some ?_
  exact den_loc (i := 1) rfl rfl rfl rfl
  refine part_some ?_
  exact den_loc (i := 2) rfl rfl rfl rfl
  exact denL_nil
  exact den_nil
  exact den_nil
  refine den_cons ?_ ?_
  refine den_assign ok (Stores.loc (i := 1) rfl rfl) ?_ rfl
  refine den_bin ?_ ?_ op_add
  exact den_loc (i := 4) rfl rfl rfl rfl
  exact den_int
  refine den_cons ?_ ?_
  refine den_assign ok (Stores.loc (i := 2) rfl rfl) ?_ rfl
  exact den_none
  exact den_nil
  exact den_nil
  exact den_nil
  exact den_nil
  refine den_cons ?_ ?_
  refine den_if ?_ ?_ ?_
  refine den_testcmp ?_ ?_ op_lt op_tru rfl
  exact den_loc (i := 1) rfl rfl rfl rfl
  refine den_call (gnameb G.ok rfl rfl G.len.1 G.len.2) (.builtin _) ?_ op_len (by intro _ _ h; cases h) (fun _ => rfl) rfl
  refine denL_cons ?_ ?_ (by intro _ _ h; cases h)
  exact den_loc (i := 0) rfl rfl rfl rfl
  exact denL_nil
  refine den_cons ?_ ?_
  refine den_expr ?_ rfl rfl
  refine den_meth mo_append rfl rfl rfl (by intro _ _ h; cases h) (fun _ => rfl) ?_ ?_ op_append
  exact den_loc (i := 3) rfl rfl rfl rfl
  refine denL_cons ?_ ?_ (by intro _ _ h; cases h)
  refine den_slice ?_ ?_ ?_
  exact den_loc (i := 0) rfl rfl rfl rfl
  refine part_some ?_
  exact den_loc (i := 1) rfl rfl rfl rfl
  exact part_none
  exact denL_nil
  exact den_nil
  exact den_nil
  refine den_cons ?_ ?_
  refine den_ret ?_
  refine den_meth mo_join rfl rfl rfl (by intro _ _ h; cases h) (fun _ => rfl) ?_ ?_ op_join
  exact den_str
  refine denL_cons ?_ ?_ (by intro _ _ h; cases h)
  exact den_loc (i := 3) rfl rfl rfl rfl
  exact denL_nil
  exact den_nil

noncomputable def fCheck : F AFlow := (seqF (F.bind (F.bind (F.bind (getVar 0) fun v54 => F.bind (F.pure []) fun v55 => F.pure (v54 :: v55)) (appF gStrip)) fun v53 => F.bind (setVar 0 v53) fun _ => F.pure .next) (seqF (F.bind (F.pure (.int 0)) fun v56 => F.bind (setVar 1 v56) fun _ => F.pure .next) (seqF (F.bind (F.bind (getVar 0) srcEsc) fun it73 => forF it73 (st2 2 3) (seqF (F.bind (F.bind (getVar 3) fun v57 => F.bind (F.pure (.str "(")) fun v58 => F.bind ((eqF false) v57 v58) truF) fun v72 => match v72 with | true => (seqF (F.bind (getVar 1) fun v59 => F.bind (F.pure (.int 1)) fun v60 => F.bind (iaddF v59 v60) fun v61 => F.bind (setVar 1 v61) fun _ => F.pure .next) (F.pure .next)) | false => (seqF (F.bind (F.bind (getVar 3) fun v62 => F.bind (F.pure (.str ")")) fun v63 => F.bind ((eqF false) v62 v63) truF) fun v71 => match v71 with | true => (seqF (F.bind (getVar 1) fun v64 => F.bind (F.pure (.int 1)) fun v65 => F.bind (isubF v64 v65) fun v66 => F.bind (setVar 1 v66) fun _ => F.pure .next) (seqF (F.bind (F.bind (getVar 1) fun v67 => F.bind (F.pure (.int 0)) fun v68 => F.bind (ltF v67 v68) truF) fun v70 => match v70 with | true => (seqF (F.bind (F.pure (.bool false)) fun v69 => F.pure (.ret v69)) (F.pure .next)) | false => (F.pure .next)) (F.pure .next))) | false => (F.pure .next)) (F.pure .next))) (F.pure .next)) 40 0) (seqF (F.bind (F.bind (getVar 1) fun v74 => F.bind (F.pure (.int 0)) fun v75 => (eqF false) v74 v75) fun v76 => F.pure (.ret v76)) (F.pure .next)))))
noncomputable def gCheck (ds : List DV) : Option DV := if ds.length = 1 then callF 3 fCheck ds else none
theorem fnCheck {d : Nat} (T : Tops prog w B₀ mg mb) : Fn prog w B₀ (d + 4) 82 gCheck := by
  obtain ⟨o, pm, cd, doc, ho, hdata, hcd⟩ := T.f__check_parenthesis
  refine fn_def (d := d + 3) (ps := ["addr"]) (vs := ["opens", "pos", "ch"]) (f := fCheck) ho hdata T.ok.lim hcd (bind1 fun _ => rfl) (by decide +kernel) (by decide +kernel) rfl rfl rfl (by decide +kernel) (fun B hB z L ok => ?_)
  have G := T.toGlobs.mono hB
  refine den_cons ?_ ?_
  refine den_assign ok (Stores.loc (i := 0) rfl rfl) ?_ rfl
  refine den_call (gname G.ok rfl rfl G.n__strip_quoted_realnames) (G.o__strip_quoted_realnames.callee) ?_ (fnStrip (d := d + 0) T _ rfl rfl hB) (by intro _ _ h; cases h) (fun _ => rfl) rfl
  refine denL_cons ?_ ?_ (by intro _ _ h; cases h)
  exact den_loc (i := 0) rfl rfl rfl rfl
  exact denL_nil
  refine den_cons ?_ ?_
  refine den_assign ok (Stores.loc (i := 1) rfl rfl) ?_ rfl
  exact den_int
  refine den_cons ?_ ?_
  refine den_for 40 ?_ ?_ ?_ (fun _ => rfl)
  refine src_esc T hB (gname G.ok rfl rfl G.n__iter_escaped_chars) ?_ (by intro _ _ h; cases h)
  exact den_loc (i := 0) rfl rfl rfl rfl
  exact tgt_pair ok (Stores.loc (i := 2) rfl rfl) (Stores.loc (i := 3) rfl rfl)
  refine den_cons ?_ ?_
  refine den_if ?_ ?_ ?_
  refine den_testcmp ?_ ?_ op_eq op_tru rfl
  exact den_loc (i := 3) rfl rfl rfl rfl
  exact den_str
  refine den_cons ?_ ?_
  refine den_aug ok (Stores.loc (i := 1) rfl rfl) ?_ ?_ op_iadd rfl
  exact den_loc (i := 1) rfl rfl rfl rfl
  exact den_int
  exact den_nil
  refine den_cons ?_ ?_
  refine den_if ?_ ?_ ?_
  refine den_testcmp ?_ ?_ op_eq op_tru rfl
  exact den_loc (i := 3) rfl rfl rfl rfl
  exact den_str
  refine den_cons ?_ ?_
  refine den_aug ok (Stores.loc (i := 1) rfl rfl) ?_ ?_ op_isub rfl
  exact den_loc (i := 1) rfl rfl rfl rfl
  exact den_int
  refine den_cons ?_ ?_
  refine den_if ?_ ?_ ?_
  refine den_testcmp ?_ ?_ op_lt op_tru rfl
  exact den_loc (i := 1) rfl rfl rfl rfl
  exact den_int
  refine den_cons ?_ ?_
  refine den_ret ?_
  exact den_bool
  exact den_nil
  exact den_nil
  exact den_nil
  exact den_nil
  exact den_nil
  exact den_nil
  refine den_cons ?_ ?_
  refine den_ret ?_
  refine den_cmp ?_ ?_ op_eq rfl
  exact den_loc (i := 1) rfl rfl rfl rfl
  exact den_int
  exact den_nil

end Mine
end

section
set_option maxRecDepth 100000
set_option maxHeartbeats 2000000
set_option linter.unusedVariables false
open PySem PySem.W PyProof.Rows PySem.Calls PySem.Challenge PySem.Builtin PySem.Builtin.Re
namespace Mine

/-- the machine, driven for at most so many turns -/
noncomputable def driveP : Nat → Sre.M → Option Sre.M
  | 0, _ => none
  | n + 1, m => match (m.runFor reTurnSteps).outcome.isSome with
    | true => some (m.runFor reTurnSteps)
    | false => driveP n (m.runFor reTurnSteps)
section
variable {M : Model} {A : Around} {E : Value → Shared → Prop} {s : Shared}
theorem wp_drive : ∀ (k n : Nat) (m m' : Sre.M) (Q : Sre.M → Shared → Prop), driveP k m = some m' → k ≤ n → Q m' s → wpAny M A (reDrive n m) Q E s
  | 0, _, _, _, _, e, _, _ => by cases e
  | k + 1, 0, _, _, _, _, h, _ => by omega
  | k + 1, n + 1, m, m', Q, e, h, hQ => by
    unfold driveP at e
    show wpAny M A (if (m.runFor reTurnSteps).outcome.isSome then pure (m.runFor reTurnSteps) else do rule "sre.turn"; reDrive n (m.runFor reTurnSteps)) Q E s
    cases hb : (m.runFor reTurnSteps).outcome.isSome with
    | true => rw [hb] at e; cases e; rw [if_pos rfl]; exact wpAny_pure hQ
    | false =>
      rw [hb] at e
      rw [if_neg Bool.false_ne_true]
      exact wpAny_bind (wpAny_rule (wp_drive k n _ m' Q e (Nat.le_of_succ_le_succ h) hQ))
theorem wp_rules (b : Nat → Bool) (nm : Nat → String) {Q : PUnit → Shared → Prop} : ∀ (l : List Nat), Q ⟨⟩ s →
    wpAny M A (forIn l PUnit.unit fun i _ => if b i = true then do rule (nm i); pure (ForInStep.yield PUnit.unit) else pure (ForInStep.yield PUnit.unit)) Q E s
  | [], h => wpAny_pure h
  | i :: l, h => by
    rw [List.forIn_cons]
    refine wpAny_bind ?_
    split
    · exact wpAny_bind (wpAny_rule (wpAny_pure (wp_rules b nm l h)))
    · exact wpAny_pure (wp_rules b nm l h)
/-- what the machine says in the end -/
noncomputable def endP (m : Sre.M) : Option (Option Sre.M) := match driveP 64 m with
  | some m' => match m'.outcome with
    | some .matched => some (some m')
    | some .failed => some none
    | _ => none
  | none => none
theorem wp_runToEnd {m : Sre.M} {r : Option Sre.M} {Q : Option Sre.M → Shared → Prop} (h : endP m = some r) (hQ : Q r s) : wpAny M A (reRunToEnd m) Q E s := by
  unfold endP at h
  cases hd : driveP 64 m with
  | none => rw [hd] at h; cases h
  | some m' =>
    rw [hd] at h
    dsimp only at h
    unfold reRunToEnd
    refine wpAny_bind (wp_drive 64 _ m m' _ hd (by decide) ?_)
    refine wpAny_bind (wp_rules (fun i => m'.seen.has i) (fun i => Sre.names.getD i "") _ ?_)
    cases ho : m'.outcome with
    | none => rw [ho] at h; cases h
    | some o =>
      rw [ho] at h
      cases o with
      | matched => cases h; exact wpAny_pure hQ
      | failed => cases h; exact wpAny_pure hQ
      | stuck w => cases h

theorem wp_target {a : Addr} {code : List Nat} {x : Str} {t : Tok} {Q : ReTarget → Shared → Prop} (hp : IsPat s.heap a code)
    (hQ : Q { pattern := .ref a, string := .str x t, code := code.toArray, text := x.cps, kind := 0, groups := 0, pos := 0, lim := x.cps.size } s) :
    wpAny M A (reWholeTarget (.ref a) (.str x t)) Q E s := by
  obtain ⟨o, vs, ct, h1, h2, h3, h4, h5, h6, h7, oc, xs, n, h8, h9, h10⟩ := hp.obj
  unfold reWholeTarget
  refine wpAny_bind (wpAny_fieldsOf h1 h4 ?_)
  have e1 : (reTextOf (.str x t) : Sem (Array Nat × Nat)) = pure (x.cps, 0) := rfl
  refine wpAny_bind (wpAny_of_eq e1 ?_)
  rw [h6, h7, h5]
  show wpAny M A (reNoCollectionInside (.str x t) 0 >>= _) Q E s
  refine wpAny_bind (wpAny_of_eq (a := ()) rfl ?_)
  refine wpAny_bind ?_
  unfold reRawItems seqItems?
  refine wpAny_bind (wpAny_bind (wpAny_load h8 ?_))
  rw [h9]
  refine wpAny_pure ?_
  refine wpAny_pure (wpAny_pure ?_)
  show Q { pattern := .ref a, string := .str x t, code := (xs.map reRawOf).map (·.toNat), text := x.cps, kind := 0, groups := 0, pos := 0, lim := x.cps.size } s
  rw [h10]; exact hQ
end
end Mine
end

section
set_option maxRecDepth 100000
set_option maxHeartbeats 2000000
set_option linter.unusedVariables false
open PySem PySem.W PyProof.Rows PySem.Calls PySem.Challenge PySem.Builtin PySem.Builtin.Re
namespace Mine
namespace RF
theorem entry_loop : entryFor table "re.Pattern.sub.loop" = some Builtin.«re.Pattern.sub.loop» := entryFor_of_tree (by kernel_rfl)
theorem plain_loop : plainId "re.Pattern.sub.loop" = true := by decide +kernel
theorem quiet_loop (args : Args) : (Code.builtin "re.Pattern.sub.loop" args).quiet = true := by kernel_rfl
end RF

noncomputable def okLen (ys : List Str) : Bool := small ((ys.map (·.length)).sum + ys.length)
noncomputable def finP (text : Array Nat) (ys : List Str) : Option Str := match ys with
  | [] => some ⟨text.extract 0 0⟩
  | y :: r => match small (((y :: r).map (·.length)).sum) with
    | true => some (Txt.join ⟨text.extract 0 0⟩ (y :: r))
    | false => none
noncomputable def subP (code : List Nat) (text : Array Nat) (repl : Str) : Nat → Nat → Bool → List Str → Option Str
  | 0, _, _, _ => none
  | n + 1, pos, must, ys => match small (ys.length + text.size + 1) with
    | false => none
    | true => match endP (Sre.forSearch code.toArray text 0 pos text.size must) with
      | none => none
      | some none => finP text (ys ++ if pos < text.size then [⟨text.extract pos text.size⟩] else [])
      | some (some m) => subP code text repl n m.handed (m.handed == m.start) ((ys ++ if pos < m.start then [⟨text.extract pos m.start⟩] else []) ++ [repl])

section
variable {prog : Program} {w : World} {A : Around} {R : Result → Shared → Prop}
theorem StrsAre.append {vs ws : List Value} {ys zs : List Str} (h : StrsAre vs ys) (k : StrsAre ws zs) : StrsAre (vs ++ ws) (ys ++ zs) := by
  induction h with
  | nil => exact k
  | cons y t _ ih => exact .cons y t ih
theorem StrsAre.len {vs : List Value} {ys : List Str} (h : StrsAre vs ys) : vs.length = ys.length := by
  induction h with
  | nil => rfl
  | cons y t _ ih => simp [ih]

noncomputable def Part (h : Heap) (a D : Addr) : Prop := a ≠ D ∧ ∀ ct, (∃ o vs', h.get? a = some o ∧ o.data = .fields vs' ∧ vs'.getD 5 .none = .ref ct) → ct ≠ D
theorem IsPat.but {h h' : Heap} {a D : Addr} {code : List Nat} (x : IsPat h a code) (p : Part h a D) (hk : ∀ b o, b ≠ D → h.get? b = some o → h'.get? b = some o) : IsPat h' a code ∧ Part h' a D := by
  obtain ⟨o, vs, ct, h1, h2, h3, h4, h5, h6, h7, oc, xs, n, h8, h9, h10⟩ := x.obj
  have hc := p.2 ct ⟨o, vs, h1, h4, h7⟩
  have h1' := hk _ _ p.1 h1
  refine ⟨⟨o, vs, ct, h1', h2, h3, h4, h5, h6, h7, oc, xs, n, hk _ _ hc h8, h9, h10⟩, p.1, fun ct' ⟨o', vs', e1, e2, e3⟩ => ?_⟩
  rw [h1'] at e1; cases e1
  rw [h4] at e2; cases e2
  rw [h7] at e3; cases e3
  exact hc
/-- a piece is pushed -/
theorem wp_push {E : Value → Shared → Prop} {s : Shared} {D : Addr} {vs : List Value} {n : Nat} {v : Value} {Q : Unit → Shared → Prop} (ho : s.heap.get? D = some (listObj vs n)) (hl : small vs.length = true)
    (h : ∀ h' n', h'.get? D = some (listObj (vs ++ [v]) n') → Heap.SameBut D s.heap h' → Q () { s with heap := h' }) : wpAny (model prog w) A (updateSeq D (·.push v)) Q E s := by
  refine wpAny_updateSeq ho (xs := vs.toArray) (n := n) rfl ?_ (by simpa using small_line hl) (by have := small_line hl; simp; omega)
  obtain ⟨n', hn'⟩ := mapSeq_listObj (·.push v) vs n
  have hget := Heap.get?_update_self (h := s.heap) (Obj.mapSeq (·.push v)) ho (by rw [hn']; rfl)
  rw [hn'] at hget
  exact h _ n' (by simpa using hget) (Heap.SameBut.update ..)

theorem sub_loop {a : Addr} {x repl : Str} {t tr : Tok} {code : List Nat} {D : Addr} (hA : A.handled = none) (hx : small x.length = true) :
    ∀ (n pos : Nat) (must : Bool) (ys : List Str) (y : Str) (s : Shared) (vs : List Value) (nn : Nat) (n0 : Int), subP code x.cps repl n pos must ys = some y → IsPat s.heap a code → Part s.heap a D →
      s.heap.get? D = some (listObj vs nn) → StrsAre vs ys →
      (∀ s' t', (∀ b o, b ≠ D → s.heap.get? b = some o → s'.heap.get? b = some o) → s'.gens = s.gens → s'.os = s.os → R (.ok (.ret (.str y t'))) s') →
      codeAny (model prog w) A (.builtin "re.Pattern.sub.loop" ⟨[.ref a, .str x t, .str repl tr, rawInt 0, rawInt 0, rawInt n0, rawInt pos, rawInt pos, .bool must, .ref D, .bool false], []⟩) R s := by
  intro n
  induction n with
  | zero => intro pos must ys y s vs nn n0 e; cases e
  | succ n ih =>
    intro pos must ys y s vs nn n0 e hp hpart ho hvs hR
    unfold subP at e
    cases hsm : small (ys.length + x.cps.size + 1) with
    | false => rw [hsm] at e; cases e
    | true =>
    rw [hsm] at e
    dsimp only at e
    refine codeAny_builtin RF.entry_loop ?_
    rw [Around.under_plainId RF.plain_loop _]
    show wpAny _ A.in1 (reWholeTarget (.ref a) (.str x t) >>= _) _ _ s
    refine wpAny_bind (wp_target hp ?_)
    show wpAny _ A.in1 (reLiteralCannotBeTurned (.str repl tr) >>= _) _ _ s
    refine wpAny_bind (wpAny_of_eq (a := ()) rfl ?_)
    cases hend : endP (Sre.forSearch code.toArray x.cps 0 pos x.cps.size must) with
    | none => rw [hend] at e; cases e
    | some r =>
      rw [hend] at e
      show wpAny _ A.in1 (reNextFound _ (Int.toNat (pos : Int)) must >>= _) _ _ s
      rw [Int.toNat_natCast]
      refine wpAny_bind (wp_runToEnd (r := r) hend ?_)
      have hxl : x.cps.size ≤ sizeLine := small_line hx
      have hvl : vs.length = ys.length := StrsAre.len hvs
      have hsz : small vs.length = true := Nat.ble_eq_true_of_le (by have := small_le hsm; omega)
      have hsz1 : ∀ k, k ≤ 1 → small (vs.length + 0) = true := fun _ _ => hsz
      have extl : ∀ b e, (⟨x.cps.extract b e⟩ : Str).length ≤ sizeLine := fun b e => by
        show (x.cps.extract b e).size ≤ sizeLine
        rw [Array.size_extract]; omega
      cases r with
      | none =>
        dsimp only at e
        have hjoin : ∀ (s₂ : Shared) (vs₂ : List Value) (nn₂ : Nat) (ys₂ : List Str), s₂.heap.get? D = some (listObj vs₂ nn₂) → StrsAre vs₂ ys₂ → finP x.cps ys₂ = some y → (∀ b o, b ≠ D → s.heap.get? b = some o → s₂.heap.get? b = some o) → s₂.gens = s.gens → s₂.os = s.os →
            wpAny (model prog w) A.in1 (do
              let joiner ← reSlice x.cps 0 0 0
              let text ← if ((← seqItems? (.ref D)).getD #[]).isEmpty then pure joiner else call (.builtin "str.join") [joiner, .ref D]
              ret text) (fun fin s' => match fin with | .done f => R (.ok f) s' | .again c' => c'.quiet = true ∧ codeAny (model prog w) A c' R s') (fun e s' => R (.error e) s') s₂ := fun s₂ vs₂ nn₂ ys₂ ho₂ hv₂ hf hk hg hos => by
          refine wpAny_bind (m := reSlice x.cps 0 0 0) (wpAny_mkStr ?_ (extl 0 0))
          refine wpAny_bind ?_
          unfold seqItems?
          refine wpAny_bind (wpAny_load ho₂ (wpAny_pure ?_))
          cases hv₂ with
          | nil =>
            cases hf
            refine wpAny_pure ?_
            exact hR { s₂ with toks := s₂.toks + 1 } _ hk hg hos
          | cons y0 t0 hr =>
            rename_i vr yr
            unfold finP at hf
            dsimp only at hf
            cases hfs : small (((y0 :: yr).map (·.length)).sum) with
            | false => rw [hfs] at hf; cases hf
            | true =>
              rw [hfs] at hf
              cases hf
              show wpAny _ A.in1 (call (.builtin "str.join") [.str ⟨x.cps.extract 0 0⟩ s₂.toks, .ref D] >>= fun text => ret text) _ _ _
              refine wpAny_bind ?_
              refine join_list (items := (Value.str y0 t0 :: vr).toArray) (ys := y0 :: yr) ⟨_, ho₂, rfl, nn₂, rfl⟩ (by simpa using StrsAre.cons y0 t0 hr) ?_ fun t' k => ?_
              rotate_left
              · refine wpAny_pure ?_
                exact hR { s₂ with toks := k } _ hk hg hos
              have h1 := small_le hfs
              have h2 : (⟨x.cps.extract 0 0⟩ : Str).length = 0 := by show (x.cps.extract 0 0).size = 0; simp
              rw [h2]; omega
        by_cases hp : pos < x.cps.size
        · rw [if_pos hp] at e
          show wpAny _ A.in1 (if (pos : Int).toNat < x.cps.size then _ else _) _ _ s
          rw [Int.toNat_natCast, if_pos hp]
          refine wpAny_bind (m := reSlice x.cps 0 pos x.cps.size) (wpAny_mkStr ?_ (extl _ _))
          refine wpAny_bind (wp_push ho hsz fun h' n' hD' hs' => ?_)
          exact hjoin _ _ n' _ hD' (StrsAre.append hvs (.cons _ _ .nil)) e (fun b o hb eb => hs'.extBut b o hb eb) rfl rfl
        · rw [if_neg hp, List.append_nil] at e
          show wpAny _ A.in1 (if (pos : Int).toNat < x.cps.size then _ else _) _ _ s
          rw [Int.toNat_natCast, if_neg hp]
          exact hjoin s vs nn ys ho hvs e (fun b o _ eb => eb) rfl rfl
      | some m =>
        dsimp only at e
        have hgo : ∀ (s₂ : Shared) (vs₂ : List Value) (nn₂ : Nat) (ys₂ : List Str), s₂.heap.get? D = some (listObj vs₂ nn₂) → StrsAre vs₂ ys₂ → small vs₂.length = true → subP code x.cps repl n m.handed (m.handed == m.start) (ys₂ ++ [repl]) = some y →
            (∀ b o, b ≠ D → s.heap.get? b = some o → s₂.heap.get? b = some o) → s₂.gens = s.gens → s₂.os = s.os →
            wpAny (model prog w) A.in1 (updateSeq D (·.push (.str repl tr)) >>= fun _ => again (.builtin "re.Pattern.sub.loop" ⟨[.ref a, .str x t, .str repl tr, rawInt 0, rawInt 0, rawInt (n0 + 1), rawInt m.handed, rawInt m.handed, .bool (m.handed == m.start), .ref D, .bool false], []⟩))
              (fun fin s' => match fin with | .done f => R (.ok f) s' | .again c' => c'.quiet = true ∧ codeAny (model prog w) A c' R s') (fun e s' => R (.error e) s') s₂ := fun s₂ vs₂ nn₂ ys₂ ho₂ hv₂ hsm₂ hf hk hg hos => by
          refine wpAny_bind (wp_push ho₂ hsm₂ fun h' n' hD' hs' => wpAny_pure ⟨RF.quiet_loop _, ?_⟩)
          have hk' : ∀ b o, b ≠ D → s.heap.get? b = some o → h'.get? b = some o := fun b o hb eb => hs'.extBut b o hb (hk b o hb eb)
          obtain ⟨hp', hpart'⟩ := hp.but hpart hk'
          exact ih m.handed (m.handed == m.start) (ys₂ ++ [repl]) y { s₂ with heap := h' } (vs₂ ++ [.str repl tr]) n' (n0 + 1) hf hp' hpart' hD' (StrsAre.append hv₂ (.cons _ _ .nil)) fun s' t' hk'' hg' hos' => hR s' t' (fun b o hb eb => hk'' b o hb (hk' b o hb eb)) (hg'.trans hg) (hos'.trans hos)
        by_cases hp2 : pos < m.start
        · rw [if_pos hp2] at e
          show wpAny _ A.in1 (if (pos : Int).toNat < m.start then _ else _) _ _ s
          rw [Int.toNat_natCast, if_pos hp2]
          refine wpAny_bind (m := reSlice x.cps 0 pos m.start) (wpAny_mkStr ?_ (extl _ _))
          refine wpAny_bind (wp_push ho hsz fun h' n' hD' hs' => ?_)
          refine hgo _ _ n' _ hD' (StrsAre.append hvs (.cons _ _ .nil)) ?_ e (fun b o hb eb => hs'.extBut b o hb eb) rfl rfl
          exact Nat.ble_eq_true_of_le (by have := small_le hsm; simp; omega)
        · rw [if_neg hp2, List.append_nil] at e
          show wpAny _ A.in1 (if (pos : Int).toNat < m.start then _ else _) _ _ s
          rw [Int.toNat_natCast, if_neg hp2]
          exact hgo s vs nn ys ho hvs hsz e (fun b o _ eb => eb) rfl rfl
end
end Mine
end

section
set_option maxRecDepth 100000
set_option maxHeartbeats 2000000
set_option linter.unusedVariables false
open PySem PySem.W PyProof.Rows PySem.Calls PySem.Challenge PySem.Builtin PySem.Builtin.Re
namespace Mine
namespace RF
theorem owner_pat : Manifest.owners.lookup (String.ofList ['n', 'r', 'e', 't', 't', 'a', 'P', '.', 'e', 'r'].reverse) = some Manifest.sig_re_Pattern := by kernel_rfl
theorem slot_sub : Slot "re.Pattern" "sub" "re.Pattern.sub" :=
  .of (owner := "re.Pattern") (n := "sub") (by rw [typeLookup_type, builtinLookup_eq_fast]; kernel_rfl) (by decide +kernel) (by decide +kernel) (by decide +kernel)
    (by first | exact .inl (by decide +kernel) | exact .inr (by decide +kernel)) (by rw [isSubtype_type]; kernel_rfl)
theorem type_sub : typeOf (.builtin "re.Pattern.sub") = pure (.type "method_descriptor") := by show builtinType _ = _; rw [builtinType_eq_fast]; kernel_rfl
theorem entry_sub : entryFor table "re.Pattern.sub" = some Builtin.«re.Pattern.sub» := entryFor_of_tree (by kernel_rfl)
theorem no_call_str : typeLookup (.type "str") "__call__" = pure none := by rw [typeLookup_type, builtinLookup_eq_fast]; kernel_rfl
theorem args_sub (a b c : Value) : argsOk "re.Pattern.sub" ⟨[a, b, c], []⟩ := by
  unfold argsOk; rw [signature?_of (id := "re.Pattern.sub") (n := ['b', 'u', 's']) (o := ['n', 'r', 'e', 't', 't', 'a', 'P', '.', 'e', 'r']) (by kernel_rfl) owner_pat]; kernel_rfl
theorem attrs_pat : PlainAttrs "re.Pattern" :=
  ⟨⟨"object.__getattribute__", by rw [typeLookup_type, builtinLookup_eq_fast]; kernel_rfl, by decide +kernel⟩, by rw [typeLookup_type, builtinLookup_eq_fast]; kernel_rfl⟩
end RF

section
variable {prog : Program} {w : World} {A : Around}
theorem call_sub {E : Value → Shared → Prop} {s : Shared} {a : Addr} {x repl y : Str} {t tr : Tok} {code : List Nat} {n : Nat} {Q : Value → Shared → Prop} (hA : A.handled = none) (hx : small x.length = true) (hr : repl.cps.contains 92 = false) (hp : IsPat s.heap a code)
    (hs : subP code x.cps repl n 0 false [] = some y) (hQ : ∀ s' t', (∀ b o, s.heap.get? b = some o → s'.heap.get? b = some o) → s'.gens = s.gens → s'.os = s.os → Q (.str y t') s') :
    wpAny (model prog w) A (call (.builtin "re.Pattern.sub") [.ref a, .str repl tr, .str x t]) Q E s := by
  have hT : s.TypeIs (.ref a) "re.Pattern" := by obtain ⟨o, vs, ct, h1, h2, _⟩ := hp.obj; exact ⟨o, h1, h2⟩
  refine wpAny_call (codeAny_call_builtin RF.slot_sub.plain RF.entry_sub (RF.slot_sub.check _ _ _ _ _ _ _ _ hT (RF.args_sub _ _ _) ?_))
  show wpAny _ A.in1 (reNamed "re.Pattern.sub" "sub" ["repl", "string", "count"] 2 [.str repl tr, .str x t] [] >>= _) _ _ s
  refine wpAny_bind (wpAny_of_eq (a := [some (.str repl tr), some (.str x t), none]) rfl ?_)
  show wpAny _ A.in1 (pure (0 : Int) >>= _) _ _ s
  refine wpAny_bind (wpAny_pure ?_)
  show wpAny _ A.in1 (specialOf (.str repl tr) "__call__" >>= _) _ _ s
  refine wpAny_bind (wpAny_specialOf (typeIs_str s repl tr) RF.no_call_str ?_)
  show wpAny _ A.in1 (asStr? (.str repl tr) >>= _) _ _ s
  refine wpAny_bind (wpAny_of_eq (a := some repl) rfl ?_)
  show wpAny _ A.in1 (pure (!repl.cps.contains 92) >>= _) _ _ s
  rw [hr]
  refine wpAny_bind (wpAny_pure ?_)
  show wpAny _ A.in1 (pure ((Value.str repl tr), (0 : Int)) >>= _) _ _ s
  refine wpAny_bind (wpAny_pure ?_)
  show wpAny _ A.in1 (holding [.str repl tr] (reWholeTarget (.ref a) (.str x t)) >>= _) _ _ s
  refine wpAny_bind (wpAny_holding (wp_target hp ?_))
  show wpAny _ A.in1 (newList [] >>= _) _ _ s
  refine wpAny_bind (wpAny_newList ?_ (by size_fits))
  have up : ∀ b o, s.heap.get? b = some o → (s.heap.push (listObj [] 0)).get? b = some o := fun b o e => Heap.get?_push_of_some _ e
  have hD : s.heap.get? s.heap.objs.size = none := none_of_ge (Nat.le_refl _)
  refine wpAny_pure ⟨RF.quiet_loop _, ?_⟩
  refine sub_loop (n := n) (y := y) (s := { s with heap := s.heap.push (listObj [] 0) }) (code := code) hA hx 0 false [] [] 0 0 hs (hp.keeps up) ?_ (Heap.get?_push_size _ rfl) .nil fun s' t' hk hg hos => ?_
  · obtain ⟨o, vs, ct, h1, h2, h3, h4, h5, h6, h7, oc, xs, nn, h8, _⟩ := hp.obj
    refine ⟨(fun h => by rw [h, hD] at h1; cases h1), fun ct' ⟨o', vs', e1, e2, e3⟩ h => ?_⟩
    have e1' : (s.heap.push (listObj [] 0)).get? a = some o' := e1
    rw [up _ _ h1] at e1'; cases e1'
    rw [h4] at e2; cases e2
    rw [h7] at e3; cases e3
    rw [h, hD] at h8; cases h8
  · exact hQ s' t' (fun b o e => hk b o (fun h => by rw [h, hD] at e; cases e) (up b o e)) hg hos
end
end Mine
end

section
set_option maxRecDepth 100000
set_option maxHeartbeats 2000000
set_option linter.unusedVariables false
open PySem PySem.W PyProof.Rows PySem.Calls PySem.Challenge
namespace Mine
noncomputable def subM (code : List Nat) : List AV → F AV
  | [.str r, .str x] => guardF (small x.length && !r.cps.contains 92) (match subP code x.cps r 64 0 false [] with
    | some y => F.pure (.str y)
    | none => F.fail)
  | _ => F.fail
variable {c : Cx} {d : Nat}
theorem op_sub' {a : Addr} {code : List Nat} (hp : IsPat c.B a code) : ∀ σ us as, VsRel σ us as → At c d σ (call (.builtin "re.Pattern.sub") (.ref a :: as)) VRel (subM code us) := by
  intro σ us as hv
  unfold subM
  split
  · rename_i r x
    obtain ⟨a1, as1, rfl, h1, h2⟩ := hv.cons_inv
    obtain ⟨a2, as2, rfl, h3, h4⟩ := h2.cons_inv
    obtain rfl := h4.nil_inv
    obtain ⟨t, rfl⟩ := h1.str_inv
    obtain ⟨t', rfl⟩ := h3.str_inv
    refine .guard fun hg => ?_
    rw [Bool.and_eq_true] at hg
    intro A hA S s rel b S' e Q E K
    cases hs : subP code x.cps r 64 0 false [] with
    | none => rw [hs] at e; cases e
    | some y =>
      rw [hs] at e
      cases e
      exact call_sub hA.handled hg.1 (by simpa using hg.2) (hp.keeps rel.base) hs fun s' t' hk hgn hos => K σ s' _ (rel.grown hk) (.grown hk hgn hos) rfl
  · exact .fail
theorem den_sub {x : Str} {np apos pos : Pos} {a : Addr} {code : List Nat} {e : Expr} {es : List Expr} {fl : F (List AV)} (hx : GName c x (.ref a)) (hp : IsPat c.B a code)
    (hd : (x == ("__debug__" : Str)) = false) (hbase : attributeBase (.Name x np) (Str.ofString "sub") c.env (eval (.Name x np) c.env) = eval (.Name x np) c.env) (hline : (apos.endLine == pos.line) = true)
    (hfew : ((backTo pos (starEach (e :: es) c.env)).all (fun x => !x.1) && (backToKw pos (keywordEach [] c.env)).all (fun x => x.1.isSome)
      && decide ((e :: es).length + ([] : List Keyword).length + (if ([] : List Keyword).isEmpty then 0 else 1) < 30)) = true)
    (hn : ∀ x p, e ≠ .Starred x p) (hplain : ∀ pos, (backTo pos (starEach es c.env)).any (·.1) = false) (hl : DenL c d (e :: es) fl) :
    Den c d (eval (.Call (.Attribute (.Name x np) (Str.ofString "sub") apos) (e :: es) [] pos) c.env) VRel (F.bind fl (subM code)) := by
  refine ⟨fun A hA σ S s r b S' e' Q E K => ?_⟩
  refine wpAny_Call_method_lateS hbase hfew hline (hx.load r ?_ hd)
  obtain ⟨o, vs, ct, h1, h2, h3, _⟩ := (hp.keeps r.base).obj
  refine ⟨"re.Pattern", "re.Pattern.sub", RF.attrs_pat, RF.slot_sub, RF.type_sub, ⟨o, h1, h2⟩, fun a' e => by cases e; exact ⟨o, h1, h3⟩, ?_⟩
  exact at_callWith (h := subM code) (first := [.ref a]) (.builtin _) hl hn (hplain pos) (fun σ' _ us as hv => op_sub' hp σ' us as hv) A hA S s r b S' e' Q E K
end Mine
end

section
set_option maxRecDepth 100000
set_option maxHeartbeats 4000000
set_option linter.unusedVariables false
open PySem PySem.W PyProof.Rows PySem.Calls PySem.Challenge
namespace Mine
variable {prog : Program} {w : World} {B₀ B : Heap} {mg mb : Str → Option Value}

noncomputable def fQuote : F AFlow := (seqF (F.bind (F.bind (F.bind (F.pure (.str "..")) fun v7 => F.bind (F.bind (F.bind (F.bind (F.pure (.str "\r\n")) fun v3 => F.bind (F.bind (getVar 0) fun v1 => F.bind (F.pure []) fun v2 => F.pure (v1 :: v2)) fun v4 => F.pure (v3 :: v4)) (subM patCode2)) fun v5 => F.bind (F.pure []) fun v6 => F.pure (v5 :: v6)) fun v8 => F.pure (v7 :: v8)) (subM patCode1)) fun v9 => F.pure (.ret v9)) (F.pure .next))
noncomputable def gQuote (ds : List DV) : Option DV := if ds.length = 1 then callF 0 fQuote ds else none
theorem fnQuote {d : Nat} (T : Tops prog w B₀ mg mb) : Fn prog w B₀ (d + 1) 99 gQuote := by
  obtain ⟨o, pm, cd, doc, ho, hdata, hcd⟩ := T.f_quotedata
  refine fn_def (d := d) (ps := ["data"]) (vs := []) (f := fQuote) ho hdata T.ok.lim hcd (bind1 fun _ => rfl) (by decide +kernel) (by decide +kernel) rfl rfl rfl (by decide +kernel) (fun B hB z L ok => ?_)
  have G := T.toGlobs.mono hB
  refine den_cons ?_ ?_
  refine den_ret ?_
  refine den_sub (gname G.ok rfl rfl G.twin_re_1) (T.p_1.keeps hB) rfl rfl rfl rfl (by intro _ _ h; cases h) (fun _ => rfl) ?_
  refine denL_cons ?_ ?_ (by intro _ _ h; cases h)
  exact den_str
  refine denL_cons ?_ ?_ (by intro _ _ h; cases h)
  refine den_sub (gname G.ok rfl rfl G.twin_re_2) (T.p_2.keeps hB) rfl rfl rfl rfl (by intro _ _ h; cases h) (fun _ => rfl) ?_
  refine denL_cons ?_ ?_ (by intro _ _ h; cases h)
  exact den_glob (u := .str "\r\n") (gname G.ok rfl rfl G.CRLF.choose_spec) (fun _ => rfl) rfl
  refine denL_cons ?_ ?_ (by intro _ _ h; cases h)
  exact den_loc (i := 0) rfl rfl rfl rfl
  exact denL_nil
  exact denL_nil
  exact den_nil

end Mine
end

section
set_option maxRecDepth 100000
set_option maxHeartbeats 4000000
set_option linter.unusedVariables false
open PySem PySem.W PyProof.Rows PySem.Calls PySem.Challenge
namespace Mine
variable {prog : Program} {w : World} {B₀ B : Heap} {mg mb : Str → Option Value}

noncomputable def fMail : F AFlow := (seqF (F.bind (F.bind (F.pure []) fun v2 => newAt (.list v2)) fun v1 => F.bind (setVar 1 v1) fun _ => F.pure .next) (seqF (F.bind (F.bind (F.bind (F.bind (getVar 0) fun v3 => F.bind (F.pure []) fun v4 => F.pure (v3 :: v4)) lenF) srcRange) fun it59 => forF it59 (st1 2) (seqF (F.bind (F.bind (getVar 0) fun v6 => F.bind (F.bind (F.bind (F.pure (.int 1)) negF) fun v9 => F.bind (getVar 2) fun v10 => subF v9 v10) fun v7 => itemF v6 v7) fun v5 => F.bind (setVar 3 v5) fun _ => F.pure .next) (seqF (F.bind (F.bind (F.bind (F.bind (F.bind (getVar 3) fun v11 => F.bind (F.pure []) fun v12 => F.pure (v11 :: v12)) (appF gInC7)) truF) fun v13 => F.pure !v13) fun v58 => match v58 with | true => (seqF (F.bind (F.bind (getVar 1) fun v14 => F.bind (typed "list" v14) fun _ => F.bind (F.bind (F.bind (F.bind (F.pure (.str ".")) fun v17 => F.bind (getVar 3) fun v18 => addF v17 v18) fun v31 => F.bind (F.bind (F.bind (F.bind (F.pure (.str "\n")) fun v23 => F.bind (F.bind (F.pure (.str "\r\n")) fun v21 => F.bind (F.bind (F.pure (.str "\r")) fun v19 => F.bind (F.pure []) fun v20 => F.pure (v19 :: v20)) fun v22 => F.pure (v21 :: v22)) fun v24 => F.pure (v23 :: v24)) fun v25 => newAt (.list v25)) fun v26 => F.bind (F.bind (getVar 2) fun v29 => F.bind (F.pure (.int 3)) fun v30 => modF v29 v30) fun v27 => itemF v26 v27) fun v32 => addF v31 v32) fun v33 => F.bind (F.pure []) fun v34 => F.pure (v33 :: v34)) fun v16 => appendM v14 v16) fun v35 => exprF v35) (F.pure .next)) | false => (seqF (F.bind (F.bind (F.bind (F.bind (getVar 1) fun v36 => F.bind (F.pure []) fun v37 => F.pure (v36 :: v37)) lenF) fun v38 => F.bind (F.pure (.int 1)) fun v39 => F.bind (gtF v38 v39) truF) fun v57 => match v57 with | true => (seqF (F.bind (F.bind (getVar 1) fun v41 => F.bind (typed "list" v41) fun _ => popM v41) fun v40 => F.bind (setVar 4 v40) fun _ => F.pure .next) (seqF (F.bind (F.bind (getVar 1) fun v44 => F.bind (typed "list" v44) fun _ => F.bind (F.bind (F.bind (F.bind (F.bind (getVar 4) fun v50 => F.bind (F.bind (getVar 1) fun v47 => F.bind (typed "list" v47) fun _ => popM v47) fun v51 => addF v50 v51) fun v52 => F.bind (F.pure []) fun v53 => F.pure (v52 :: v53)) (appF gQuote)) fun v54 => F.bind (F.pure []) fun v55 => F.pure (v54 :: v55)) fun v46 => appendM v44 v46) fun v56 => exprF v56) (F.pure .next))) | false => (F.pure .next)) (F.pure .next))) (F.pure .next))) 40 0) (seqF (F.bind (compF (F.bind (getVar 1) srcVal) 1 [] (st1 0) (F.pure true) (F.bind (F.bind (getVar 0) fun v60 => F.bind (F.pure []) fun v61 => F.pure (v60 :: v61)) (appF gQuote)) 40) fun v62 => F.pure (.ret v62)) (F.pure .next))))
noncomputable def gMail (ds : List DV) : Option DV := if ds.length = 1 then callF 4 fMail ds else none
theorem fnMail {d : Nat} (T : Tops prog w B₀ mg mb) : Fn prog w B₀ (d + 2) 146 gMail := by
  obtain ⟨o, pm, cd, doc, ho, hdata, hcd⟩ := T.f__law_mail
  refine fn_def (d := d + 1) (ps := ["signs"]) (vs := ["pile", "k", "sign", "first"]) (f := fMail) ho hdata T.ok.lim hcd (bind1 fun _ => rfl) (by decide +kernel) (by decide +kernel) rfl rfl rfl (by decide +kernel) (fun B hB z L ok => ?_)
  have G := T.toGlobs.mono hB
  refine den_cons ?_ ?_
  refine den_assign ok (Stores.loc (i := 1) rfl rfl) ?_ rfl
  refine den_list ?_
  exact denL_nil
  refine den_cons ?_ ?_
  refine den_for 40 ?_ ?_ ?_ (fun _ => rfl)
  refine src_range (gnameb G.ok rfl rfl G.range.1 G.range.2) ?_ (by intro _ _ h; cases h)
  refine den_call (gnameb G.ok rfl rfl G.len.1 G.len.2) (.builtin _) ?_ op_len (by intro _ _ h; cases h) (fun _ => rfl) rfl
  refine denL_cons ?_ ?_ (by intro _ _ h; cases h)
  exact den_loc (i := 0) rfl rfl rfl rfl
  exact denL_nil
  exact tgt_name ok (Stores.loc (i := 2) rfl rfl)
  refine den_cons ?_ ?_
  refine den_assign ok (Stores.loc (i := 3) rfl rfl) ?_ rfl
  refine den_item ?_ ?_ (fun _ _ => rfl)
  exact den_loc (i := 0) rfl rfl rfl rfl
  refine den_bin ?_ ?_ op_sub
  refine den_un ?_ op_neg
  exact den_int
  exact den_loc (i := 2) rfl rfl rfl rfl
  refine den_cons ?_ ?_
  refine den_if ?_ ?_ ?_
  refine den_not ?_
  refine den_test ?_ op_tru rfl
  refine den_call (gname G.ok rfl rfl G.n_in_table_c7) (G.o_in_table_c7.callee) ?_ (fnInC7 (d := d + 0) T _ rfl rfl hB) (by intro _ _ h; cases h) (fun _ => rfl) rfl
  refine denL_cons ?_ ?_ (by intro _ _ h; cases h)
  exact den_loc (i := 3) rfl rfl rfl rfl
  exact denL_nil
  refine den_cons ?_ ?_
  refine den_expr ?_ rfl rfl
  refine den_meth mo_append rfl rfl rfl (by intro _ _ h; cases h) (fun _ => rfl) ?_ ?_ op_append
  exact den_loc (i := 1) rfl rfl rfl rfl
  refine denL_cons ?_ ?_ (by intro _ _ h; cases h)
  refine den_bin ?_ ?_ op_add
  refine den_bin ?_ ?_ op_add
  exact den_str
  exact den_loc (i := 3) rfl rfl rfl rfl
  refine den_item ?_ ?_ (fun _ _ => rfl)
  refine den_list ?_
  refine denL_cons ?_ ?_ (by intro _ _ h; cases h)
  exact den_str
  refine denL_cons ?_ ?_ (by intro _ _ h; cases h)
  exact den_str
  refine denL_cons ?_ ?_ (by intro _ _ h; cases h)
  exact den_str
  exact denL_nil
  refine den_bin ?_ ?_ op_mod
  exact den_loc (i := 2) rfl rfl rfl rfl
  exact den_int
  exact denL_nil
  exact den_nil
  refine den_cons ?_ ?_
  refine den_if ?_ ?_ ?_
  refine den_testcmp ?_ ?_ op_gt op_tru rfl
  refine den_call (gnameb G.ok rfl rfl G.len.1 G.len.2) (.builtin _) ?_ op_len (by intro _ _ h; cases h) (fun _ => rfl) rfl
  refine denL_cons ?_ ?_ (by intro _ _ h; cases h)
  exact den_loc (i := 1) rfl rfl rfl rfl
  exact denL_nil
  exact den_int
  refine den_cons ?_ ?_
  refine den_assign ok (Stores.loc (i := 4) rfl rfl) ?_ rfl
  refine den_meth0 mo_pop rfl rfl ?_ op_pop
  exact den_loc (i := 1) rfl rfl rfl rfl
  refine den_cons ?_ ?_
  refine den_expr ?_ rfl rfl
  refine den_meth mo_append rfl rfl rfl (by intro _ _ h; cases h) (fun _ => rfl) ?_ ?_ op_append
  exact den_loc (i := 1) rfl rfl rfl rfl
  refine denL_cons ?_ ?_ (by intro _ _ h; cases h)
  refine den_call (gname G.ok rfl rfl G.n_quotedata) (G.o_quotedata.callee) ?_ (fnQuote (d := d + 0) T _ rfl rfl hB) (by intro _ _ h; cases h) (fun _ => rfl) rfl
  refine denL_cons ?_ ?_ (by intro _ _ h; cases h)
  refine den_bin ?_ ?_ op_add
  exact den_loc (i := 4) rfl rfl rfl rfl
  refine den_meth0 mo_pop rfl rfl ?_ op_pop
  exact den_loc (i := 1) rfl rfl rfl rfl
  exact denL_nil
  exact denL_nil
  exact den_nil
  exact den_nil
  exact den_nil
  exact den_nil
  refine den_cons ?_ ?_
  refine den_ret ?_
  refine den_comp 40 (cl := []) (xs := ["mail"]) (caps := []) (ci := []) ok ⟨rfl, rfl, by decide +kernel, by decide +kernel, by decide +kernel, (fun k p h => by simp at h), rfl⟩ ?_ (fun _ => rfl) (fun C ok2 => ⟨?_, ?_, ?_⟩)
  refine src_val ?_
  exact den_loc (i := 1) rfl rfl rfl rfl
  exact tgt_name ok2 (Stores.loc (i := 0) rfl rfl)
  exact tests_nil
  refine den_call (gname G.ok rfl rfl G.n_quotedata) (G.o_quotedata.callee) ?_ (fnQuote (d := d + 0) T _ rfl rfl hB) (by intro _ _ h; cases h) (fun _ => rfl) rfl
  refine denL_cons ?_ ?_ (by intro _ _ h; cases h)
  exact den_loc (i := 0) rfl rfl rfl rfl
  exact denL_nil
  exact den_nil

end Mine
end

section
set_option maxRecDepth 100000
set_option maxHeartbeats 4000000
set_option linter.unusedVariables false
open PySem PySem.W PyProof.Rows PySem.Calls PySem.Challenge
namespace Mine
variable {prog : Program} {w : World} {B₀ B : Heap} {mg mb : Str → Option Value}

noncomputable def fAgrees : F AFlow := (seqF (F.bind (F.bind (F.bind (getVar 0) fun v2 => F.bind (F.pure []) fun v3 => F.pure (v2 :: v3)) (appF gWord)) fun v1 => F.bind (setVar 3 v1) fun _ => F.pure .next) (seqF (F.bind (F.bind (F.bind (getVar 3) fun v4 => F.bind (F.pure .none) fun v5 => F.bind (isF v4 v5) truF) fun v9 => match v9 with | true => F.pure true | false => (F.bind (F.bind (F.bind (F.bind (getVar 0) fun v6 => F.bind (F.pure []) fun v7 => F.pure (v6 :: v7)) (appF gIsTree)) truF) fun v8 => F.pure !v8)) fun v17 => match v17 with | true => (seqF (F.bind (F.bind (F.bind (getVar 3) fun v10 => F.bind (F.pure .none) fun v11 => isF v10 v11) fun v14 => F.bind (truF v14) fun v15 => match v15 with | false => F.pure v14 | true => (F.bind (F.bind (F.bind (getVar 0) fun v12 => F.bind (F.pure []) fun v13 => F.pure (v12 :: v13)) (appF gIsTree)) notF)) fun v16 => F.pure (.ret v16)) (F.pure .next)) | false => (F.pure .next)) (seqF (F.bind (F.pure (.str "")) fun v18 => F.bind (setVar 4 v18) fun _ => F.pure .next) (seqF (F.bind (F.bind (F.pure []) fun v20 => newAt (.list v20)) fun v19 => F.bind (setVar 5 v19) fun _ => F.pure .next) (seqF (F.bind (F.pure (.str "")) fun v21 => F.bind (setVar 6 v21) fun _ => F.pure .next) (seqF (F.bind (F.bind (getVar 3) srcEnum) fun it69 => forF it69 (st2 7 8) (seqF (F.bind (F.bind (getVar 8) fun v22 => F.bind (F.pure (.str ")")) fun v23 => F.bind ((eqF false) v22 v23) truF) fun v51 => match v51 with | true => (seqF (F.bind (F.bind (getVar 5) fun v24 => F.bind (typed "list" v24) fun _ => F.bind (F.bind (F.bind (F.bind (getVar 4) fun v27 => F.bind (F.pure []) fun v28 => F.pure (v27 :: v28)) (appF gCheck)) fun v29 => F.bind (F.pure []) fun v30 => F.pure (v29 :: v30)) fun v26 => appendM v24 v26) fun v31 => exprF v31) (seqF (F.bind (F.bind (getVar 6) fun v40 => F.bind (F.bind (getVar 2) fun v33 => F.bind (F.bind (F.bind (F.bind (getVar 5) fun v36 => F.bind (F.pure []) fun v37 => F.pure (v36 :: v37)) lenF) fun v38 => F.bind (F.pure (.int 1)) fun v39 => subF v38 v39) fun v34 => itemF v33 v34) fun v41 => addF v40 v41) fun v32 => F.bind (setVar 6 v32) fun _ => F.pure .next) (F.pure .next))) | false => (seqF (F.bind (F.bind (getVar 6) fun v49 => F.bind (F.bind (F.bind (F.bind (F.pure (.int 12272)) fun v45 => F.bind (F.bind (getVar 7) fun v43 => F.bind (F.pure (.int 12)) fun v44 => modF v43 v44) fun v46 => addF v45 v46) fun v47 => F.bind (F.pure []) fun v48 => F.pure (v47 :: v48)) chrF) fun v50 => addF v49 v50) fun v42 => F.bind (setVar 6 v42) fun _ => F.pure .next) (F.pure .next))) (seqF (F.bind (F.bind (F.bind (getVar 4) fun v65 => F.bind (F.bind (F.bind (F.bind (F.pure (.str "\\(")) fun v57 => F.bind (F.bind (F.pure (.str "\")\"")) fun v55 => F.bind (F.bind (F.pure (.str "")) fun v53 => F.bind (F.pure []) fun v54 => F.pure (v53 :: v54)) fun v56 => F.pure (v55 :: v56)) fun v58 => F.pure (v57 :: v58)) fun v59 => newAt (.list v59)) fun v60 => F.bind (F.bind (getVar 7) fun v63 => F.bind (F.pure (.int 3)) fun v64 => modF v63 v64) fun v61 => itemF v60 v61) fun v66 => addF v65 v66) fun v67 => F.bind (getVar 8) fun v68 => addF v67 v68) fun v52 => F.bind (setVar 4 v52) fun _ => F.pure .next) (F.pure .next))) 40 0) (seqF (F.bind (compF (F.bind (getVar 0) fun v71 => F.bind (getVar 2) fun v72 => srcZip v71 v72) 2 [] (st2 0 1) (F.pure true) (F.bind (F.bind (F.bind (F.pure (.str ".")) fun v75 => F.bind (F.bind (getVar 0) fun v73 => F.bind (F.pure (.int 2)) fun v74 => addF v73 v74) fun v76 => mulF v75 v76) fun v77 => F.bind (getVar 1) fun v78 => addF v77 v78) fun v79 => F.bind (F.pure (.str "\r\n")) fun v80 => addF v79 v80) 40) fun v70 => F.bind (setVar 9 v70) fun _ => F.pure .next) (seqF (F.bind (F.bind (F.bind (getVar 5) fun v95 => F.bind (F.bind (F.bind (F.bind (F.bind (F.pure (.bool false)) fun v81 => F.bind (F.pure []) fun v82 => F.pure (v81 :: v82)) fun v83 => newAt (.list v83)) fun v88 => F.bind (F.bind (F.bind (F.bind (getVar 0) fun v84 => F.bind (F.pure []) fun v85 => F.pure (v84 :: v85)) lenF) fun v86 => F.bind (F.pure (.int 1)) fun v87 => subF v86 v87) fun v89 => mulF v88 v89) fun v93 => F.bind (F.bind (F.bind (F.pure (.bool true)) fun v90 => F.bind (F.pure []) fun v91 => F.pure (v90 :: v91)) fun v92 => newAt (.list v92)) fun v94 => addF v93 v94) fun v96 => (eqF false) v95 v96) fun v111 => F.bind (truF v111) fun v112 => match v112 with | false => F.pure v111 | true => (F.bind (F.bind (F.bind (F.bind (getVar 1) fun v97 => F.bind (truF v97) fun v98 => match v98 with | true => F.pure v97 | false => (getVar 6)) fun v99 => F.bind (F.pure []) fun v100 => F.pure (v99 :: v100)) (appF gMail)) fun v109 => F.bind (F.bind (F.bind (F.bind (F.pure (.str "")) fun v101 => F.bind (typed "str" v101) fun _ => F.bind (F.bind (getVar 9) fun v104 => F.bind (F.pure []) fun v105 => F.pure (v104 :: v105)) fun v103 => joinM v101 v103) fun v106 => F.bind (F.pure []) fun v107 => F.pure (v106 :: v107)) fun v108 => newAt (.list v108)) fun v110 => (eqF false) v109 v110)) fun v113 => F.pure (.ret v113)) (F.pure .next)))))))))
noncomputable def gAgrees (ds : List DV) : Option DV := if ds.length = 3 then callF 7 fAgrees ds else none
theorem fnAgrees {d : Nat} (T : Tops prog w B₀ mg mb) : Fn prog w B₀ (d + 5) 151 gAgrees := by
  obtain ⟨o, pm, cd, doc, ho, hdata, hcd⟩ := T.f__law_agrees
  refine fn_def (d := d + 4) (ps := ["row", "signs", "names"]) (vs := ["word", "ahead", "told", "made", "k", "sign", "due"]) (f := fAgrees) ho hdata T.ok.lim hcd (bind3 fun _ _ _ => rfl) (by decide +kernel) (by decide +kernel) rfl rfl rfl (by decide +kernel) (fun B hB z L ok => ?_)
  have G := T.toGlobs.mono hB
  refine den_cons ?_ ?_
  refine den_assign ok (Stores.loc (i := 3) rfl rfl) ?_ rfl
  refine den_call (gname G.ok rfl rfl G.n__law_word) (G.o__law_word.callee) ?_ (fnWord (d := d + 2) T _ rfl rfl hB) (by intro _ _ h; cases h) (fun _ => rfl) rfl
  refine denL_cons ?_ ?_ (by intro _ _ h; cases h)
  exact den_loc (i := 0) rfl rfl rfl rfl
  exact denL_nil
  refine den_cons ?_ ?_
  refine den_if ?_ ?_ ?_
  refine den_or2 ?_ ?_
  refine den_testcmp ?_ ?_ op_is op_tru rfl
  exact den_loc (i := 3) rfl rfl rfl rfl
  exact den_none
  refine den_not ?_
  refine den_test ?_ op_tru rfl
  refine den_call (gname G.ok rfl rfl G.n__law_is_tree) (G.o__law_is_tree.callee) ?_ (fnIsTree (d := d + 3) T _ rfl rfl hB) (by intro _ _ h; cases h) (fun _ => rfl) rfl
  refine denL_cons ?_ ?_ (by intro _ _ h; cases h)
  exact den_loc (i := 0) rfl rfl rfl rfl
  exact denL_nil
  refine den_cons ?_ ?_
  refine den_ret ?_
  refine den_vand ?_ ?_ op_tru
  refine den_cmp ?_ ?_ op_is rfl
  exact den_loc (i := 3) rfl rfl rfl rfl
  exact den_none
  refine den_un ?_ op_not
  refine den_call (gname G.ok rfl rfl G.n__law_is_tree) (G.o__law_is_tree.callee) ?_ (fnIsTree (d := d + 3) T _ rfl rfl hB) (by intro _ _ h; cases h) (fun _ => rfl) rfl
  refine denL_cons ?_ ?_ (by intro _ _ h; cases h)
  exact den_loc (i := 0) rfl rfl rfl rfl
  exact denL_nil
  exact den_nil
  exact den_nil
  refine den_cons ?_ ?_
  refine den_assign ok (Stores.loc (i := 4) rfl rfl) ?_ rfl
  exact den_str
  refine den_cons ?_ ?_
  refine den_assign ok (Stores.loc (i := 5) rfl rfl) ?_ rfl
  refine den_list ?_
  exact denL_nil
  refine den_cons ?_ ?_
  refine den_assign ok (Stores.loc (i := 6) rfl rfl) ?_ rfl
  exact den_str
  refine den_cons ?_ ?_
  refine den_for 40 ?_ ?_ ?_ (fun _ => rfl)
  refine src_enum (gnameb G.ok rfl rfl G.enumerate.1 G.enumerate.2) ?_ (by intro _ _ h; cases h)
  exact den_loc (i := 3) rfl rfl rfl rfl
  exact tgt_pair ok (Stores.loc (i := 7) rfl rfl) (Stores.loc (i := 8) rfl rfl)
  refine den_cons ?_ ?_
  refine den_if ?_ ?_ ?_
  refine den_testcmp ?_ ?_ op_eq op_tru rfl
  exact den_loc (i := 8) rfl rfl rfl rfl
  exact den_str
  refine den_cons ?_ ?_
  refine den_expr ?_ rfl rfl
  refine den_meth mo_append rfl rfl rfl (by intro _ _ h; cases h) (fun _ => rfl) ?_ ?_ op_append
  exact den_loc (i := 5) rfl rfl rfl rfl
  refine denL_cons ?_ ?_ (by intro _ _ h; cases h)
  refine den_call (gname G.ok rfl rfl G.n__check_parenthesis) (G.o__check_parenthesis.callee) ?_ (fnCheck (d := d + 0) T _ rfl rfl hB) (by intro _ _ h; cases h) (fun _ => rfl) rfl
  refine denL_cons ?_ ?_ (by intro _ _ h; cases h)
  exact den_loc (i := 4) rfl rfl rfl rfl
  exact denL_nil
  exact denL_nil
  refine den_cons ?_ ?_
  refine den_assign ok (Stores.loc (i := 6) rfl rfl) ?_ rfl
  refine den_bin ?_ ?_ op_add
  exact den_loc (i := 6) rfl rfl rfl rfl
  refine den_item ?_ ?_ (fun _ _ => rfl)
  exact den_loc (i := 2) rfl rfl rfl rfl
  refine den_bin ?_ ?_ op_sub
  refine den_call (gnameb G.ok rfl rfl G.len.1 G.len.2) (.builtin _) ?_ op_len (by intro _ _ h; cases h) (fun _ => rfl) rfl
  refine denL_cons ?_ ?_ (by intro _ _ h; cases h)
  exact den_loc (i := 5) rfl rfl rfl rfl
  exact denL_nil
  exact den_int
  exact den_nil
  refine den_cons ?_ ?_
  refine den_assign ok (Stores.loc (i := 6) rfl rfl) ?_ rfl
  refine den_bin ?_ ?_ op_add
  exact den_loc (i := 6) rfl rfl rfl rfl
  refine den_call (gnameb G.ok rfl rfl G.chr.1 G.chr.2) (.builtin _) ?_ op_chr (by intro _ _ h; cases h) (fun _ => rfl) rfl
  refine denL_cons ?_ ?_ (by intro _ _ h; cases h)
  refine den_bin ?_ ?_ op_add
  exact den_int
  refine den_bin ?_ ?_ op_mod
  exact den_loc (i := 7) rfl rfl rfl rfl
  exact den_int
  exact denL_nil
  exact den_nil
  refine den_cons ?_ ?_
  refine den_assign ok (Stores.loc (i := 4) rfl rfl) ?_ rfl
  refine den_bin ?_ ?_ op_add
  refine den_bin ?_ ?_ op_add
  exact den_loc (i := 4) rfl rfl rfl rfl
  refine den_item ?_ ?_ (fun _ _ => rfl)
  refine den_list ?_
  refine denL_cons ?_ ?_ (by intro _ _ h; cases h)
  exact den_str
  refine denL_cons ?_ ?_ (by intro _ _ h; cases h)
  exact den_str
  refine denL_cons ?_ ?_ (by intro _ _ h; cases h)
  exact den_str
  exact denL_nil
  refine den_bin ?_ ?_ op_mod
  exact den_loc (i := 7) rfl rfl rfl rfl
  exact den_int
  exact den_loc (i := 8) rfl rfl rfl rfl
  exact den_nil
  refine den_cons ?_ ?_
  refine den_assign_comp 40 (cl := []) (xs := ["depth", "name"]) (caps := []) (ci := []) ok (Stores.loc (i := 9) rfl rfl) ⟨rfl, rfl, by decide +kernel, by decide +kernel, by decide +kernel, (fun k p h => by simp at h), rfl⟩ ?_ (fun _ => rfl) (fun C ok2 => ⟨?_, ?_, ?_⟩) rfl
  refine src_zip (gnameb G.ok rfl rfl G.zip.1 G.zip.2) ?_ ?_ (by intro _ _ h; cases h) (by intro _ _ h; cases h)
  exact den_loc (i := 0) rfl rfl rfl rfl
  exact den_loc (i := 2) rfl rfl rfl rfl
  exact tgt_pair ok2 (Stores.loc (i := 0) rfl rfl) (Stores.loc (i := 1) rfl rfl)
  exact tests_nil
  refine den_bin ?_ ?_ op_add
  refine den_bin ?_ ?_ op_add
  refine den_bin ?_ ?_ op_mul
  exact den_str
  refine den_bin ?_ ?_ op_add
  exact den_loc (i := 0) rfl rfl rfl rfl
  exact den_int
  exact den_loc (i := 1) rfl rfl rfl rfl
  exact den_str
  refine den_cons ?_ ?_
  refine den_ret ?_
  refine den_vand ?_ ?_ op_tru
  refine den_cmp ?_ ?_ op_eq rfl
  exact den_loc (i := 5) rfl rfl rfl rfl
  refine den_bin ?_ ?_ op_add
  refine den_bin ?_ ?_ op_mul
  refine den_list ?_
  refine denL_cons ?_ ?_ (by intro _ _ h; cases h)
  exact den_bool
  exact denL_nil
  refine den_bin ?_ ?_ op_sub
  refine den_call (gnameb G.ok rfl rfl G.len.1 G.len.2) (.builtin _) ?_ op_len (by intro _ _ h; cases h) (fun _ => rfl) rfl
  refine denL_cons ?_ ?_ (by intro _ _ h; cases h)
  exact den_loc (i := 0) rfl rfl rfl rfl
  exact denL_nil
  exact den_int
  refine den_list ?_
  refine denL_cons ?_ ?_ (by intro _ _ h; cases h)
  exact den_bool
  exact denL_nil
  refine den_cmp ?_ ?_ op_eq rfl
  refine den_call (gname G.ok rfl rfl G.n__law_mail) (G.o__law_mail.callee) ?_ (fnMail (d := d + 2) T _ rfl rfl hB) (by intro _ _ h; cases h) (fun _ => rfl) rfl
  refine denL_cons ?_ ?_ (by intro _ _ h; cases h)
  refine den_vor ?_ ?_ op_tru
  exact den_loc (i := 1) rfl rfl rfl rfl
  exact den_loc (i := 6) rfl rfl rfl rfl
  exact denL_nil
  refine den_list ?_
  refine denL_cons ?_ ?_ (by intro _ _ h; cases h)
  refine den_meth mo_join rfl rfl rfl (by intro _ _ h; cases h) (fun _ => rfl) ?_ ?_ op_join
  exact den_str
  refine denL_cons ?_ ?_ (by intro _ _ h; cases h)
  exact den_loc (i := 9) rfl rfl rfl rfl
  exact denL_nil
  exact denL_nil
  exact den_nil

end Mine
end

section
set_option maxRecDepth 100000
set_option maxHeartbeats 2000000
set_option linter.unusedVariables false
open PySem PySem.W PyProof.Rows PySem.Calls PySem.Challenge
namespace Mine
variable {c : Cx} {d : Nat}
noncomputable def unpack3 (i j k : Nat) : AV → F AFlow
  | .ref r => fun S => match S.H[r]? with
    | some (.tup [a, b, e]) => some (.next, { S with m := ((S.m.set i a).set j b).set k e })
    | _ => none
  | _ => F.fail
theorem den_unpack3 {x y z : Str} {p₁ p₂ p₃ tp pos : Pos} {kk : Nat} {value : Expr} {i j k : Nat} {f : F AV} (ok : CxOk c) (hx : Stores c x i) (hy : Stores c y j) (hz : Stores c z k) (hv : Den c d (eval value c.env) VRel f)
    (hw : swapsWithSole [.Tuple [.Name x p₁, .Name y p₂, .Name z p₃] kk tp] value pos.line c.env = pure false) (hs : swappedStores [.Tuple [.Name x p₁, .Name y p₂, .Name z p₃] kk tp] value c.env = pure none) :
    Den c d (exec (.Assign [.Tuple [.Name x p₁, .Name y p₂, .Name z p₃] kk tp] value pos) c.env) FRel (F.bind f fun v => unpack3 i j k v) := by
  refine ⟨fun A hA σ S s r b S' e Q E K => ?_⟩
  obtain ⟨v, S₁, e1, e2⟩ := bind_some e
  refine Assign_Tuple (hs := hw) (hw := hs) (hv.run A hA σ S s r v S₁ e1 _ E fun σ₁ s₁ a r₁ x₁ y₁ => ?_)
  cases v <;> try (cases e2)
  obtain ⟨T, rfl, hT⟩ := y₁.ref_inv
  rename_i rr
  unfold unpack3 at e2
  dsimp only at e2
  split at e2
  · rename_i av bv ev hH
    cases e2
    obtain ⟨vs, n, ho, hvs⟩ := r₁.obj rr T _ hT hH
    obtain ⟨a1, as1, rfl, h1, h2⟩ := hvs.cons_inv
    obtain ⟨a2, as2, rfl, h3, h4⟩ := h2.cons_inv
    obtain ⟨a3, as3, rfl, h5, h6⟩ := h4.cons_inv
    obtain rfl := h6.nil_inv
    refine wpAny_assign_Tuple hA.handled (items := #[a1, a2, a3]) ⟨_, ho, rfl, n, rfl⟩ rfl rfl fun h₃ hx₃ => ?_
    have up : ∀ b o, s₁.heap.get? b = some o → h₃.get? b = some o := fun b o e => hx₃ b o (Nat.ne_of_lt (Heap.lt_size e)) e
    have r₂ : Rel c σ₁ S₁ { s₁ with heap := h₃ } := r₁.grown up
    have x₂ : Ext c σ₁ s₁ σ₁ { s₁ with heap := h₃ } := .grown up rfl rfl
    show wpAny _ A (do holding [a2, a3] (assign (.Name x p₁) c.env a1); do holding [a3] (assign (.Name y p₂) c.env a2); do holding [] (assign (.Name z p₃) c.env a3); pure ()) _ _ _
    refine wpAny_bind (wpAny_holding (wpAny_assign_Name (at_store' ok hx h1 r₂ fun s₃ r₃ x₃ => ?_)))
    refine wpAny_bind (wpAny_holding (wpAny_assign_Name (at_store' ok hy h3 r₃ fun s₄ r₄ x₄ => ?_)))
    refine wpAny_bind (wpAny_holding (wpAny_assign_Name (at_store' ok hz h5 r₄ fun s₅ r₅ x₅ => wpAny_pure ?_)))
    exact K σ₁ s₅ .next r₅ (x₁.trans r₁.nd (x₂.trans r₂.nd (x₃.trans r₃.nd (x₄.trans r₄.nd x₅)))) trivial
  · cases e2

noncomputable def lScope : Scope := fScope (stAt 27)
noncomputable abbrev lEnv (L : Addr) (cd : Value) : Env := newEnv lScope L mainGlobals (cellsFrom (L + 1) lScope.names []) ("law" ++ ".<locals>.") (some 156) cd none builtinsNs
noncomputable abbrev lCx (prog : Program) (w : World) (B : Heap) (cd : Value) (L : Addr) : Cx :=
  { prog := prog, w := w, B := B, env := lEnv L cd,
    ns := [("script", none), ("text", none), ("word", none), ("names", some (L + 1)), ("depths", some (L + 1 + 1)), ("one", some (L + 1 + 1 + 1)), ("other", some (L + 1 + 1 + 1 + 1)), ("places", none), ("seen", none), ("others", none)],
    mt := [L, L + 1, L + 1 + 1, L + 1 + 1 + 1, L + 1 + 1 + 1 + 1], fz := 1 }
end Mine
end

section
set_option maxRecDepth 100000
set_option maxHeartbeats 4000000
set_option linter.unusedVariables false
open PySem PySem.W PyProof.Rows PySem.Calls PySem.Challenge
namespace Mine
variable {prog : Program} {w : World} {B₀ B : Heap} {mg mb : Str → Option Value}

noncomputable def fLaw : F AFlow := (seqF (F.bind (F.bind (F.bind (getVar 0) fun v1 => F.bind (F.pure []) fun v2 => F.pure (v1 :: v2)) (appF gDraw)) fun v3 => unpack3 1 2 3 v3) (seqF (F.bind (F.bind (F.bind (getVar 2) fun v5 => F.bind (F.pure []) fun v6 => F.pure (v5 :: v6)) (appF gDepths)) fun v4 => F.bind (setVar 4 v4) fun _ => F.pure .next) (seqF (F.bind (F.bind (F.bind (F.bind (F.bind (getVar 0) fun v8 => F.bind (F.pure (.int 6)) fun v9 => F.bind (F.pure (.int 7)) fun v10 => sliceF v8 v9 v10) fun v11 => F.bind (F.pure []) fun v12 => F.pure (v11 :: v12)) sumF) fun v15 => F.bind (F.bind (F.bind (getVar 4) fun v13 => F.bind (F.pure []) fun v14 => F.pure (v13 :: v14)) lenF) fun v16 => modF v15 v16) fun v7 => F.bind (setVar 5 v7) fun _ => F.pure .next) (seqF (F.bind (F.bind (F.bind (F.bind (F.bind (F.bind (getVar 0) fun v18 => F.bind (F.pure (.int 7)) fun v19 => F.bind (F.pure (.int 8)) fun v20 => sliceF v18 v19 v20) fun v21 => F.bind (F.pure []) fun v22 => F.pure (v21 :: v22)) sumF) fun v23 => F.bind (F.pure (.int 1)) fun v24 => addF v23 v24) fun v27 => F.bind (F.bind (F.bind (getVar 4) fun v25 => F.bind (F.pure []) fun v26 => F.pure (v25 :: v26)) lenF) fun v28 => modF v27 v28) fun v17 => F.bind (setVar 6 v17) fun _ => F.pure .next) (seqF (F.bind (compF (F.bind (F.bind (F.bind (getVar 4) fun v30 => F.bind (F.pure []) fun v31 => F.pure (v30 :: v31)) lenF) srcRange) 1 [5, 6] (st1 0) (F.pure true) (F.bind (F.bind (getVar 0) fun v32 => F.bind (getVar 1) fun v33 => F.bind ((eqF false) v32 v33) truF) fun v37 => match v37 with | true => (getVar 2) | false => (F.bind (F.bind (getVar 0) fun v34 => F.bind (getVar 2) fun v35 => F.bind ((eqF false) v34 v35) truF) fun v36 => match v36 with | true => (getVar 1) | false => (getVar 0))) 40) fun v29 => F.bind (setVar 7 v29) fun _ => F.pure .next) (seqF (F.bind (F.bind (F.pure (.str "")) fun v39 => F.bind (typed "str" v39) fun _ => F.bind (F.bind (compF (F.bind (getVar 1) srcVal) 1 [] (st1 0) (F.bind (F.bind (F.bind (F.bind (getVar 0) fun v42 => F.bind (F.pure []) fun v43 => F.pure (v42 :: v43)) (appF gInB1)) truF) fun v44 => F.pure !v44) (getVar 0) 40) fun v45 => F.bind (F.pure []) fun v46 => F.pure (v45 :: v46)) fun v41 => joinM v39 v41) fun v38 => F.bind (setVar 8 v38) fun _ => F.pure .next) (seqF (F.bind (F.bind (F.bind (F.bind (F.bind (getVar 4) fun v47 => F.bind (F.pure []) fun v48 => F.pure (v47 :: v48)) (appF gWord)) fun v49 => F.bind (getVar 2) fun v50 => F.bind ((eqF true) v49 v50) truF) fun v58 => match v58 with | true => F.pure true | false => (F.bind (F.bind (F.bind (F.bind (getVar 4) fun v55 => F.bind (F.bind (getVar 8) fun v53 => F.bind (F.bind (getVar 3) fun v51 => F.bind (F.pure []) fun v52 => F.pure (v51 :: v52)) fun v54 => F.pure (v53 :: v54)) fun v56 => F.pure (v55 :: v56)) (appF gAgrees)) truF) fun v57 => F.pure !v57)) fun v60 => match v60 with | true => (seqF (F.bind (F.pure (.bool false)) fun v59 => F.pure (.ret v59)) (F.pure .next)) | false => (F.pure .next)) (seqF (F.bind (F.bind (F.bind (compF (F.bind (getVar 7) srcVal) 1 [4] (st1 0) (F.pure true) (F.bind (getVar 1) fun v62 => F.bind (getVar 0) fun v63 => itemF v62 v63) 40) fun v77 => F.bind (F.bind (F.bind (getVar 4) fun v65 => F.bind (F.pure .none) fun v66 => F.bind (F.bind (F.pure (.int 1)) negF) fun v67 => sliceF v65 v66 v67) fun v75 => F.bind (F.bind (F.bind (getVar 4) fun v71 => F.bind (F.bind (F.bind (F.pure (.int 0)) fun v68 => F.bind (F.pure []) fun v69 => F.pure (v68 :: v69)) fun v70 => newAt (.list v70)) fun v72 => addF v71 v72) fun v73 => F.bind (F.pure []) fun v74 => F.pure (v73 :: v74)) fun v76 => F.pure (v75 :: v76)) fun v78 => F.pure (v77 :: v78)) fun v79 => newAt (.list v79)) fun v61 => F.bind (setVar 9 v61) fun _ => F.pure .next) (seqF (F.bind (F.bind (compF (F.bind (getVar 9) srcVal) 1 [3] (st1 0) (F.bind (F.bind (F.bind (F.bind (getVar 0) fun v86 => F.bind (F.bind (F.pure (.str "")) fun v84 => F.bind (F.bind (F.bind (getVar 1) fun v80 => F.bind (F.pure (.str "z")) fun v81 => addF v80 v81) fun v82 => F.bind (F.pure []) fun v83 => F.pure (v82 :: v83)) fun v85 => F.pure (v84 :: v85)) fun v87 => F.pure (v86 :: v87)) (appF gAgrees)) truF) fun v88 => F.pure !v88) (getVar 0) 40) fun v90 => F.bind (F.bind (F.pure []) fun v89 => newAt (.list v89)) fun v91 => (eqF false) v90 v91) fun v92 => F.pure (.ret v92)) (F.pure .next))))))))))
theorem denLaw {d : Nat} (T : Tops prog w B₀ mg mb) (hB : ∀ b o, B₀.get? b = some o → B.get? b = some o) {cd : Value} {L : Addr} (ok : CxOk (lCx prog w B cd L)) : Den (lCx prog w B cd L) (d + 6) (execs (fBody (stAt 27)) (lEnv L cd)) FRel fLaw := by
  have G := T.toGlobs.mono hB
  refine den_cons ?_ ?_
  refine den_unpack3 ok (Stores.loc (i := 1) rfl rfl) (Stores.loc (i := 2) rfl rfl) (Stores.cell (i := 3) _ rfl rfl rfl (by simp)) ?_ rfl rfl
  refine den_call (gname G.ok rfl rfl G.n__law_draw) (G.o__law_draw.callee) ?_ (fnDraw (d := d + 5) T _ rfl rfl hB) (by intro _ _ h; cases h) (fun _ => rfl) rfl
  refine denL_cons ?_ ?_ (by intro _ _ h; cases h)
  exact den_loc (i := 0) rfl rfl rfl rfl
  exact denL_nil
  refine den_cons ?_ ?_
  refine den_assign ok (Stores.cell (i := 4) _ rfl rfl rfl (by simp)) ?_ rfl
  refine den_call (gname G.ok rfl rfl G.n__law_depths) (G.o__law_depths.callee) ?_ (fnDepths (d := d + 5) T _ rfl rfl hB) (by intro _ _ h; cases h) (fun _ => rfl) rfl
  refine denL_cons ?_ ?_ (by intro _ _ h; cases h)
  exact den_loc (i := 2) rfl rfl rfl rfl
  exact denL_nil
  refine den_cons ?_ ?_
  refine den_assign ok (Stores.cell (i := 5) _ rfl rfl rfl (by simp)) ?_ rfl
  refine den_bin ?_ ?_ op_mod
  refine den_call (gnameb G.ok rfl rfl G.sum.1 G.sum.2) (.builtin _) ?_ op_sum (by intro _ _ h; cases h) (fun _ => rfl) rfl
  refine denL_cons ?_ ?_ (by intro _ _ h; cases h)
  refine den_slice ?_ ?_ ?_
  exact den_loc (i := 0) rfl rfl rfl rfl
  refine part_some ?_
  exact den_int
  refine part_some ?_
  exact den_int
  exact denL_nil
  refine den_call (gnameb G.ok rfl rfl G.len.1 G.len.2) (.builtin _) ?_ op_len (by intro _ _ h; cases h) (fun _ => rfl) rfl
  refine denL_cons ?_ ?_ (by intro _ _ h; cases h)
  exact den_cell (i := 4) rfl rfl rfl rfl rfl
  exact denL_nil
  refine den_cons ?_ ?_
  refine den_assign ok (Stores.cell (i := 6) _ rfl rfl rfl (by simp)) ?_ rfl
  refine den_bin ?_ ?_ op_mod
  refine den_bin ?_ ?_ op_add
  refine den_call (gnameb G.ok rfl rfl G.sum.1 G.sum.2) (.builtin _) ?_ op_sum (by intro _ _ h; cases h) (fun _ => rfl) rfl
  refine denL_cons ?_ ?_ (by intro _ _ h; cases h)
  refine den_slice ?_ ?_ ?_
  exact den_loc (i := 0) rfl rfl rfl rfl
  refine part_some ?_
  exact den_int
  refine part_some ?_
  exact den_int
  exact denL_nil
  exact den_int
  refine den_call (gnameb G.ok rfl rfl G.len.1 G.len.2) (.builtin _) ?_ op_len (by intro _ _ h; cases h) (fun _ => rfl) rfl
  refine denL_cons ?_ ?_ (by intro _ _ h; cases h)
  exact den_cell (i := 4) rfl rfl rfl rfl rfl
  exact denL_nil
  refine den_cons ?_ ?_
  refine den_assign_comp 40 (cl := [("other", L + 1 + 1 + 1 + 1), ("one", L + 1 + 1 + 1)]) (xs := ["k"]) (caps := [("one", L + 1 + 1 + 1), ("other", L + 1 + 1 + 1 + 1)]) (ci := [5, 6]) ok (Stores.loc (i := 7) rfl rfl) ⟨rfl, rfl, by decide +kernel, by decide +kernel, (show (["k", "one", "other"] : List Str).Nodup by decide +kernel), (fun k p h => by rcases k with _ | k; (cases h; exact ⟨_, rfl, rfl⟩); rcases k with _ | k; (cases h; exact ⟨_, rfl, rfl⟩); exact absurd h (by simp)), rfl⟩ ?_ (fun _ => rfl) (fun C ok2 => ⟨?_, ?_, ?_⟩) rfl
  refine src_range (gnameb G.ok rfl rfl G.range.1 G.range.2) ?_ (by intro _ _ h; cases h)
  refine den_call (gnameb G.ok rfl rfl G.len.1 G.len.2) (.builtin _) ?_ op_len (by intro _ _ h; cases h) (fun _ => rfl) rfl
  refine denL_cons ?_ ?_ (by intro _ _ h; cases h)
  exact den_cell (i := 4) rfl rfl rfl rfl rfl
  exact denL_nil
  exact tgt_name ok2 (Stores.loc (i := 0) rfl rfl)
  exact tests_nil
  refine den_ifexp ?_ ?_ ?_
  refine den_testcmp ?_ ?_ op_eq op_tru rfl
  exact den_loc (i := 0) rfl rfl rfl rfl
  exact den_cell (i := 1) rfl rfl rfl rfl rfl
  exact den_cell (i := 2) rfl rfl rfl rfl rfl
  refine den_ifexp ?_ ?_ ?_
  refine den_testcmp ?_ ?_ op_eq op_tru rfl
  exact den_loc (i := 0) rfl rfl rfl rfl
  exact den_cell (i := 2) rfl rfl rfl rfl rfl
  exact den_cell (i := 1) rfl rfl rfl rfl rfl
  exact den_loc (i := 0) rfl rfl rfl rfl
  refine den_cons ?_ ?_
  refine den_assign ok (Stores.loc (i := 8) rfl rfl) ?_ rfl
  refine den_meth mo_join rfl rfl rfl (by intro _ _ h; cases h) (fun _ => rfl) ?_ ?_ op_join
  exact den_str
  refine denL_cons ?_ ?_ (by intro _ _ h; cases h)
  refine den_comp 40 (cl := []) (xs := ["sign"]) (caps := []) (ci := []) ok ⟨rfl, rfl, by decide +kernel, by decide +kernel, by decide +kernel, (fun k p h => by simp at h), rfl⟩ ?_ (fun _ => rfl) (fun C ok2 => ⟨?_, ?_, ?_⟩)
  refine src_val ?_
  exact den_loc (i := 1) rfl rfl rfl rfl
  exact tgt_name ok2 (Stores.loc (i := 0) rfl rfl)
  refine tests_one ?_
  refine den_not ?_
  refine den_test ?_ op_tru rfl
  refine den_call (gname G.ok rfl rfl G.n_in_table_b1) (G.o_in_table_b1.callee) ?_ (fnInB1 (d := d + 5) T _ rfl rfl hB) (by intro _ _ h; cases h) (fun _ => rfl) rfl
  refine denL_cons ?_ ?_ (by intro _ _ h; cases h)
  exact den_loc (i := 0) rfl rfl rfl rfl
  exact denL_nil
  exact den_loc (i := 0) rfl rfl rfl rfl
  exact denL_nil
  refine den_cons ?_ ?_
  refine den_if ?_ ?_ ?_
  refine den_or2 ?_ ?_
  refine den_testcmp ?_ ?_ op_ne op_tru rfl
  refine den_call (gname G.ok rfl rfl G.n__law_word) (G.o__law_word.callee) ?_ (fnWord (d := d + 4) T _ rfl rfl hB) (by intro _ _ h; cases h) (fun _ => rfl) rfl
  refine denL_cons ?_ ?_ (by intro _ _ h; cases h)
  exact den_cell (i := 4) rfl rfl rfl rfl rfl
  exact denL_nil
  exact den_loc (i := 2) rfl rfl rfl rfl
  refine den_not ?_
  refine den_test ?_ op_tru rfl
  refine den_call (gname G.ok rfl rfl G.n__law_agrees) (G.o__law_agrees.callee) ?_ (fnAgrees (d := d + 1) T _ rfl rfl hB) (by intro _ _ h; cases h) (fun _ => rfl) rfl
  refine denL_cons ?_ ?_ (by intro _ _ h; cases h)
  exact den_cell (i := 4) rfl rfl rfl rfl rfl
  refine denL_cons ?_ ?_ (by intro _ _ h; cases h)
  exact den_loc (i := 8) rfl rfl rfl rfl
  refine denL_cons ?_ ?_ (by intro _ _ h; cases h)
  exact den_cell (i := 3) rfl rfl rfl rfl rfl
  exact denL_nil
  refine den_cons ?_ ?_
  refine den_ret ?_
  exact den_bool
  exact den_nil
  exact den_nil
  refine den_cons ?_ ?_
  refine den_assign ok (Stores.loc (i := 9) rfl rfl) ?_ rfl
  refine den_list ?_
  refine denL_cons ?_ ?_ (by intro _ _ h; cases h)
  refine den_comp 40 (cl := [("depths", L + 1 + 1)]) (xs := ["k"]) (caps := [("depths", L + 1 + 1)]) (ci := [4]) ok ⟨rfl, rfl, by decide +kernel, by decide +kernel, (show (["k", "depths"] : List Str).Nodup by decide +kernel), (fun k p h => by rcases k with _ | k; (cases h; exact ⟨_, rfl, rfl⟩); exact absurd h (by simp)), rfl⟩ ?_ (fun _ => rfl) (fun C ok2 => ⟨?_, ?_, ?_⟩)
  refine src_val ?_
  exact den_loc (i := 7) rfl rfl rfl rfl
  exact tgt_name ok2 (Stores.loc (i := 0) rfl rfl)
  exact tests_nil
  refine den_item ?_ ?_ (fun _ _ => rfl)
  exact den_cell (i := 1) rfl rfl rfl rfl rfl
  exact den_loc (i := 0) rfl rfl rfl rfl
  refine denL_cons ?_ ?_ (by intro _ _ h; cases h)
  refine den_slice ?_ ?_ ?_
  exact den_cell (i := 4) rfl rfl rfl rfl rfl
  exact part_none
  refine part_some ?_
  refine den_un ?_ op_neg
  exact den_int
  refine denL_cons ?_ ?_ (by intro _ _ h; cases h)
  refine den_bin ?_ ?_ op_add
  exact den_cell (i := 4) rfl rfl rfl rfl rfl
  refine den_list ?_
  refine denL_cons ?_ ?_ (by intro _ _ h; cases h)
  exact den_int
  exact denL_nil
  exact denL_nil
  refine den_cons ?_ ?_
  refine den_ret ?_
  refine den_cmp ?_ ?_ op_eq rfl
  refine den_comp 40 (cl := [("names", L + 1)]) (xs := ["row"]) (caps := [("names", L + 1)]) (ci := [3]) ok ⟨rfl, rfl, by decide +kernel, by decide +kernel, (show (["row", "names"] : List Str).Nodup by decide +kernel), (fun k p h => by rcases k with _ | k; (cases h; exact ⟨_, rfl, rfl⟩); exact absurd h (by simp)), rfl⟩ ?_ (fun _ => rfl) (fun C ok2 => ⟨?_, ?_, ?_⟩)
  refine src_val ?_
  exact den_loc (i := 9) rfl rfl rfl rfl
  exact tgt_name ok2 (Stores.loc (i := 0) rfl rfl)
  refine tests_one ?_
  refine den_not ?_
  refine den_test ?_ op_tru rfl
  refine den_call (gname G.ok rfl rfl G.n__law_agrees) (G.o__law_agrees.callee) ?_ (fnAgrees (d := d + 1) T _ rfl rfl hB) (by intro _ _ h; cases h) (fun _ => rfl) rfl
  refine denL_cons ?_ ?_ (by intro _ _ h; cases h)
  exact den_loc (i := 0) rfl rfl rfl rfl
  refine denL_cons ?_ ?_ (by intro _ _ h; cases h)
  exact den_str
  refine denL_cons ?_ ?_ (by intro _ _ h; cases h)
  refine den_bin ?_ ?_ op_add
  exact den_cell (i := 1) rfl rfl rfl rfl rfl
  exact den_str
  exact denL_nil
  exact den_loc (i := 0) rfl rfl rfl rfl
  refine den_list ?_
  exact denL_nil
  exact den_nil
end Mine
end

section
set_option maxRecDepth 100000
set_option maxHeartbeats 2000000
set_option linter.unusedVariables false
open PySem PySem.W PyProof.Rows PySem.Calls PySem.Challenge
namespace Mine
variable {prog : Program} {w : World} {mg mb : Str → Option Value}

theorem law_call {d : Nat} {A : Around} {s : Shared} {l : Addr} {vs : List Value} {n : Nat} {ns : List Int} {S' : St} (T : Tops prog w s.heap mg mb) (D : DefAt s.heap 156 "law" (stAt 27)) (hA : Low (d + 7) A)
    (hl : s.heap.get? l = some (listObj vs n)) (hv : VsRel [] (ns.map .int) vs)
    (hP : fLaw ⟨.ref 0 :: List.replicate 9 .unb, [.list (ns.map .int)], 1⟩ = some (.ret (.bool true), S')) {Q : Value → Shared → Prop} {E : Value → Shared → Prop}
    (hQ : ∀ s', (∀ b o, s.heap.get? b = some o → s'.heap.get? b = some o) → GExt s.gens s'.gens → s'.os = s.os → Q (.bool true) s') :
    wpAny (model prog w) A (call (.ref 156) [.ref l]) Q E s := by
  obtain ⟨o, pm, cd, doc, ho, hdata, hcd⟩ := D
  refine wpAny_call (codeAny_call_function (by have := hA.depth; omega) ho hdata rfl rfl rfl hcd ?_)
  refine wpAny_of_eq (a := [(("script" : Str), Value.ref l)]) rfl ?_
  refine wpAny_newFunctionEnv_cells rfl (by intro y hy; rcases List.mem_singleton.mp hy with rfl; exact .inl rfl) (fun env henv s₁ hC => ⟨T.ok.lim.keeps hC.toInCall.keep, codeAny_func ?_⟩)
  subst henv
  have hsz : ∀ b, s.heap.objs.size ≤ b → s.heap.get? b = none := fun b hb => none_of_ge hb
  let L := s.heap.objs.size
  obtain ⟨h₁, tk, hs₁⟩ := hC.toInCall.same
  have cells : ∀ (i : Nat) (y : Str) (a : Addr), (lCx prog w s.heap cd L).ns[i]? = some (y, some a) → @Eq Nat (a + 2) (L + i) ∧ 3 ≤ i ∧ i ≤ 6 ∧ (lEnv L cd).cells.lookup y = some a := fun i y a h => by
    match i, h with
    | 0, h => cases h
    | 1, h => cases h
    | 2, h => cases h
    | 3, h => cases h; exact ⟨rfl, by omega, by omega, rfl⟩
    | 4, h => cases h; exact ⟨rfl, by omega, by omega, rfl⟩
    | 5, h => cases h; exact ⟨rfl, by omega, by omega, rfl⟩
    | 6, h => cases h; exact ⟨rfl, by omega, by omega, rfl⟩
    | 7, h => cases h
    | 8, h => cases h
    | 9, h => cases h
    | i + 10, h => cases h
  have cellm : ∀ (y : Str) (a : Addr), (y, some a) ∈ (lCx prog w s.heap cd L).ns → L + 1 ≤ a ∧ a ≤ L + 4 := fun y a h => by
    obtain ⟨i, hi, e⟩ := List.getElem_of_mem h
    obtain ⟨h1, h2, h3, _⟩ := cells i y a (by rw [List.getElem?_eq_getElem hi, e])
    have g1 : @LE.le Nat _ (L + 1) a := by omega
    have g2 : @LE.le Nat _ a (L + 4) := by omega
    exact ⟨g1, g2⟩
  have mts : ∀ a ∈ (lCx prog w s.heap cd L).mt, L ≤ a := fun a h => by
    simp only [List.mem_cons, List.not_mem_nil, or_false] at h
    rcases h with rfl | rfl | rfl | rfl | rfl
    · exact Nat.le_refl L
    · exact Nat.le_add_right L 1
    · exact Nat.le_add_right L 2
    · exact Nat.le_add_right L 3
    · exact Nat.le_add_right L 4
  have ok : CxOk (lCx prog w s.heap cd L) := by
    refine ⟨rfl, ?_, .head _, hsz _ (Nat.le_refl _), fun y a _ hm => hsz _ (mts a hm), fun y a h q => ?_, fun i j y z a hi hj => ?_⟩
    · show (["script", "text", "word", "names", "depths", "one", "other", "places", "seen", "others"] : List Str).Nodup
      decide +kernel
    · have := (cellm y a h).1
      have q' : @Eq Nat a L := q
      omega
    · have h1 := (cells i y a hi)
      have h2 := (cells j z a hj)
      show @Eq Nat i j
      omega
  have hrel : Rel (lCx prog w s.heap cd L) [l] ⟨.ref 0 :: List.replicate 9 .unb, [.list (ns.map .int)], 1⟩ s₁ := by
    have hlive : ∃ o, s.heap.get? l = some o := ⟨_, hl⟩
    have lne : ∀ b, L ≤ b → l ≠ b := fun b hb q => by rw [q, hsz b hb] at hl; cases hl
    refine ⟨rfl, hC.toInCall.keep, ⟨_, hC.toInCall.ns, fun i y e => ?_⟩, fun i y a e => ?_, fun i a o e e' => ?_, by simp, fun a ha => ?_, fun a ha => by simp at ha, fun a ha => ?_, rfl⟩
    · match i, e with
      | 0, e => cases e; exact (rfl : [l][0]? = some l)
      | 1, e => trivial
      | 2, e => trivial
      | 3, e => cases e
      | 4, e => cases e
      | 5, e => cases e
      | 6, e => cases e
      | 7, e => trivial
      | 8, e => trivial
      | 9, e => trivial
      | i + 10, e => cases e
    · obtain ⟨h1, h2, h3, h4⟩ := cells i y a e
      refine ⟨_, hC.cell y a h4, ?_⟩
      match i, h2, h3 with
      | 3, _, _ => trivial
      | 4, _, _ => trivial
      | 5, _, _ => trivial
      | 6, _, _ => trivial
      | i + 7, _, h3 => omega
    · match i, e, e' with
      | 0, e, e' =>
        cases e; cases e'
        exact ⟨vs, n, hC.toInCall.keep _ _ hl, hv.mono List.nil_prefix⟩
      | i + 1, e, e' => simp at e
    · rw [List.mem_singleton.mp ha]
      exact ⟨fun hm => lne l (mts l hm) rfl, lne L (Nat.le_refl _), fun y b hb => lne b (by have := (cellm y b hb).1; omega)⟩
    · simp only [List.mem_cons, List.not_mem_nil, or_false] at ha
      have cl : ∀ (y : Str) (b : Addr), (lEnv L cd).cells.lookup y = some b → ∃ o, s₁.heap.get? b = some o := fun y b h => by
        obtain ⟨o', e1, _⟩ := hC.cell y b h
        exact ⟨o', e1⟩
      rcases ha with rfl | rfl | rfl | rfl | rfl
      · obtain ⟨o', _, _, e1, _⟩ := hC.toInCall.ns; exact ⟨o', e1⟩
      · exact cl "names" _ rfl
      · exact cl "depths" _ rfl
      · exact cl "one" _ rfl
      · exact cl "other" _ rfl
  have hA' : Low (d + 6) (A.deeper (lEnv L cd)) := hA.deeper
  refine (denLaw (d := d) T (fun b o e => e) ok).run _ hA' [l] _ s₁ hrel _ _ hP _ _ fun σ' s' fa r' x' y' => ?_
  cases fa <;> first | exact y'.elim | skip
  rename_i rv
  have hb : rv = .bool true := y'.bool_inv
  subst hb
  refine hQ s' r'.base ?_ ?_
  · rw [hs₁] at x'; exact x'.gens
  · rw [hs₁] at x'; exact x'.os
end Mine
end

section
set_option maxRecDepth 100000
set_option maxHeartbeats 2000000
set_option linter.unusedVariables false
open PySem PySem.W PyProof.Rows PySem.Calls PySem.Challenge
namespace Mine
theorem runFor_done {m : Sre.M} (h : m.outcome.isSome = true) : ∀ n, m.runFor n = m
  | 0 => rfl
  | n + 1 => by show (if m.outcome.isSome then m else (m.step).runFor n) = m; rw [h]; rfl
theorem runFor_add (b : Nat) : ∀ (a : Nat) (m : Sre.M), m.runFor (a + b) = (m.runFor a).runFor b
  | 0, m => by rw [Nat.zero_add]; rfl
  | a + 1, m => by
    rw [Nat.add_right_comm]
    show (if m.outcome.isSome then m else (m.step).runFor (a + b)) = (if m.outcome.isSome then m else (m.step).runFor a).runFor b
    cases h : m.outcome.isSome with
    | true => exact (runFor_done h b).symm
    | false => exact runFor_add b a m.step
theorem runFor_step (n : Nat) (m : Sre.M) : m.runFor (n + 1) = (m.step).runFor n := by
  show (if m.outcome.isSome then m else (m.step).runFor n) = _
  cases h : m.outcome.isSome with
  | false => rfl
  | true =>
    have : m.step = m := by unfold Sre.M.step; rw [h]; rfl
    rw [this, runFor_done h]; rfl
theorem driveP_of : ∀ (n k : Nat) (m : Sre.M), (m.runFor k).outcome.isSome = true → k ≤ 4 * n → 0 < n → driveP n m = some (m.runFor k)
  | 0, _, _, _, _, h => absurd h (by omega)
  | n + 1, k, m, h, hk, _ => by
    unfold driveP
    show (match (m.runFor 4).outcome.isSome with | true => some (m.runFor 4) | false => driveP n (m.runFor 4)) = _
    cases h4 : (m.runFor 4).outcome.isSome with
    | true =>
      by_cases hk4 : 4 ≤ k
      · obtain ⟨j, rfl⟩ : ∃ j, k = 4 + j := ⟨k - 4, by omega⟩
        rw [runFor_add, runFor_done h4]
      · obtain ⟨j, e⟩ : ∃ j, 4 = k + j := ⟨4 - k, by omega⟩
        have : m.runFor 4 = m.runFor k := by rw [e, runFor_add, runFor_done h]
        rw [this]
    | false =>
      have hk4 : 4 ≤ k := by
        apply Nat.le_of_not_lt
        intro hlt
        obtain ⟨j, e⟩ : ∃ j, 4 = k + j := ⟨4 - k, by omega⟩
        rw [e, runFor_add, runFor_done h, h] at h4
        cases h4
      obtain ⟨j, rfl⟩ : ∃ j, k = 4 + j := ⟨k - 4, by omega⟩
      rw [runFor_add] at h ⊢
      by_cases hn : 0 < n
      · exact driveP_of n j _ h (by omega) hn
      · have : j = 0 := by omega
        subst this
        exact absurd (show (m.runFor 4).outcome.isSome = true from h) (by rw [h4]; exact Bool.false_ne_true)

noncomputable abbrev S1 (text : Array Nat) (lim pos0 s : Nat) (must first : Bool) (seen : Sre.Seen) : Sre.M :=
  { code := patCode1.toArray, text, lim, start := s, lastStart := lim, mustAdvance := must, pc := 5, pos := s, handed := s, outermost := first, marks := #[], frames := [{ wait := .nextStart, pc := 5, pos := s, outermost := first }], weight := 1, seen }
theorem for1 {text : Array Nat} {pos lim : Nat} {must : Bool} (h : pos < lim) : Sre.forSearch patCode1.toArray text 0 pos lim must = S1 text lim pos pos must true (({} : Sre.Seen).add 14) := by
  unfold Sre.forSearch
  show (if (decide (pos > lim) || decide (lim - pos < 1)) = true then _ else _) = _
  rw [if_neg (by simp; omega)]
  rfl
theorem for1_out {text : Array Nat} {pos : Nat} {must : Bool} : endP (Sre.forSearch patCode1.toArray text 0 pos pos must) = some none := by
  unfold Sre.forSearch
  show endP (if (decide (pos > pos) || decide (pos - pos < 1)) = true then _ else _) = _
  rw [if_pos (by simp)]
  rfl
theorem S1_at {text : Array Nat} {lim pos0 s : Nat} {must first : Bool} {seen : Sre.Seen} : (S1 text lim pos0 s must first seen).step = if s == 0 || text.getD (s - 1) 0 == 10 then { S1 text lim pos0 s must first ((seen.add 6).add 44) with pc := 7 } else { S1 text lim pos0 s must first ((seen.add 6).add 44) with answer := some false } := by
  rfl
theorem S1_fail {text : Array Nat} {lim pos0 s : Nat} {must first : Bool} {seen : Sre.Seen} (h : (s == 0 || text.getD (s - 1) 0 == 10) = false) (hs : s < lim) : ∃ seen', (S1 text lim pos0 s must first seen).runFor 2 = S1 text lim pos0 (s + 1) false false seen' := by
  refine ⟨(seen.add 6).add 44, ?_⟩
  rw [runFor_step, runFor_step, S1_at, h]
  show (if s < lim then _ else _) = _
  rw [if_pos hs]
  rfl
theorem S1_last {text : Array Nat} {lim pos0 s : Nat} {must first : Bool} {seen : Sre.Seen} (h : (s == 0 || text.getD (s - 1) 0 == 10) = false) (hs : ¬ s < lim) : ((S1 text lim pos0 s must first seen).runFor 3).outcome = some .failed := by
  rw [runFor_step, runFor_step, runFor_step, S1_at, h]
  show ((if s < lim then _ else _ : Sre.M).step.runFor 0).outcome = _
  rw [if_neg hs]
  rfl
theorem S1_lit {text : Array Nat} {lim pos0 s : Nat} {must first : Bool} {seen : Sre.Seen} : ({ S1 text lim pos0 s must first seen with pc := 7 }).step = if s ≥ lim then { S1 text lim pos0 s must first (seen.add 16) with pc := 7, answer := some false } else (if (text.getD s 0 == 46) = true then { S1 text lim pos0 s must first (seen.add 16) with pc := 9, pos := s + 1 } else { S1 text lim pos0 s must first (seen.add 16) with pc := 7, answer := some false }) := by
  show (if s ≥ lim then _ else match (Except.ok (text.getD s 0 == 46, seen.add 16) : Except String (Bool × Sre.Seen)) with | .error why => _ | .ok (false, seen) => _ | .ok (true, seen) => _) = _
  split
  · rfl
  · cases h : text.getD s 0 == 46 <;> rfl
theorem S1_hit {text : Array Nat} {lim pos0 s : Nat} {first : Bool} {seen : Sre.Seen} (h : (s == 0 || text.getD (s - 1) 0 == 10) = true) (hs : s < lim) (hc : text.getD s 0 = 46) :
    ((S1 text lim pos0 s false first seen).runFor 5).outcome = some .matched ∧ ((S1 text lim pos0 s false first seen).runFor 5).start = s ∧ ((S1 text lim pos0 s false first seen).runFor 5).handed = s + 1 := by
  rw [runFor_step, runFor_step, S1_at, h, if_pos rfl, S1_lit, if_neg (by omega), hc, if_pos (show (46 == 46) = true from rfl)]
  cases first <;> exact ⟨rfl, rfl, rfl⟩
theorem S1_last' {text : Array Nat} {lim pos0 s : Nat} {must first : Bool} {seen : Sre.Seen} (h : (s == 0 || text.getD (s - 1) 0 == 10) = true) (hs : ¬ s < lim) : ((S1 text lim pos0 s must first seen).runFor 4).outcome = some .failed := by
  rw [runFor_step, runFor_step, runFor_step, runFor_step, S1_at, h, if_pos rfl, S1_lit, if_pos (by omega)]
  show ((if s < lim then _ else _ : Sre.M).step.runFor 0).outcome = _
  rw [if_neg hs]
  rfl
/-- is a line's beginning -/
noncomputable def bol (text : Array Nat) (s : Nat) : Bool := s == 0 || text.getD (s - 1) 0 == 10
theorem S1_walk {text : Array Nat} {lim pos0 : Nat} : ∀ (k s : Nat) (first : Bool) (seen : Sre.Seen), (∀ p, s ≤ p → p < s + k → bol text p = false) → s + k ≤ lim →
    ∃ f' seen', (S1 text lim pos0 s false first seen).runFor (2 * k) = S1 text lim pos0 (s + k) false f' seen'
  | 0, s, first, seen, _, _ => ⟨first, seen, rfl⟩
  | k + 1, s, first, seen, h, hl => by
    obtain ⟨seen1, e1⟩ := S1_fail (text := text) (lim := lim) (pos0 := pos0) (must := false) (first := first) (seen := seen) (h s (Nat.le_refl _) (by omega)) (by omega)
    obtain ⟨f', seen', e2⟩ := S1_walk (text := text) (lim := lim) (pos0 := pos0) k (s + 1) false seen1 (fun p (h1 : s + 1 ≤ p) (h2 : p < s + 1 + k) => h p (by omega) (by omega)) (by omega)
    refine ⟨f', seen', ?_⟩
    rw [show 2 * (k + 1) = 2 + 2 * k by omega, runFor_add, e1, e2, show s + 1 + k = s + (k + 1) by omega]
noncomputable def endOf (m : Sre.M) : Sre.Outcome → Option (Option Sre.M)
  | .matched => some (some m)
  | .failed => some none
  | _ => none
theorem endP_of {m : Sre.M} (k : Nat) (hk : k ≤ 256) (o : Sre.Outcome) (h : (m.runFor k).outcome = some o) : endP m = endOf (m.runFor k) o := by
  unfold endP
  rw [driveP_of 64 k m (by rw [h]; rfl) (by omega) (by omega)]
  show (match (m.runFor k).outcome with | some .matched => _ | some .failed => _ | _ => _) = _
  rw [h]
  cases o <;> rfl
theorem end1_hit {text : Array Nat} {lim pos i : Nat} (hi : pos ≤ i) (hl : i < lim) (hk : i ≤ pos + 100) (hn : ∀ p, pos ≤ p → p < i → bol text p = false) (hb : bol text i = true) (hc : text.getD i 0 = 46) :
    ∃ m, endP (Sre.forSearch patCode1.toArray text 0 pos lim false) = some (some m) ∧ m.start = i ∧ m.handed = i + 1 := by
  rw [for1 (by omega)]
  obtain ⟨f', seen', e⟩ := S1_walk (text := text) (lim := lim) (pos0 := pos) (i - pos) pos true (({} : Sre.Seen).add 14) (fun p h1 h2 => hn p h1 (by omega)) (by omega)
  rw [show pos + (i - pos) = i by omega] at e
  obtain ⟨h1, h2, h3⟩ := S1_hit (text := text) (lim := lim) (pos0 := pos) (s := i) (first := f') (seen := seen') hb hl hc
  have e5 : (S1 text lim pos pos false true (({} : Sre.Seen).add 14)).runFor (2 * (i - pos) + 5) = (S1 text lim pos i false f' seen').runFor 5 := by rw [runFor_add, e]
  refine ⟨_, endP_of (2 * (i - pos) + 5) (by omega) .matched (by rw [e5]; exact h1), ?_, ?_⟩
  · rw [e5]; exact h2
  · rw [e5]; exact h3
theorem end1_none {text : Array Nat} {lim pos : Nat} (hl : pos ≤ lim) (hk : lim ≤ pos + 100) (hn : ∀ p, pos ≤ p → p < lim → bol text p = false) : endP (Sre.forSearch patCode1.toArray text 0 pos lim false) = some none := by
  rcases Nat.eq_or_lt_of_le hl with rfl | hl
  · exact for1_out
  rw [for1 hl]
  obtain ⟨f', seen', e⟩ := S1_walk (text := text) (lim := lim) (pos0 := pos) (lim - pos) pos true (({} : Sre.Seen).add 14) (fun p h1 h2 => hn p h1 (by omega)) (by omega)
  rw [show pos + (lim - pos) = lim by omega] at e
  cases hb : bol text lim with
  | false => exact endP_of (2 * (lim - pos) + 3) (by omega) .failed (by rw [runFor_add, e]; exact S1_last hb (by omega))
  | true => exact endP_of (2 * (lim - pos) + 4) (by omega) .failed (by rw [runFor_add, e]; exact S1_last' hb (by omega))
end Mine
end

section
set_option maxRecDepth 100000
set_option maxHeartbeats 2000000
set_option linter.unusedVariables false
open PySem PySem.W PyProof.Rows PySem.Calls PySem.Challenge
namespace Mine
noncomputable def nlc (c : Nat) : Bool := c == 10 || c == 13
theorem inSet2 (c : Nat) (seen : Sre.Seen) : ∃ seen', Sre.inSet patCode2.toArray c 36 5 true seen = .ok (nlc c, seen') := by
  unfold nlc
  have e : Sre.inSet patCode2.toArray c 36 5 true seen = if (c == 10) = true then .ok (true, seen.add 16) else (if (c == 13) = true then .ok (true, (seen.add 16).add 16) else .ok (false, ((seen.add 16).add 16).add 0)) := by rfl
  rw [e]
  cases h : c == 10 with
  | true => exact ⟨_, rfl⟩
  | false =>
    cases h' : c == 13 with
    | true => exact ⟨_, rfl⟩
    | false => exact ⟨_, rfl⟩
theorem admitted_one (m : Sre.M) (fuel s : Nat) (seen : Sre.Seen) : Sre.M.admitted m (fuel + 1) s seen = (if s ≥ m.lim then .ok (none, seen) else
    match Sre.inSet m.code (m.text.getD s 0) m.code.size 5 true seen with
    | .ok (true, seen) => .ok (some s, seen)
    | .ok (false, seen) => Sre.M.admitted m fuel (s + 1) seen
    | .error why => .error why) := rfl
theorem admitted_hit {m : Sre.M} (hm : m.code = patCode2.toArray) {i : Nat} (hl : i < m.lim) (hi : nlc (m.text.getD i 0) = true) : ∀ (k s fuel : Nat) (seen : Sre.Seen), s + k = i → k < fuel → (∀ p, s ≤ p → p < i → nlc (m.text.getD p 0) = false) →
    ∃ seen', Sre.M.admitted m fuel s seen = .ok (some i, seen')
  | k, s, 0, _, _, h, _ => absurd h (by omega)
  | 0, s, fuel + 1, seen, hs, _, _ => by
    obtain rfl : s = i := by omega
    obtain ⟨seen', e⟩ := inSet2 (m.text.getD s 0) seen
    refine ⟨seen', ?_⟩
    rw [admitted_one]
    rw [if_neg (by omega), hm]
    show (match Sre.inSet patCode2.toArray (m.text.getD s 0) 36 5 true seen with | .ok (true, seen) => _ | .ok (false, seen) => _ | .error why => _) = _
    rw [e, hi]
  | k + 1, s, fuel + 1, seen, hs, hf, hn => by
    obtain ⟨seen1, e⟩ := inSet2 (m.text.getD s 0) seen
    obtain ⟨seen', e'⟩ := admitted_hit hm hl hi k (s + 1) fuel seen1 (by omega) (by omega) fun p h1 h2 => hn p (by omega) h2
    refine ⟨seen', ?_⟩
    rw [admitted_one]
    rw [if_neg (by omega), hm]
    show (match Sre.inSet patCode2.toArray (m.text.getD s 0) 36 5 true seen with | .ok (true, seen) => _ | .ok (false, seen) => _ | .error why => _) = _
    rw [e, hn s (by omega) (by omega)]
    exact e'
theorem admitted_none {m : Sre.M} (hm : m.code = patCode2.toArray) : ∀ (k s fuel : Nat) (seen : Sre.Seen), s + k = m.lim → k < fuel → (∀ p, s ≤ p → p < m.lim → nlc (m.text.getD p 0) = false) →
    ∃ seen', Sre.M.admitted m fuel s seen = .ok (none, seen')
  | k, s, 0, _, _, h, _ => absurd h (by omega)
  | 0, s, fuel + 1, seen, hs, _, _ => by
    refine ⟨seen, ?_⟩
    rw [admitted_one]
    rw [if_pos (by omega)]
  | k + 1, s, fuel + 1, seen, hs, hf, hn => by
    obtain ⟨seen1, e⟩ := inSet2 (m.text.getD s 0) seen
    obtain ⟨seen', e'⟩ := admitted_none hm k (s + 1) fuel seen1 (by omega) (by omega) fun p h1 h2 => hn p (by omega) h2
    refine ⟨seen', ?_⟩
    rw [admitted_one]
    rw [if_neg (by omega), hm]
    show (match Sre.inSet patCode2.toArray (m.text.getD s 0) 36 5 true seen with | .ok (true, seen) => _ | .ok (false, seen) => _ | .error why => _) = _
    rw [e, hn s (by omega) (by omega)]
    exact e'
noncomputable abbrev S2 (text : Array Nat) (lim pos0 s : Nat) (seen : Sre.Seen) : Sre.M :=
  { code := patCode2.toArray, text, lim, start := s, lastStart := lim, mustAdvance := false, pc := 10, pos := s, handed := s, outermost := true, marks := #[], frames := [{ wait := .nextStart, pc := 10, pos := s, outermost := true }], weight := 1, seen }
noncomputable abbrev M0 (text : Array Nat) (lim pos : Nat) : Sre.M :=
  { code := patCode2.toArray, text, lim, start := pos, lastStart := lim, mustAdvance := false, pc := 10, pos, handed := pos, marks := #[], seen := ({} : Sre.Seen).add 14 }
theorem for2 {text : Array Nat} {pos lim : Nat} (h : pos < lim) : Sre.forSearch patCode2.toArray text 0 pos lim false = (M0 text lim pos).attemptFrom pos true := by
  unfold Sre.forSearch
  show (if (decide (pos > lim) || decide (lim - pos < 1)) = true then _ else _) = _
  rw [if_neg (by simp; omega)]
  rfl
theorem for2_hit {text : Array Nat} {pos lim i : Nat} (hi : pos ≤ i) (hl : i < lim) (hn : ∀ p, pos ≤ p → p < i → nlc (text.getD p 0) = false) (hc : nlc (text.getD i 0) = true) :
    ∃ seen', Sre.forSearch patCode2.toArray text 0 pos lim false = S2 text lim pos i seen' := by
  rw [for2 (by omega)]
  obtain ⟨seen', e⟩ := admitted_hit (m := M0 text lim pos) rfl hl hc (i - pos) pos (lim + 1 - pos) (({} : Sre.Seen).add 14) (by omega) (by omega) hn
  refine ⟨seen', ?_⟩
  show (match Sre.M.admitted (M0 text lim pos) (lim + 1 - pos) pos (({} : Sre.Seen).add 14) with | .ok (some s, seen) => ({ M0 text lim pos with mustAdvance := false, seen } : Sre.M).attemptAt s true | .ok (none, seen) => ({ M0 text lim pos with seen } : Sre.M).say false | .error why => _) = _
  rw [e]
  rfl
theorem end2_none {text : Array Nat} {pos lim : Nat} (hl : pos ≤ lim) (hn : ∀ p, pos ≤ p → p < lim → nlc (text.getD p 0) = false) : endP (Sre.forSearch patCode2.toArray text 0 pos lim false) = some none := by
  rcases Nat.eq_or_lt_of_le hl with rfl | hl
  · unfold Sre.forSearch
    show endP (if (decide (pos > pos) || decide (pos - pos < 1)) = true then _ else _) = _
    rw [if_pos (by simp)]
    rfl
  rw [for2 hl]
  obtain ⟨seen', e⟩ := admitted_none (m := M0 text lim pos) rfl (lim - pos) pos (lim + 1 - pos) (({} : Sre.Seen).add 14) (show pos + (lim - pos) = lim by omega) (by omega) hn
  have e' : (M0 text lim pos).attemptFrom pos true = ({ M0 text lim pos with seen := seen' } : Sre.M).say false := by
    show (match Sre.M.admitted (M0 text lim pos) (lim + 1 - pos) pos (({} : Sre.Seen).add 14) with | .ok (some s, seen) => ({ M0 text lim pos with mustAdvance := false, seen } : Sre.M).attemptAt s true | .ok (none, seen) => ({ M0 text lim pos with seen } : Sre.M).say false | .error why => _) = _
    rw [e]
  rw [e']
  exact endP_of 1 (by omega) .failed rfl
end Mine
end

section
set_option maxRecDepth 100000
set_option maxHeartbeats 2000000
set_option linter.unusedVariables false
open PySem PySem.W PyProof.Rows PySem.Calls PySem.Challenge
namespace Mine
noncomputable abbrev S2a (text : Array Nat) (lim s pc p hd : Nat) (om : Bool) (seen : Sre.Seen) (fr : List Sre.Frame) (w : Nat) (an : Option Bool) : Sre.M :=
  { code := patCode2.toArray, text, lim, start := s, lastStart := lim, mustAdvance := false, pc := pc, pos := p, handed := hd, outermost := om, marks := #[], frames := fr, weight := w, seen, answer := an }
variable {text : Array Nat} {lim s p hd w : Nat} {om : Bool} {seen : Sre.Seen} {fr : List Sre.Frame}
theorem lit12_ok (hp : p < lim) (h : text.getD p 0 = 13) : (S2a text lim s 12 p hd om seen fr w none).step = S2a text lim s 14 (p + 1) hd om (seen.add 16) fr w none := by
  show (if p ≥ lim then _ else match (Except.ok (text.getD p 0 == 13, seen.add 16) : Except String (Bool × Sre.Seen)) with | .error why => _ | .ok (false, seen) => _ | .ok (true, seen) => _) = _
  rw [if_neg (by omega), h]
  rfl
theorem lit12_no (h : p < lim → (text.getD p 0 == 13) = false) : (S2a text lim s 12 p hd om seen fr w none).step = S2a text lim s 12 p hd om (seen.add 16) fr w (some false) := by
  show (if p ≥ lim then _ else match (Except.ok (text.getD p 0 == 13, seen.add 16) : Except String (Bool × Sre.Seen)) with | .error why => _ | .ok (false, seen) => _ | .ok (true, seen) => _) = _
  split
  · rfl
  · rw [h (by omega)]; rfl
theorem lit14_ok (hp : p < lim) (h : text.getD p 0 = 10) : (S2a text lim s 14 p hd om seen fr w none).step = S2a text lim s 16 (p + 1) hd om (seen.add 16) fr w none := by
  show (if p ≥ lim then _ else match (Except.ok (text.getD p 0 == 10, seen.add 16) : Except String (Bool × Sre.Seen)) with | .error why => _ | .ok (false, seen) => _ | .ok (true, seen) => _) = _
  rw [if_neg (by omega), h]
  rfl
theorem lit14_no (h : p < lim → (text.getD p 0 == 10) = false) : (S2a text lim s 14 p hd om seen fr w none).step = S2a text lim s 14 p hd om (seen.add 16) fr w (some false) := by
  show (if p ≥ lim then _ else match (Except.ok (text.getD p 0 == 10, seen.add 16) : Except String (Bool × Sre.Seen)) with | .error why => _ | .ok (false, seen) => _ | .ok (true, seen) => _) = _
  split
  · rfl
  · rw [h (by omega)]; rfl
theorem lit19_ok (hp : p < lim) (h : text.getD p 0 = 10) : (S2a text lim s 19 p hd om seen fr w none).step = S2a text lim s 21 (p + 1) hd om (seen.add 16) fr w none := by
  show (if p ≥ lim then _ else match (Except.ok (text.getD p 0 == 10, seen.add 16) : Except String (Bool × Sre.Seen)) with | .error why => _ | .ok (false, seen) => _ | .ok (true, seen) => _) = _
  rw [if_neg (by omega), h]
  rfl
theorem lit19_no (h : p < lim → (text.getD p 0 == 10) = false) : (S2a text lim s 19 p hd om seen fr w none).step = S2a text lim s 19 p hd om (seen.add 16) fr w (some false) := by
  show (if p ≥ lim then _ else match (Except.ok (text.getD p 0 == 10, seen.add 16) : Except String (Bool × Sre.Seen)) with | .error why => _ | .ok (false, seen) => _ | .ok (true, seen) => _) = _
  split
  · rfl
  · rw [h (by omega)]; rfl
theorem lit24_ok (hp : p < lim) (h : text.getD p 0 = 13) : (S2a text lim s 24 p hd om seen fr w none).step = S2a text lim s 26 (p + 1) hd om (seen.add 16) fr w none := by
  show (if p ≥ lim then _ else match (Except.ok (text.getD p 0 == 13, seen.add 16) : Except String (Bool × Sre.Seen)) with | .error why => _ | .ok (false, seen) => _ | .ok (true, seen) => _) = _
  rw [if_neg (by omega), h]
  rfl
theorem lit24_no (h : p < lim → (text.getD p 0 == 13) = false) : (S2a text lim s 24 p hd om seen fr w none).step = S2a text lim s 24 p hd om (seen.add 16) fr w (some false) := by
  show (if p ≥ lim then _ else match (Except.ok (text.getD p 0 == 13, seen.add 16) : Except String (Bool × Sre.Seen)) with | .error why => _ | .ok (false, seen) => _ | .ok (true, seen) => _) = _
  split
  · rfl
  · rw [h (by omega)]; rfl
theorem lit29_ok (hp : p < lim) (h : text.getD p 0 = 10) : (S2a text lim s 29 p hd om seen fr w none).step = S2a text lim s 31 (p + 1) hd om (seen.add 16) fr w none := by
  show (if p ≥ lim then _ else match (Except.ok (text.getD p 0 == 10, seen.add 16) : Except String (Bool × Sre.Seen)) with | .error why => _ | .ok (false, seen) => _ | .ok (true, seen) => _) = _
  rw [if_neg (by omega), h]
  rfl
theorem lit29_no (h : p < lim → (text.getD p 0 == 10) = false) : (S2a text lim s 29 p hd om seen fr w none).step = S2a text lim s 29 p hd om (seen.add 16) fr w (some false) := by
  show (if p ≥ lim then _ else match (Except.ok (text.getD p 0 == 10, seen.add 16) : Except String (Bool × Sre.Seen)) with | .error why => _ | .ok (false, seen) => _ | .ok (true, seen) => _) = _
  split
  · rfl
  · rw [h (by omega)]; rfl

noncomputable abbrev FN (p : Nat) (om : Bool) : Sre.Frame := { wait := .nextStart, pc := 10, pos := p, outermost := om }
noncomputable abbrev FB (a p : Nat) (om : Bool) : Sre.Frame := { wait := .nextBranch, pc := a, pos := p, outermost := om }
noncomputable abbrev FL (p : Nat) (om : Bool) : Sre.Frame := { wait := .lookNot, pc := 26, pos := p, outermost := om }
theorem st_branch {fn : Sre.Frame} : (S2a text lim s 10 p hd om seen [fn] 1 none).step = S2a text lim s 12 p p om (seen.add 7) [FB 11 p om, fn] 2 none := rfl
theorem st_alt2 {fn : Sre.Frame} {pc p' : Nat} {om' : Bool} : (S2a text lim s pc p' hd om' seen [FB 11 p om, fn] 2 (some false)).step = S2a text lim s 19 p p om seen [FB 18 p om, fn] 2 none := rfl
theorem st_alt3 {fn : Sre.Frame} {pc p' : Nat} {om' : Bool} : (S2a text lim s pc p' hd om' seen [FB 18 p om, fn] 2 (some false)).step = S2a text lim s 24 p p om seen [FB 23 p om, fn] 2 none := rfl
theorem st_jump1 {w : Nat} : (S2a text lim s 16 p hd om seen fr w none).step = S2a text lim s 35 p hd om (seen.add 15) fr w none := rfl
theorem st_jump2 {w : Nat} : (S2a text lim s 21 p hd om seen fr w none).step = S2a text lim s 35 p hd om (seen.add 15) fr w none := rfl
theorem st_jump3 {w : Nat} : (S2a text lim s 32 p hd om seen fr w none).step = S2a text lim s 35 p hd om (seen.add 15) fr w none := rfl
theorem st_succ {w : Nat} : (S2a text lim s 35 p hd om seen fr w none).step = S2a text lim s 35 p p om (seen.add 1) fr w (some true) := by
  cases om <;> rfl
theorem st_not {f1 fn : Sre.Frame} : (S2a text lim s 26 p hd om seen [f1, fn] 2 none).step = S2a text lim s 29 p p false (seen.add 5) [FL p om, f1, fn] 3 none := rfl
theorem st_notback {f1 fn : Sre.Frame} {pc p' : Nat} {om' : Bool} : (S2a text lim s pc p' hd om' seen [FL p om, f1, fn] 3 (some false)).step = S2a text lim s 32 p hd om seen [f1, fn] 2 none := rfl
theorem st_yes2 {a p₁ p₂ pc p' : Nat} {o₁ o₂ om' : Bool} : ∃ m, (S2a text lim s pc p' hd om' seen [FB a p₁ o₁, FN p₂ o₂] 2 (some true)).runFor 3 = m ∧ m.outcome = some .matched ∧ m.start = s ∧ m.handed = hd := ⟨_, rfl, rfl, rfl, rfl⟩
theorem run_succ (n : Nat) {m m' : Sre.M} (h : m.step = m') : m.runFor (n + 1) = m'.runFor n := by rw [runFor_step, h]

theorem end2_of {text : Array Nat} {pos lim i : Nat} {m : Sre.M} (k : Nat) (hk : k ≤ 256) (e : Sre.forSearch patCode2.toArray text 0 pos lim false = m) (h : (m.runFor k).outcome = some .matched) :
    endP (Sre.forSearch patCode2.toArray text 0 pos lim false) = some (some (m.runFor k)) := by
  rw [e]; exact endP_of k hk .matched h
/-- a return and a feed -/
theorem end2_rn {pos i : Nat} (hi : pos ≤ i) (hl : i + 1 < lim) (hn : ∀ p, pos ≤ p → p < i → nlc (text.getD p 0) = false) (h1 : text.getD i 0 = 13) (h2 : text.getD (i + 1) 0 = 10) :
    ∃ m, endP (Sre.forSearch patCode2.toArray text 0 pos lim false) = some (some m) ∧ m.start = i ∧ m.handed = i + 2 := by
  obtain ⟨seen', e⟩ := for2_hit (text := text) (lim := lim) hi (by omega) hn (by rw [h1]; rfl)
  obtain ⟨m, e2, h3, h4, h5⟩ := st_yes2 (text := text) (lim := lim) (s := i) (hd := i + 1 + 1) (seen := ((((seen'.add 7).add 16).add 16).add 15).add 1) (a := 11) (p₁ := i) (p₂ := i) (pc := 35) (p' := i + 1 + 1) (o₁ := true) (o₂ := true) (om' := true)
  have e3 : (S2 text lim pos i seen').runFor 8 = m := by
    refine (run_succ 7 (st_branch (om := true) (fn := FN i true))).trans ?_
    refine (run_succ 6 (lit12_ok (by omega) h1)).trans ?_
    refine (run_succ 5 (lit14_ok (by omega) h2)).trans ?_
    refine (run_succ 4 st_jump1).trans ?_
    exact (run_succ 3 st_succ).trans e2
  refine ⟨m, ?_, h4, h5⟩
  rw [end2_of (i := i) 8 (by omega) e (by rw [e3]; exact h3), e3]
/-- a feed alone -/
theorem end2_n {pos i : Nat} (hi : pos ≤ i) (hl : i < lim) (hn : ∀ p, pos ≤ p → p < i → nlc (text.getD p 0) = false) (h1 : text.getD i 0 = 10) :
    ∃ m, endP (Sre.forSearch patCode2.toArray text 0 pos lim false) = some (some m) ∧ m.start = i ∧ m.handed = i + 1 := by
  obtain ⟨seen', e⟩ := for2_hit (text := text) (lim := lim) hi (by omega) hn (by rw [h1]; rfl)
  obtain ⟨m, e2, h3, h4, h5⟩ := st_yes2 (text := text) (lim := lim) (s := i) (hd := i + 1) (seen := ((((seen'.add 7).add 16).add 16).add 15).add 1) (a := 18) (p₁ := i) (p₂ := i) (pc := 35) (p' := i + 1) (o₁ := true) (o₂ := true) (om' := true)
  have e3 : (S2 text lim pos i seen').runFor 9 = m := by
    refine (run_succ 8 (st_branch (om := true) (fn := FN i true))).trans ?_
    refine (run_succ 7 (lit12_no (by intro _; rw [h1]; rfl))).trans ?_
    refine (run_succ 6 st_alt2).trans ?_
    refine (run_succ 5 (lit19_ok hl h1)).trans ?_
    refine (run_succ 4 st_jump2).trans ?_
    exact (run_succ 3 st_succ).trans e2
  refine ⟨m, ?_, h4, h5⟩
  rw [end2_of (i := i) 9 (by omega) e (by rw [e3]; exact h3), e3]
/-- a return alone -/
theorem end2_r {pos i : Nat} (hi : pos ≤ i) (hl : i < lim) (hn : ∀ p, pos ≤ p → p < i → nlc (text.getD p 0) = false) (h1 : text.getD i 0 = 13) (h2 : i + 1 < lim → (text.getD (i + 1) 0 == 10) = false) :
    ∃ m, endP (Sre.forSearch patCode2.toArray text 0 pos lim false) = some (some m) ∧ m.start = i ∧ m.handed = i + 1 := by
  obtain ⟨seen', e⟩ := for2_hit (text := text) (lim := lim) hi (by omega) hn (by rw [h1]; rfl)
  obtain ⟨m, e2, h3, h4, h5⟩ := st_yes2 (text := text) (lim := lim) (s := i) (hd := i + 1) (seen := ((((((((seen'.add 7).add 16).add 16).add 16).add 16).add 5).add 16).add 15).add 1) (a := 23) (p₁ := i) (p₂ := i) (pc := 35) (p' := i + 1) (o₁ := true) (o₂ := true) (om' := true)
  have e3 : (S2 text lim pos i seen').runFor 15 = m := by
    refine (run_succ 14 (st_branch (om := true) (fn := FN i true))).trans ?_
    refine (run_succ 13 (lit12_ok (by omega) h1)).trans ?_
    refine (run_succ 12 (lit14_no h2)).trans ?_
    refine (run_succ 11 st_alt2).trans ?_
    refine (run_succ 10 (lit19_no (by intro _; rw [h1]; rfl))).trans ?_
    refine (run_succ 9 st_alt3).trans ?_
    refine (run_succ 8 (lit24_ok hl h1)).trans ?_
    refine (run_succ 7 st_not).trans ?_
    refine (run_succ 6 (lit29_no h2)).trans ?_
    refine (run_succ 5 st_notback).trans ?_
    refine (run_succ 4 st_jump3).trans ?_
    exact (run_succ 3 st_succ).trans e2
  refine ⟨m, ?_, h4, h5⟩
  rw [end2_of (i := i) 15 (by omega) e (by rw [e3]; exact h3), e3]
end Mine
end

section
set_option maxRecDepth 100000
set_option maxHeartbeats 2000000
set_option linter.unusedVariables false
open PySem PySem.W PyProof.Rows PySem.Calls PySem.Challenge
namespace Mine
/-- a list of codes as a text -/
noncomputable abbrev tx (l : List Nat) : Str := ⟨l.toArray⟩
theorem tx_app (a b : List Nat) : tx a ++ tx b = tx (a ++ b) := by
  show (⟨a.toArray ++ b.toArray⟩ : Str) = ⟨(a ++ b).toArray⟩
  simp
theorem tx_len (a : List Nat) : (tx a).length = a.length := rfl
theorem glue_fold : ∀ (ls : List (List Nat)) (acc : List Nat), (ls.map tx).foldl (fun acc p => acc ++ (tx []).cps ++ p.cps) acc.toArray = (acc ++ ls.flatten).toArray
  | [], acc => by simp
  | x :: r, acc => by
    rw [List.map_cons, List.foldl_cons]
    have e : acc.toArray ++ (tx []).cps ++ (tx x).cps = (acc ++ x).toArray := by simp
    rw [e, glue_fold r (acc ++ x)]
    simp
theorem join_cps : ∀ (ls : List (List Nat)), Txt.join (tx []) (ls.map tx) = tx ls.flatten
  | [] => rfl
  | x :: r => by
    show (⟨_⟩ : Str) = _
    exact congrArg Str.mk (glue_fold r x)

/-- a line: its dots, its sign, its end's kind -/
structure Ln where
  d : Nat
  c : Nat
  e : Nat
noncomputable def endsOf (e : Nat) : List Nat := if e % 3 = 0 then [10] else if e % 3 = 1 then [13, 10] else [13]
noncomputable abbrev Ln.body (l : Ln) : List Nat := List.replicate l.d 46 ++ [l.c]
noncomputable abbrev Ln.raw (l : Ln) : List Nat := l.body ++ endsOf l.e
noncomputable def Ln.ok (l : Ln) : Prop := 0 < l.d ∧ l.d < 40 ∧ l.c ≠ 10 ∧ l.c ≠ 13 ∧ l.c ≠ 46
noncomputable abbrev rawOf (ls : List Ln) : List Nat := ls.flatMap Ln.raw
noncomputable abbrev Ln.mid (l : Ln) : List Nat := l.body ++ [13, 10]
noncomputable abbrev midOf (ls : List Ln) : List Nat := ls.flatMap Ln.mid
theorem getD_at {l : List Nat} {p : Nat} : l.toArray.getD p 0 = l.getD p 0 := by simp
theorem body_at {l : Ln} (h : l.ok) {p : Nat} (hp : p < l.d + 1) (r : List Nat) : nlc ((l.body ++ r).getD p 0) = false := by
  obtain ⟨h1, h2, h3, h4, h5⟩ := h
  have : (l.body ++ r).getD p 0 = 46 ∨ (l.body ++ r).getD p 0 = l.c := by
    rw [List.getD_eq_getElem?_getD, List.getElem?_append_left (by simp; omega), List.getElem?_append]
    by_cases hq : p < l.d
    · left; simp [hq]
    · right
      have : p = l.d := by omega
      subst this; simp
  rcases this with q | q <;> rw [q] <;> unfold nlc
  · rfl
  · simp [h3, h4]
theorem extract_mid (a b c : List Nat) : (a ++ b ++ c).toArray.extract a.length (a.length + b.length) = b.toArray := by
  simp [List.extract_eq_take_drop]

theorem small_of {n : Nat} (h : n ≤ 1048576) : small n = true := Nat.ble_eq_true_of_le h
theorem subP_hit {code text : _} {repl : Str} {n pos : Nat} {ys : List Str} {m : Sre.M} (hs : ys.length + text.size + 1 ≤ 1048576) (h : endP (Sre.forSearch code.toArray text 0 pos text.size false) = some (some m)) (hp : pos < m.start) (hm : m.start < m.handed) :
    subP code text repl (n + 1) pos false ys = subP code text repl n m.handed false (ys ++ [⟨text.extract pos m.start⟩, repl]) := by
  conv => lhs; unfold subP
  rw [small_of hs]
  dsimp only
  rw [h]
  dsimp only
  rw [if_pos hp, show (m.handed == m.start) = false by simp; omega, List.append_assoc]
  rfl
theorem getD_skip (pre rest : List Nat) (k : Nat) : (pre ++ rest).toArray.getD (pre.length + k) 0 = rest.getD k 0 := by
  rw [getD_at, List.getD_eq_getElem?_getD, List.getElem?_append_right (by omega), List.getD_eq_getElem?_getD]
  congr 2; omega
theorem sub2 : ∀ (ls : List Ln) (pre : List Nat) (fuel : Nat) (ys : List (List Nat)), (∀ l ∈ ls, l.ok) → ls.length < fuel → ys.length + 2 * ls.length + (pre ++ rawOf ls).length + 1 ≤ 1048576 →
    subP patCode2 (pre ++ rawOf ls).toArray (tx [13, 10]) fuel pre.length false (ys.map tx) = finP (pre ++ rawOf ls).toArray ((ys ++ ls.flatMap fun l => [l.body, [13, 10]]).map tx)
  | [], pre, fuel + 1, ys, _, _, hs => by
    simp only [rawOf, List.flatMap_nil, List.append_nil] at hs ⊢
    unfold subP
    rw [small_of (by simp at hs ⊢; omega)]
    dsimp only
    rw [end2_none (text := pre.toArray) (by simp) (fun p h1 h2 => absurd h2 (by simp; omega))]
    simp
  | l :: r, pre, fuel + 1, ys, hok, hf, hs => by
    have hl := hok l (.head _)
    obtain ⟨h1, h2, h3, h4, h5⟩ := hl
    have hl : l.ok := ⟨h1, h2, h3, h4, h5⟩
    have et : pre ++ rawOf (l :: r) = (pre ++ l.body) ++ (endsOf l.e ++ rawOf r) := by simp [rawOf]
    have et2 : pre ++ rawOf (l :: r) = (pre ++ l.raw) ++ rawOf r := by simp [rawOf]
    have bl : (pre ++ l.body).length = pre.length + (l.d + 1) := by simp <;> omega
    have hn : ∀ p, pre.length ≤ p → p < pre.length + (l.d + 1) → nlc ((pre ++ rawOf (l :: r)).toArray.getD p 0) = false := fun p q1 q2 => by
      obtain ⟨k, rfl⟩ : ∃ k, p = pre.length + k := ⟨p - pre.length, by omega⟩
      rw [getD_skip]
      have := body_at hl (p := k) (by omega) (endsOf l.e ++ rawOf r)
      simpa [rawOf] using this
    have hg : ∀ k, (pre ++ rawOf (l :: r)).toArray.getD (pre.length + (l.d + 1) + k) 0 = (endsOf l.e ++ rawOf r).getD k 0 := fun k => by
      rw [et, ← bl, getD_skip]
    have hsz : (pre ++ rawOf (l :: r)).toArray.size = pre.length + (l.d + 1) + ((endsOf l.e).length + (rawOf r).length) := by rw [et]; simp; omega
    have hr0 : (rawOf r).getD 0 0 = 46 ∨ rawOf r = [] := by
      cases r with
      | nil => exact .inr rfl
      | cons q r =>
        left
        obtain ⟨g1, _⟩ := hok q (.tail _ (.head _))
        obtain ⟨k, hk⟩ : ∃ k, q.d = k + 1 := ⟨q.d - 1, by omega⟩
        simp [rawOf, hk, List.replicate_succ]
    have hit : ∃ m, endP (Sre.forSearch patCode2.toArray (pre ++ rawOf (l :: r)).toArray 0 pre.length (pre ++ rawOf (l :: r)).toArray.size false) = some (some m) ∧ m.start = pre.length + (l.d + 1) ∧ m.handed = pre.length + (l.d + 1) + (endsOf l.e).length := by
      have g0 := hg 0
      have g1 := hg 1
      rw [Nat.add_zero] at g0
      unfold endsOf at g0 g1 hsz ⊢
      by_cases e0 : l.e % 3 = 0
      · rw [if_pos e0] at g0 g1 hsz ⊢
        exact end2_n (by omega) (by rw [hsz]; simp; omega) hn (g0.trans rfl)
      · rw [if_neg e0] at g0 g1 hsz ⊢
        by_cases e1 : l.e % 3 = 1
        · rw [if_pos e1] at g0 g1 hsz ⊢
          exact end2_rn (by omega) (by rw [hsz]; simp; omega) hn (g0.trans rfl) (g1.trans rfl)
        · rw [if_neg e1] at g0 g1 hsz ⊢
          refine end2_r (by omega) (by rw [hsz]; simp; omega) hn (g0.trans rfl) (fun hlt => ?_)
          rw [g1]
          rcases hr0 with q | q
          · have q9 : ([13] ++ rawOf r).getD 1 0 = (rawOf r).getD 0 0 := by simp
            rw [q9, q]; rfl
          · rw [hsz, q] at hlt
            simp at hlt
    obtain ⟨m, q1, q2, q3⟩ := hit
    have hel : 0 < (endsOf l.e).length := by
      unfold endsOf
      split
      · simp
      · split <;> simp
    rw [subP_hit (by simp at hs ⊢; omega) q1 (by omega) (by omega)]
    have ih := sub2 r (pre ++ l.raw) fuel (ys ++ [l.body, [13, 10]]) (fun x hx => hok x (.tail _ hx)) (by simp at hf; omega) (by rw [← et2]; simp at hs ⊢; omega)
    rw [← et2] at ih
    have ex : (pre ++ rawOf (l :: r)).toArray.extract pre.length m.start = l.body.toArray := by
      rw [q2, et, show pre.length + (l.d + 1) = pre.length + l.body.length by simp]
      exact extract_mid pre l.body _
    rw [ex, q3]
    have hh : pre.length + (l.d + 1) + (endsOf l.e).length = (pre ++ l.raw).length := by simp; omega
    rw [hh]
    have e3 : ys.map tx ++ [⟨l.body.toArray⟩, tx [13, 10]] = (ys ++ [l.body, [13, 10]]).map tx := by simp
    rw [e3, ih]
    congr 1
    simp
end Mine
end

section
set_option maxRecDepth 100000
set_option maxHeartbeats 2000000
set_option linter.unusedVariables false
open PySem PySem.W PyProof.Rows PySem.Calls PySem.Challenge
namespace Mine
noncomputable abbrev Ln.tail (l : Ln) : List Nat := List.replicate (l.d - 1) 46 ++ [l.c, 13, 10]
theorem mid_tail {l : Ln} (h : 0 < l.d) : l.mid = 46 :: l.tail := by
  obtain ⟨k, hk⟩ : ∃ k, l.d = k + 1 := ⟨l.d - 1, by omega⟩
  simp [Ln.mid, Ln.tail, hk, List.replicate_succ]
theorem mid_at {l : Ln} (h : l.ok) {p : Nat} (hp : p < l.d + 2) (r : List Nat) : ((l.mid ++ r).getD p 0 == 10) = false := by
  by_cases hq : p < l.d + 1
  · have := body_at h hq ([13, 10] ++ r)
    unfold nlc at this
    rw [Bool.or_eq_false_iff] at this
    simpa [Ln.mid] using this.1
  · have : p = l.d + 1 := by omega
    subst this
    have e : l.mid ++ r = l.body ++ ([13, 10] ++ r) := by simp [Ln.mid]
    rw [e, List.getD_eq_getElem?_getD, List.getElem?_append_right (by simp)]
    simp
theorem mid_len (l : Ln) : l.mid.length = l.d + 3 := by simp [Ln.mid]
theorem sub1 : ∀ (r : List Ln) (l : Ln) (pre : List Nat) (fuel : Nat) (ys : List (List Nat)), l.ok → (∀ x ∈ r, x.ok) → r.length < fuel → ys.length + 2 * r.length + (pre ++ l.mid ++ midOf r).length + 1 ≤ 1048576 →
    subP patCode1 (pre ++ l.mid ++ midOf r).toArray (tx [46, 46]) fuel (pre.length + 1) false (ys.map tx) = finP (pre ++ l.mid ++ midOf r).toArray ((ys ++ l.tail :: r.flatMap fun x => [[46, 46], x.tail]).map tx)
  | [], l, pre, fuel + 1, ys, hl, _, _, hs => by
    simp only [midOf, List.flatMap_nil, List.append_nil] at hs ⊢
    have hsz : (pre ++ l.mid).toArray.size = pre.length + (l.d + 3) := by simp
    have hn : ∀ p, pre.length + 1 ≤ p → p < pre.length + (l.d + 3) → bol (pre ++ l.mid).toArray p = false := fun p q1 q2 => by
      obtain ⟨k, rfl⟩ : ∃ k, p = pre.length + k + 1 := ⟨p - pre.length - 1, by omega⟩
      unfold bol
      rw [Nat.add_sub_cancel, getD_skip]
      have := mid_at hl (p := k) (by omega) []
      rw [List.append_nil] at this
      rw [this]; simp
    have h1 := hl.1
    have h2 := hl.2.1
    conv => lhs; unfold subP
    rw [small_of (by simp at hs ⊢; omega)]
    dsimp only
    rw [end1_none (text := (pre ++ l.mid).toArray) (by omega) (by omega) (fun p q1 q2 => hn p q1 (by omega))]
    dsimp only
    rw [if_pos (by omega), hsz]
    have ex : (pre ++ l.mid).toArray.extract (pre.length + 1) (pre.length + (l.d + 3)) = l.tail.toArray := by
      rw [mid_tail h1]
      have e1 : pre ++ 46 :: l.tail = (pre ++ [46]) ++ l.tail ++ [] := by simp
      have e2 : pre.length + (l.d + 3) = (pre ++ [46]).length + l.tail.length := by simp; omega
      rw [e1, e2, show pre.length + 1 = (pre ++ [46]).length by simp]
      exact extract_mid (pre ++ [46]) l.tail []
    rw [ex]
    congr 1
    simp
  | x :: r, l, pre, fuel + 1, ys, hl, hr, hf, hs => by
    have hx := hr x (.head _)
    have h1 := hl.1
    have h2 := hl.2.1
    have h3 := hx.1
    have et : pre ++ l.mid ++ midOf (x :: r) = (pre ++ l.mid) ++ x.mid ++ midOf r := by simp [midOf]
    have hsz : (pre ++ l.mid ++ midOf (x :: r)).toArray.size = pre.length + (l.d + 3) + ((x.d + 3) + (midOf r).length) := by simp [midOf]; omega
    have hn : ∀ p, pre.length + 1 ≤ p → p < pre.length + (l.d + 3) → bol (pre ++ l.mid ++ midOf (x :: r)).toArray p = false := fun p q1 q2 => by
      obtain ⟨k, rfl⟩ : ∃ k, p = pre.length + k + 1 := ⟨p - pre.length - 1, by omega⟩
      unfold bol
      rw [Nat.add_sub_cancel, List.append_assoc, getD_skip, mid_at hl (p := k) (by omega)]
      simp
    have hb : bol (pre ++ l.mid ++ midOf (x :: r)).toArray (pre.length + (l.d + 3)) = true := by
      unfold bol
      rw [show pre.length + (l.d + 3) - 1 = pre.length + (l.d + 2) by omega, List.append_assoc, getD_skip]
      have e : l.mid ++ midOf (x :: r) = l.body ++ ([13, 10] ++ midOf (x :: r)) := by simp [Ln.mid]
      rw [e, List.getD_eq_getElem?_getD, List.getElem?_append_right (by simp)]
      simp
    have hc : (pre ++ l.mid ++ midOf (x :: r)).toArray.getD (pre.length + (l.d + 3)) 0 = 46 := by
      have e : pre.length + (l.d + 3) = (pre ++ l.mid).length + 0 := by simp
      rw [e, getD_skip]
      have e2 : midOf (x :: r) = 46 :: (x.tail ++ midOf r) := by rw [midOf, List.flatMap_cons, mid_tail h3]; rfl
      rw [e2]; rfl
    obtain ⟨m, q1, q2, q3⟩ := end1_hit (text := (pre ++ l.mid ++ midOf (x :: r)).toArray) (lim := (pre ++ l.mid ++ midOf (x :: r)).toArray.size) (pos := pre.length + 1) (i := pre.length + (l.d + 3)) (by omega) (by omega) (by omega) hn hb hc
    rw [subP_hit (by simp at hs ⊢; omega) q1 (by omega) (by omega)]
    have ih := sub1 r x (pre ++ l.mid) fuel (ys ++ [l.tail, [46, 46]]) hx (fun y hy => hr y (.tail _ hy)) (by simp at hf; omega) (by rw [← et]; simp at hs ⊢; omega)
    rw [← et] at ih
    have ex : (pre ++ l.mid ++ midOf (x :: r)).toArray.extract (pre.length + 1) m.start = l.tail.toArray := by
      rw [q2, mid_tail h1]
      have e1 : pre ++ 46 :: l.tail ++ midOf (x :: r) = (pre ++ [46]) ++ l.tail ++ midOf (x :: r) := by simp
      have e2 : pre.length + (l.d + 3) = (pre ++ [46]).length + l.tail.length := by simp; omega
      rw [e1, e2, show pre.length + 1 = (pre ++ [46]).length by simp]
      exact extract_mid (pre ++ [46]) l.tail _
    rw [ex, q3, show pre.length + (l.d + 3) + 1 = (pre ++ l.mid).length + 1 by simp]
    have e3 : ys.map tx ++ [⟨l.tail.toArray⟩, tx [46, 46]] = (ys ++ [l.tail, [46, 46]]).map tx := by simp
    rw [e3, ih]
    congr 1
    simp

theorem finP_tx {text : Array Nat} {zs : List (List Nat)} (h : zs ≠ []) (hs : zs.flatten.length ≤ 1048576) : finP text (zs.map tx) = some (tx zs.flatten) := by
  cases zs with
  | nil => exact absurd rfl h
  | cons z r =>
    show (match small (((z :: r).map tx).map (·.length)).sum with
      | true => some (Txt.join ⟨text.extract 0 0⟩ ((z :: r).map tx))
      | false => none) = _
    have e : (((z :: r).map tx).map (·.length)).sum = (z :: r).flatten.length := by
      rw [List.length_flatten, List.map_map]; rfl
    rw [e, small_of hs]
    have e2 : text.extract 0 0 = #[] := by simp
    rw [e2]
    exact congrArg some (join_cps (z :: r))
theorem sub2_top {ls : List Ln} (hok : ∀ l ∈ ls, l.ok) (hne : ls ≠ []) (hf : ls.length < 64) (hs : (rawOf ls).length ≤ 10000) : subP patCode2 (rawOf ls).toArray (tx [13, 10]) 64 0 false [] = some (tx (midOf ls)) := by
  have h := sub2 ls [] 64 [] hok hf (by simp at hs ⊢; omega)
  have e : (ls.flatMap fun l => [l.body, [13, 10]]).flatten = midOf ls := by
    clear h hs hf hne hok
    induction ls with
    | nil => rfl
    | cons l r ih =>
      rw [List.flatMap_cons, List.flatten_append, ih]
      simp [midOf]
  rw [List.nil_append, List.nil_append] at h
  refine h.trans ((finP_tx ?_ ?_).trans ?_)
  · cases ls with
    | nil => exact absurd rfl hne
    | cons l r => simp
  · rw [e]
    have h1 : ∀ ls : List Ln, (midOf ls).length ≤ (rawOf ls).length + ls.length := fun ls => by
      induction ls with
      | nil => simp
      | cons l r ih =>
        have : 0 < (endsOf l.e).length := by
          unfold endsOf
          split
          · simp
          · split <;> simp
        simp [midOf, rawOf] at ih ⊢; omega
    have := h1 ls
    omega
  · rw [e]
noncomputable def Ln.up (l : Ln) : Ln := { l with d := l.d + 1, e := 1 }
theorem raw_up (ls : List Ln) : rawOf (ls.map Ln.up) = ls.flatMap fun l => 46 :: l.mid := by
  induction ls with
  | nil => rfl
  | cons l r ih =>
    rw [List.map_cons, rawOf, List.flatMap_cons, List.flatMap_cons]
    refine congr (congrArg _ ?_) ih
    simp [Ln.up, Ln.raw, Ln.mid, endsOf, List.replicate_succ]
theorem sub1_top {ls : List Ln} (hok : ∀ l ∈ ls, l.ok) (hne : ls ≠ []) (hf : ls.length < 63) (hs : (midOf ls).length ≤ 10000) : subP patCode1 (midOf ls).toArray (tx [46, 46]) 64 0 false [] = some (tx (rawOf (ls.map Ln.up))) := by
  cases ls with
  | nil => exact absurd rfl hne
  | cons l r =>
    have hl := hok l (.head _)
    have h1 := hl.1
    have h2 := hl.2.1
    have et : midOf (l :: r) = l.mid ++ midOf r := by simp [midOf]
    have hc : (midOf (l :: r)).toArray.getD 0 0 = 46 := by
      rw [et, mid_tail h1]; rfl
    have hsz : 0 < (midOf (l :: r)).toArray.size := by rw [et]; simp <;> omega
    obtain ⟨m, q1, q2, q3⟩ := end1_hit (text := (midOf (l :: r)).toArray) (lim := (midOf (l :: r)).toArray.size) (pos := 0) (i := 0) (by omega) hsz (by omega) (fun p q1 q2 => by omega) rfl hc
    have h := sub1 r l [] 63 [[46, 46]] hl (fun y hy => hok y (.tail _ hy)) (by simp at hf; omega) (by rw [List.nil_append, ← et]; simp at hs hf ⊢; omega)
    rw [List.nil_append, ← et] at h
    conv => lhs; unfold subP
    rw [small_of (by simp at hs ⊢; omega)]
    dsimp only
    rw [q1]
    dsimp only
    rw [if_neg (by omega), q2, q3]
    refine h.trans ((finP_tx (by simp) ?_).trans ?_)
    all_goals
      have e : ∀ r : List Ln, (∀ x ∈ r, x.ok) → (r.flatMap fun x => [[46, 46], x.tail]).flatten = rawOf (r.map Ln.up) := fun r hr => by
        rw [raw_up]
        induction r with
        | nil => rfl
        | cons x r ih =>
          rw [List.flatMap_cons, List.flatten_append, List.flatMap_cons, ih (fun y hy => hr y (.tail _ hy)), mid_tail (hr x (.head _)).1]
          simp
      have e' := e (l :: r) hok
      rw [List.flatMap_cons] at e'
      have e2 : ([[46, 46]] ++ l.tail :: r.flatMap fun x => [[46, 46], x.tail]) = [[46, 46], l.tail] ++ r.flatMap fun x => [[46, 46], x.tail] := rfl
      rw [e2, e']
    rw [raw_up]
    have h3 : ∀ ls : List Ln, (ls.flatMap fun l => 46 :: l.mid).length = (midOf ls).length + ls.length := fun ls => by
      induction ls with
      | nil => rfl
      | cons l r ih => simp [midOf] at ih ⊢; omega
    rw [h3]
    simp at hf hs ⊢; omega
end Mine
end

section
set_option maxRecDepth 100000
set_option maxHeartbeats 2000000
set_option linter.unusedVariables false
open PySem PySem.W PyProof.Rows PySem.Calls PySem.Challenge
namespace Mine
theorem s_crlf : ("\r\n" : Str) = tx [13, 10] := by decide +kernel
theorem s_dots : (".." : Str) = tx [46, 46] := by decide +kernel
theorem quote_of {x y z : Str} (h1 : small x.length = true) (h2 : subP patCode2 x.cps (tx [13, 10]) 64 0 false [] = some y) (h3 : small y.length = true) (h4 : subP patCode1 y.cps (tx [46, 46]) 64 0 false [] = some z) :
    gQuote [.v (.str x)] = some (.v (.str z)) := by
  have k1 : ∀ S, subM patCode2 [.str "\r\n", .str x] S = some (.str y, S) := fun S => by
    show guardF (small x.length && !("\r\n" : Str).cps.contains 92) (match subP patCode2 x.cps "\r\n" 64 0 false [] with | some y => F.pure (AV.str y) | none => F.fail) S = _
    rw [h1, s_crlf, h2, show (!(tx [13, 10]).cps.contains 92) = true by decide +kernel]; rfl
  have k2 : ∀ S, subM patCode1 [.str "..", .str y] S = some (.str z, S) := fun S => by
    show guardF (small y.length && !(".." : Str).cps.contains 92) (match subP patCode1 y.cps ".." 64 0 false [] with | some y => F.pure (AV.str y) | none => F.fail) S = _
    rw [h3, s_dots, h4, show (!(tx [46, 46]).cps.contains 92) = true by decide +kernel]; rfl
  show callF 0 fQuote [.v (.str x)] = _
  unfold callF fQuote
  simp only [laid, seqF, F.bind, F.pure, getVar, List.append_nil, List.replicate, List.length, List.getElem?_cons_zero, Option.getD_some, k1, k2]
  rfl
theorem raw_len (ls : List Ln) (h : ∀ l ∈ ls, l.ok) : (rawOf ls).length ≤ 50 * ls.length := by
  induction ls with
  | nil => simp
  | cons l r ih =>
    have := ih fun x hx => h x (.tail _ hx)
    have h2 := (h l (.head _)).2.1
    have : (endsOf l.e).length ≤ 2 := by
      unfold endsOf
      split
      · simp
      · split <;> simp
    simp [rawOf] at *
    omega
theorem mid_le (ls : List Ln) (h : ∀ l ∈ ls, l.ok) : (midOf ls).length ≤ 50 * ls.length := by
  induction ls with
  | nil => simp
  | cons l r ih =>
    have := ih fun x hx => h x (.tail _ hx)
    have h2 := (h l (.head _)).2.1
    simp [midOf] at *
    omega
theorem quote_lines {ls : List Ln} (hok : ∀ l ∈ ls, l.ok) (hne : ls ≠ []) (hf : ls.length < 63) : gQuote [.v (.str (tx (rawOf ls)))] = some (.v (.str (tx (rawOf (ls.map Ln.up))))) := by
  have h1 := raw_len ls hok
  have h2 := mid_le ls hok
  exact quote_of (small_of (by rw [tx_len]; omega)) (sub2_top hok hne (by omega) (by omega)) (small_of (by rw [tx_len]; omega)) (sub1_top hok hne hf (by omega))
theorem inC7_of {c : Nat} : gInC7 [.v (.str (tx [c]))] = some (.v (.bool (setC7.contains (c : Int)))) := by
  show callF 0 fInC7 [.v (.str (tx [c]))] = _
  unfold callF fInC7
  rfl
theorem inB1_of {c : Nat} : gInB1 [.v (.str (tx [c]))] = some (.v (.bool (setB1.contains (c : Int)))) := by
  show callF 0 fInB1 [.v (.str (tx [c]))] = _
  unfold callF fInB1
  rfl
end Mine
end

section
set_option maxRecDepth 100000
set_option maxHeartbeats 2000000
set_option linter.unusedVariables false
open PySem PySem.W PyProof.Rows PySem.Calls PySem.Challenge
namespace Mine
theorem bind_to {α β : Type} {f : F α} {g : α → F β} {S S' : St} {a : α} {r : Option (β × St)} (h : f S = some (a, S')) (h2 : g a S' = r) : F.bind f g S = r := by
  show (match f S with | none => none | some (a, S') => g a S') = r
  rw [h]; exact h2
theorem seq_to {f g : F AFlow} {S S' : St} {r : Option (AFlow × St)} (h : f S = some (.next, S')) (h2 : g S' = r) : seqF f g S = r := bind_to h h2
theorem asg_to {f : F AV} {i : Nat} {S S' : St} {v : AV} (h : f S = some (v, S')) : (F.bind f fun v => F.bind (setVar i v) fun _ => F.pure AFlow.next) S = some (AFlow.next, { S' with m := S'.m.set i v }) := bind_to h rfl
theorem if_true {f : F Bool} {g h : F AFlow} {S S' : St} {r : Option (AFlow × St)} (e : f S = some (true, S')) (k : g S' = r) : (F.bind f fun v => match v with | true => g | false => h) S = r := bind_to e k
theorem if_false {f : F Bool} {g h : F AFlow} {S S' : St} {r : Option (AFlow × St)} (e : f S = some (false, S')) (k : h S' = r) : (F.bind f fun v => match v with | true => g | false => h) S = r := bind_to e k
theorem guard_to {β : Type} {b : Bool} {f : F β} {S : St} {r : Option (β × St)} (h : b = true) (k : f S = r) : guardF b f S = r := by
  subst h; exact k
theorem app_str {g : List DV → Option DV} {x : Str} {r : AV} {S : St} (hp : plain r = true) (h : g [.v (.str x)] = some (.v r)) : appF g [.str x] S = some (r, S) := by
  show (match g [.v (.str x)] with | some r => retD r S | none => none) = _
  rw [h]
  show (if plain r then F.pure r else F.fail) S = _
  rw [if_pos hp]; rfl
theorem item_back {rs : List Nat} {k c : Nat} (h : rs[k]? = some c) (hs : rs.length ≤ 1000) (S : St) : itemF (.str (tx rs.reverse)) (.int (-1 - (k : Int))) S = some (.str (tx [c]), S) := by
  have hk : k < rs.length := (List.getElem?_eq_some_iff.mp h).1
  have e : Txt.charAt (tx rs.reverse) (-1 - (k : Int)) = some c := by
    unfold Txt.charAt
    have e1 : seqIndex? (-1 - (k : Int)) (tx rs.reverse).length = some (rs.length - 1 - k) := by
      unfold seqIndex?
      have : (tx rs.reverse).length = rs.length := by simp [tx_len]
      rw [this]
      dsimp only
      rw [if_pos (show (-1 - (k : Int)) < 0 by omega), if_pos (by rw [Bool.and_eq_true, decide_eq_true_iff, decide_eq_true_iff]; omega)]
      congr 1
      omega
    rw [e1]
    show (rs.reverse.toArray)[rs.length - 1 - k]? = _
    rw [List.getElem?_toArray, List.getElem?_reverse (by omega)]
    rw [← h]; congr 1; omega
  refine guard_to ?_ ?_
  · rw [e]; unfold smallJ; simp; omega
  · unfold Txt.item; rw [e]; rfl
theorem pick3 {k : Nat} {a b c : AV} (S : St) (xs : List AO) (m : List AV) (z : Nat) :
    itemF (.ref (xs.length + 1)) (.int ((k : Int).fmod 3)) ⟨m, a0 :: (xs ++ [.list [a, b, c]]), z⟩ = some (if k % 3 = 0 then a else if k % 3 = 1 then b else c, ⟨m, a0 :: (xs ++ [.list [a, b, c]]), z⟩) := by
  have hk : k % 3 = 0 ∨ k % 3 = 1 ∨ k % 3 = 2 := by omega
  have e : ((k : Int).fmod 3) = ((k % 3 : Nat) : Int) := by rw [Int.fmod_eq_emod_of_nonneg _ (by omega)]; omega
  rw [e]
  show list1 (xs.length + 1) _ _ = _
  unfold list1
  have e2 : (a0 :: (xs ++ [AO.list [a, b, c]]))[xs.length + 1]? = some (.list [a, b, c]) := by simp
  rw [e2]
  rcases hk with h | h | h <;> rw [h] <;> rfl

noncomputable def mailBody : F AFlow := (seqF (F.bind (F.bind (getVar 0) fun v6 => F.bind (F.bind (F.bind (F.pure (.int 1)) negF) fun v9 => F.bind (getVar 2) fun v10 => subF v9 v10) fun v7 => itemF v6 v7) fun v5 => F.bind (setVar 3 v5) fun _ => F.pure .next) (seqF (F.bind (F.bind (F.bind (F.bind (F.bind (getVar 3) fun v11 => F.bind (F.pure []) fun v12 => F.pure (v11 :: v12)) (appF gInC7)) truF) fun v13 => F.pure !v13) fun v58 => match v58 with | true => (seqF (F.bind (F.bind (getVar 1) fun v14 => F.bind (typed "list" v14) fun _ => F.bind (F.bind (F.bind (F.bind (F.pure (.str ".")) fun v17 => F.bind (getVar 3) fun v18 => addF v17 v18) fun v31 => F.bind (F.bind (F.bind (F.bind (F.pure (.str "\n")) fun v23 => F.bind (F.bind (F.pure (.str "\r\n")) fun v21 => F.bind (F.bind (F.pure (.str "\r")) fun v19 => F.bind (F.pure []) fun v20 => F.pure (v19 :: v20)) fun v22 => F.pure (v21 :: v22)) fun v24 => F.pure (v23 :: v24)) fun v25 => newAt (.list v25)) fun v26 => F.bind (F.bind (getVar 2) fun v29 => F.bind (F.pure (.int 3)) fun v30 => modF v29 v30) fun v27 => itemF v26 v27) fun v32 => addF v31 v32) fun v33 => F.bind (F.pure []) fun v34 => F.pure (v33 :: v34)) fun v16 => appendM v14 v16) fun v35 => exprF v35) (F.pure .next)) | false => (seqF (F.bind (F.bind (F.bind (F.bind (getVar 1) fun v36 => F.bind (F.pure []) fun v37 => F.pure (v36 :: v37)) lenF) fun v38 => F.bind (F.pure (.int 1)) fun v39 => F.bind (gtF v38 v39) truF) fun v57 => match v57 with | true => (seqF (F.bind (F.bind (getVar 1) fun v41 => F.bind (typed "list" v41) fun _ => popM v41) fun v40 => F.bind (setVar 4 v40) fun _ => F.pure .next) (seqF (F.bind (F.bind (getVar 1) fun v44 => F.bind (typed "list" v44) fun _ => F.bind (F.bind (F.bind (F.bind (F.bind (getVar 4) fun v50 => F.bind (F.bind (getVar 1) fun v47 => F.bind (typed "list" v47) fun _ => popM v47) fun v51 => addF v50 v51) fun v52 => F.bind (F.pure []) fun v53 => F.pure (v52 :: v53)) (appF gQuote)) fun v54 => F.bind (F.pure []) fun v55 => F.pure (v54 :: v55)) fun v46 => appendM v44 v46) fun v56 => exprF v56) (F.pure .next))) | false => (F.pure .next)) (F.pure .next))) (F.pure .next)))
theorem fMail_eq : fMail = (seqF (F.bind (F.bind (F.pure []) fun v2 => newAt (.list v2)) fun v1 => F.bind (setVar 1 v1) fun _ => F.pure .next) (seqF (F.bind (F.bind (F.bind (F.bind (getVar 0) fun v3 => F.bind (F.pure []) fun v4 => F.pure (v3 :: v4)) lenF) srcRange) fun it59 => forF it59 (st1 2) mailBody 40 0) (seqF (F.bind (compF (F.bind (getVar 1) srcVal) 1 [] (st1 0) (F.pure true) (F.bind (F.bind (getVar 0) fun v60 => F.bind (F.pure []) fun v61 => F.pure (v60 :: v61)) (appF gQuote)) 40) fun v62 => F.pure (.ret v62)) (F.pure .next)))) := rfl
end Mine
end

section
set_option maxRecDepth 100000
set_option maxHeartbeats 2000000
set_option linter.unusedVariables false
open PySem PySem.W PyProof.Rows PySem.Calls PySem.Challenge
namespace Mine
noncomputable abbrev mailJ : AO := .list [.str "\n", .str "\r\n", .str "\r"]
theorem s_dot : ("." : Str) = tx [46] := by decide +kernel
theorem s_n : ("\n" : Str) = tx [10] := by decide +kernel
theorem s_r : ("\r" : Str) = tx [13] := by decide +kernel
theorem ends_if (k : Nat) : (if k % 3 = 0 then AV.str "\n" else if k % 3 = 1 then .str "\r\n" else .str "\r") = .str (tx (endsOf k)) := by
  unfold endsOf
  rw [s_n, s_r, s_crlf]
  split
  · rfl
  · split <;> rfl
theorem ends_len (k : Nat) : (endsOf k).length ≤ 2 := by
  unfold endsOf
  split
  · simp
  · split <;> simp
theorem add_str {x y : List Nat} {S : St} (h : x.length + y.length ≤ 1048576) : addF (.str (tx x)) (.str (tx y)) S = some (.str (tx (x ++ y)), S) := by
  refine guard_to (small_of h) ?_
  rw [tx_app]; rfl
theorem list1_to {β : Type} {i : Nat} {k : List AV → F β} {S : St} {xs : List AV} {r : Option (β × St)} (h : S.H[i]? = some (.list xs)) (h2 : k xs S = r) : list1 i k S = r := by
  unfold list1
  rw [h]; exact h2
theorem setList_to {i : Nat} {xs : List AV} {v : AV} {S : St} (hz : S.z ≤ i) : setList i xs v S = some (v, { S with H := S.H.set i (.list xs) }) := by
  unfold setList
  rw [Nat.ble_eq_true_of_le hz]
theorem append_to {i : Nat} {v : AV} {S : St} {xs : List AV} (h : S.H[i]? = some (.list xs)) (hz : S.z ≤ i) (hl : xs.length ≤ 1048576) : appendM (.ref i) [v] S = some (.none, { S with H := S.H.set i (.list (xs ++ [v])) }) :=
  list1_to h (guard_to (small_of hl) (setList_to hz))
theorem len_to {i : Nat} {S : St} {xs : List AV} (h : S.H[i]? = some (.list xs)) (hl : xs.length ≤ 1048576) : lenF [.ref i] S = some (.int xs.length, S) :=
  list1_to h (guard_to (small_of hl) rfl)
theorem mail_leaf {rs : List Nat} {k c : Nat} {s0 f0 : AV} {pile : List AV} {junk : List AO} (hk : rs[k]? = some c) (hs : rs.length ≤ 1000) (hC : setC7.contains (c : Int) = false) (hp : pile.length ≤ 1000) :
    mailBody ⟨[.str (tx rs.reverse), .ref 0, .int k, s0, f0], .list pile :: junk, 0⟩ = some (.next, ⟨[.str (tx rs.reverse), .ref 0, .int k, .str (tx [c]), f0], .list (pile ++ [.str (tx (46 :: c :: endsOf k))]) :: (junk ++ [mailJ]), 0⟩) := by
  have hc := ends_len k
  refine seq_to (asg_to (bind_to rfl (bind_to rfl (item_back hk hs _)))) ?_
  refine seq_to ?_ rfl
  refine if_true (S' := ⟨[.str (tx rs.reverse), .ref 0, .int k, .str (tx [c]), f0], .list pile :: junk, 0⟩) ?_ ?_
  · refine bind_to (a := false) ?_ rfl
    refine bind_to (bind_to rfl (app_str (r := .bool false) rfl (inC7_of.trans (by rw [hC])))) rfl
  refine seq_to ?_ rfl
  refine bind_to (a := .none) (S' := ⟨[.str (tx rs.reverse), .ref 0, .int k, .str (tx [c]), f0], .list (pile ++ [.str (tx (46 :: c :: endsOf k))]) :: (junk ++ [mailJ]), 0⟩) ?_ rfl
  refine bind_to rfl (bind_to rfl ?_)
  refine bind_to (a := [.str (tx (46 :: c :: endsOf k))]) (S' := ⟨[.str (tx rs.reverse), .ref 0, .int k, .str (tx [c]), f0], .list pile :: (junk ++ [mailJ]), 0⟩) ?_ ?_
  · refine bind_to ?_ rfl
    refine bind_to (a := .str (tx [46, c])) (S' := ⟨[.str (tx rs.reverse), .ref 0, .int k, .str (tx [c]), f0], .list pile :: junk, 0⟩) ?_ ?_
    · refine bind_to rfl (bind_to rfl ?_)
      rw [s_dot]
      exact add_str (by simp)
    · refine bind_to (a := .str (tx (endsOf k))) (S' := ⟨[.str (tx rs.reverse), .ref 0, .int k, .str (tx [c]), f0], .list pile :: (junk ++ [mailJ]), 0⟩) ?_ (add_str (by simp; omega))
      refine bind_to (a := .ref (junk.length + 1)) (S' := ⟨[.str (tx rs.reverse), .ref 0, .int k, .str (tx [c]), f0], .list pile :: (junk ++ [mailJ]), 0⟩) rfl ?_
      refine bind_to (a := .int ((k : Int).fmod 3)) rfl ?_
      rw [← ends_if]
      exact pick3 ⟨[], [], 0⟩ _ _ _
  · exact append_to (S := ⟨[.str (tx rs.reverse), .ref 0, .int k, .str (tx [c]), f0], .list pile :: (junk ++ [mailJ]), 0⟩) (xs := pile) rfl (Nat.le_refl 0) (by omega)
theorem pop_to {pile : List AV} {v : AV} {m : List AV} {junk : List AO} (hp : pile.length ≤ 1000) : popM (.ref 0) ⟨m, .list (pile ++ [v]) :: junk, 0⟩ = some (v, ⟨m, .list pile :: junk, 0⟩) := by
  unfold popM
  refine list1_to (xs := pile ++ [v]) rfl ?_
  refine guard_to (small_of (by simp; omega)) ?_
  have e : (pile ++ [v])[(pile ++ [v]).length - 1]? = some v := by simp
  rw [e]
  have e2 : (pile ++ [v]).eraseIdx ((pile ++ [v]).length - 1) = pile := by simp [List.eraseIdx_append_of_length_le]
  rw [e2]; rfl
theorem mail_pair {rs : List Nat} {k c : Nat} {s0 f0 : AV} {pile : List AV} {junk : List AO} {a b r : List Nat} (hk : rs[k]? = some c) (hs : rs.length ≤ 1000) (hC : setC7.contains (c : Int) = true) (hp : pile.length ≤ 900) (hab : a.length + b.length ≤ 1048576)
    (hq : gQuote [.v (.str (tx (b ++ a)))] = some (.v (.str (tx r)))) :
    mailBody ⟨[.str (tx rs.reverse), .ref 0, .int k, s0, f0], .list (pile ++ [.str (tx a), .str (tx b)]) :: junk, 0⟩ = some (.next, ⟨[.str (tx rs.reverse), .ref 0, .int k, .str (tx [c]), .str (tx b)], .list (pile ++ [.str (tx r)]) :: junk, 0⟩) := by
  have e0 : pile ++ [.str (tx a), .str (tx b)] = (pile ++ [.str (tx a)]) ++ [.str (tx b)] := by simp
  refine seq_to (asg_to (bind_to rfl (bind_to rfl (item_back hk hs _)))) ?_
  refine seq_to ?_ rfl
  refine if_false (S' := ⟨[.str (tx rs.reverse), .ref 0, .int k, .str (tx [c]), f0], .list (pile ++ [.str (tx a), .str (tx b)]) :: junk, 0⟩) ?_ ?_
  · refine bind_to (a := true) ?_ rfl
    refine bind_to (bind_to rfl (app_str (r := .bool true) rfl (inC7_of.trans (by rw [hC])))) rfl
  refine seq_to ?_ rfl
  refine if_true (S' := ⟨[.str (tx rs.reverse), .ref 0, .int k, .str (tx [c]), f0], .list (pile ++ [.str (tx a), .str (tx b)]) :: junk, 0⟩) ?_ ?_
  · refine bind_to (a := .int ((pile ++ [AV.str (tx a), AV.str (tx b)]).length : Nat)) (S' := ⟨[.str (tx rs.reverse), .ref 0, .int k, .str (tx [c]), f0], .list (pile ++ [.str (tx a), .str (tx b)]) :: junk, 0⟩) ?_ ?_
    · refine bind_to rfl ?_
      exact len_to rfl (by simp; omega)
    · refine bind_to rfl (bind_to rfl ?_)
      show some _ = _
      congr 2
      rw [decide_eq_true_iff]; simp; omega
  rw [e0]
  refine seq_to (asg_to (bind_to rfl (bind_to rfl (pop_to (by simp; omega))))) ?_
  refine seq_to ?_ rfl
  refine bind_to (a := .none) (S' := ⟨[.str (tx rs.reverse), .ref 0, .int k, .str (tx [c]), .str (tx b)], .list (pile ++ [.str (tx r)]) :: junk, 0⟩) ?_ rfl
  refine bind_to rfl (bind_to rfl ?_)
  refine bind_to (a := [.str (tx r)]) (S' := ⟨[.str (tx rs.reverse), .ref 0, .int k, .str (tx [c]), .str (tx b)], .list pile :: junk, 0⟩) ?_ ?_
  · refine bind_to ?_ rfl
    refine bind_to ?_ (app_str (r := .str _) rfl hq)
    refine bind_to ?_ rfl
    refine bind_to rfl (bind_to (a := .str (tx a)) (S' := ⟨[.str (tx rs.reverse), .ref 0, .int k, .str (tx [c]), .str (tx b)], .list pile :: junk, 0⟩) ?_ ?_)
    · exact bind_to rfl (bind_to rfl (pop_to (by omega)))
    · exact add_str (by omega)
  · exact append_to (S := ⟨[.str (tx rs.reverse), .ref 0, .int k, .str (tx [c]), .str (tx b)], .list pile :: junk, 0⟩) (xs := pile) rfl (Nat.le_refl 0) (by omega)
end Mine
end

section
set_option maxRecDepth 100000
set_option maxHeartbeats 2000000
set_option linter.unusedVariables false
open PySem PySem.W PyProof.Rows PySem.Calls PySem.Challenge
namespace Mine
/-- a tree of signs -/
inductive Tr where
  | leaf (c : Nat)
  | node (c : Nat) (l r : Tr)
noncomputable def Tr.code : Tr → List Nat
  | .leaf c => [c]
  | .node c l r => c :: (l.code ++ r.code)
noncomputable def Tr.size : Tr → Nat
  | .leaf _ => 1
  | .node _ l r => 1 + l.size + r.size
noncomputable def leafOk (c : Nat) : Bool := !setC7.contains (c : Int) && (c != 10 && c != 13 && c != 46) && Nat.blt c 1114112
noncomputable def Tr.ok : Tr → Prop
  | .leaf c => leafOk c = true
  | .node c l r => setC7.contains (c : Int) = true ∧ l.ok ∧ r.ok
noncomputable def Tr.lines : Tr → Nat → List Ln
  | .leaf c, k => [⟨1, c, k⟩]
  | .node _ l r, k => (l.lines (k + r.size) ++ r.lines k).map Ln.up
noncomputable def Tr.leaves : Tr → Nat → List (Nat × Nat)
  | .leaf c, d => [(d, c)]
  | .node _ l r, d => l.leaves (d + 1) ++ r.leaves (d + 1)
theorem Tr.code_len : ∀ t : Tr, t.code.length = t.size
  | .leaf _ => rfl
  | .node _ l r => by
    rw [Tr.code, Tr.size, List.length_cons, List.length_append, l.code_len, r.code_len]; omega
theorem Tr.size_pos : ∀ t : Tr, 0 < t.size
  | .leaf _ => Nat.one_pos
  | .node _ l r => by rw [Tr.size]; omega
theorem Tr.lines_len : ∀ (t : Tr) (k : Nat), (t.lines k).length ≤ t.size ∧ 0 < (t.lines k).length
  | .leaf _, _ => ⟨Nat.le_refl _, Nat.one_pos⟩
  | .node _ l r, k => by
    have h1 := l.lines_len (k + r.size)
    have h2 := r.lines_len k
    rw [Tr.lines, Tr.size, List.length_map, List.length_append]; omega
theorem leafOk_of {c : Nat} (h : leafOk c = true) : setC7.contains (c : Int) = false ∧ (c ≠ 10 ∧ c ≠ 13 ∧ c ≠ 46) ∧ c < 1114112 := by
  unfold leafOk at h
  simp only [Bool.and_eq_true, Bool.not_eq_true', bne_iff_ne, ne_eq] at h
  exact ⟨h.1.1, ⟨h.1.2.1.1, h.1.2.1.2, h.1.2.2⟩, Nat.ble_eq.mp h.2⟩
theorem Tr.lines_d : ∀ (t : Tr) (k : Nat), t.ok → ∀ l ∈ t.lines k, 0 < l.d ∧ l.d ≤ t.size ∧ l.c ≠ 10 ∧ l.c ≠ 13 ∧ l.c ≠ 46
  | .leaf c, k, h, l, hl => by
    rw [Tr.lines, List.mem_singleton] at hl
    subst hl
    exact ⟨Nat.one_pos, Nat.le_refl _, (leafOk_of h).2.1⟩
  | .node c l r, k, h, x, hx => by
    rw [Tr.lines, List.mem_map] at hx
    obtain ⟨y, hy, rfl⟩ := hx
    rw [Tr.size]
    have p1 := l.size_pos
    have p2 := r.size_pos
    rcases List.mem_append.mp hy with q | q
    · obtain ⟨a, b, c'⟩ := l.lines_d _ h.2.1 y q
      exact ⟨by simp only [Ln.up]; omega, by simp only [Ln.up]; omega, c'⟩
    · obtain ⟨a, b, c'⟩ := r.lines_d _ h.2.2 y q
      exact ⟨by simp only [Ln.up]; omega, by simp only [Ln.up]; omega, c'⟩
theorem Tr.lines_ok {t : Tr} (k : Nat) (h : t.ok) (hs : t.size < 40) : ∀ l ∈ t.lines k, l.ok := fun l hl => by
  obtain ⟨h1, h2, h3⟩ := t.lines_d k h l hl
  exact ⟨h1, by omega, h3⟩

theorem for_step {item : ItemF} {st : Item → F Unit} {b : F AFlow} {n k : Nat} {S S₁ S₂ : St} {x : Item} (hi : item k S.H = some (some x)) (hs : st x S = some ((), S₁)) (hb : b S₁ = some (.next, S₂)) :
    forF item st b (n + 1) k S = forF item st b n (k + 1) S₂ := by
  conv => lhs; unfold forF
  rw [hi]
  exact bind_to hs (bind_to hb rfl)
theorem for_end {item : ItemF} {st : Item → F Unit} {b : F AFlow} {n k : Nat} {S : St} (hi : item k S.H = some none) : forF item st b (n + 1) k S = some (.next, S) := by
  conv => lhs; unfold forF
  rw [hi]
theorem range_item {N k : Nat} (h : k < N) (H : List AO) : seqItem (rangeItems N) k H = some (some (.one (.int (k : Int)))) := by
  unfold seqItem rangeItems
  simp [h]
theorem range_none {N k : Nat} (h : N ≤ k) (H : List AO) : seqItem (rangeItems N) k H = some none := by
  unfold seqItem rangeItems
  simp [h]
theorem mail_tree {rs : List Nat} (hs : rs.length ≤ 39) : ∀ (t : Tr) (k n : Nat) (pile : List AV) (junk : List AO) (m2 m3 m4 : AV) (rest : List Nat), t.ok → rs.drop k = t.code.reverse ++ rest → pile.length + t.size ≤ 100 →
    ∃ junk' m2' m3' m4', forF (seqItem (rangeItems rs.length)) (st1 2) mailBody (n + t.size) k ⟨[.str (tx rs.reverse), .ref 0, m2, m3, m4], .list pile :: junk, 0⟩ =
      forF (seqItem (rangeItems rs.length)) (st1 2) mailBody n (k + t.size) ⟨[.str (tx rs.reverse), .ref 0, m2', m3', m4'], .list (pile ++ [.str (tx (rawOf (t.lines k)))]) :: junk', 0⟩
  | .leaf c, k, n, pile, junk, m2, m3, m4, rest, hok, hd, hp => by
    have hk : rs[k]? = some c := by
      have : (rs.drop k)[0]? = some c := by rw [hd]; rfl
      rw [List.getElem?_drop] at this; exact this
    have hlt := (List.getElem?_eq_some_iff.mp hk).1
    have h := mail_leaf (rs := rs) (k := k) (c := c) (s0 := m3) (f0 := m4) (pile := pile) (junk := junk) hk (by omega) (leafOk_of hok).1 (by rw [Tr.size] at hp; omega)
    have e : rawOf (Tr.lines (.leaf c) k) = 46 :: c :: endsOf k := by simp [Tr.lines, rawOf]
    rw [e]
    have s3 := for_step (item := seqItem (rangeItems rs.length)) (st := st1 2) (b := mailBody) (n := n) (k := k) (S := ⟨[.str (tx rs.reverse), .ref 0, m2, m3, m4], .list pile :: junk, 0⟩) (range_item hlt _) rfl h
    exact ⟨_, _, _, _, s3⟩
  | .node c l r, k, n, pile, junk, m2, m3, m4, rest, hok, hd, hp => by
    have hlen : l.size + r.size + 1 ≤ rs.length := by
      have := congrArg List.length hd
      simp [Tr.code_len, Tr.size] at this
      omega
    rw [Tr.size] at hp ⊢
    have hd1 : rs.drop k = r.code.reverse ++ (l.code.reverse ++ (c :: rest)) := by rw [hd, Tr.code]; simp
    have hd2 : rs.drop (k + r.size) = l.code.reverse ++ (c :: rest) := by
      rw [← List.drop_drop, hd1, List.drop_append_of_le_length (by simp [Tr.code_len])]
      rw [List.drop_of_length_le (by simp [Tr.code_len])]; rfl
    have hd3 : rs.drop (k + r.size + l.size) = c :: rest := by
      rw [← List.drop_drop, hd2, List.drop_append_of_le_length (by simp [Tr.code_len])]
      rw [List.drop_of_length_le (by simp [Tr.code_len])]; rfl
    have hk : rs[k + r.size + l.size]? = some c := by
      have : (rs.drop (k + r.size + l.size))[0]? = some c := by rw [hd3]; rfl
      rw [List.getElem?_drop] at this; exact this
    have hlt := (List.getElem?_eq_some_iff.mp hk).1
    obtain ⟨j1, a2, a3, a4, e1⟩ := mail_tree hs r k (n + 1 + l.size) pile junk m2 m3 m4 _ hok.2.2 hd1 (by omega)
    obtain ⟨j2, b2, b3, b4, e2⟩ := mail_tree hs l (k + r.size) (n + 1) (pile ++ [.str (tx (rawOf (r.lines k)))]) j1 a2 a3 a4 _ hok.2.1 hd2 (by simp; omega)
    have q : gQuote [.v (.str (tx (rawOf (l.lines (k + r.size)) ++ rawOf (r.lines k))))] = some (.v (.str (tx (rawOf (Tr.lines (.node c l r) k))))) := by
      have e : rawOf (l.lines (k + r.size)) ++ rawOf (r.lines k) = rawOf (l.lines (k + r.size) ++ r.lines k) := by simp [rawOf]
      rw [e]
      have p1 := l.lines_len (k + r.size)
      have p2 := r.lines_len k
      have p3 := l.size_pos
      have p4 := r.size_pos
      refine quote_lines (fun x hx => ?_) (fun h => ?_) (by simp; omega)
      · rcases List.mem_append.mp hx with h | h
        · exact l.lines_ok _ hok.2.1 (by omega) x h
        · exact r.lines_ok _ hok.2.2 (by omega) x h
      · have := congrArg List.length h
        rw [List.length_append, List.length_nil] at this; omega
    have w1 := raw_len (l.lines (k + r.size)) (l.lines_ok _ hok.2.1 (by omega))
    have w2 := raw_len (r.lines k) (r.lines_ok _ hok.2.2 (by omega))
    have p1 := l.lines_len (k + r.size)
    have p2 := r.lines_len k
    have h := mail_pair (rs := rs) (k := k + r.size + l.size) (c := c) (s0 := b3) (f0 := b4) (pile := pile) (junk := j2) hk (by omega) hok.1 (by omega) (by omega) q
    have s3 := for_step (item := seqItem (rangeItems rs.length)) (st := st1 2) (b := mailBody) (n := n) (k := k + r.size + l.size) (S := ⟨[.str (tx rs.reverse), .ref 0, b2, b3, b4], .list (pile ++ [AV.str (tx (rawOf (r.lines k))), AV.str (tx (rawOf (l.lines (k + r.size))))]) :: j2, 0⟩) (range_item hlt _) rfl h
    suffices hh : ∃ junk' m2' m3' m4', forF (seqItem (rangeItems rs.length)) (st1 2) mailBody (n + 1) (k + r.size + l.size) ⟨[.str (tx rs.reverse), .ref 0, b2, b3, b4], .list (pile ++ [AV.str (tx (rawOf (r.lines k))), AV.str (tx (rawOf (l.lines (k + r.size))))]) :: j2, 0⟩ = forF (seqItem (rangeItems rs.length)) (st1 2) mailBody n (k + r.size + l.size + 1) ⟨[.str (tx rs.reverse), .ref 0, m2', m3', m4'], .list (pile ++ [.str (tx (rawOf (Tr.lines (.node c l r) k)))]) :: junk', 0⟩ by
      obtain ⟨z1, z2, z3, z4, hz⟩ := hh
      refine ⟨z1, z2, z3, z4, ?_⟩
      rw [show n + (1 + l.size + r.size) = n + 1 + l.size + r.size by omega, e1, e2, show k + (1 + l.size + r.size) = k + r.size + l.size + 1 by omega]
      rw [show pile ++ [AV.str (tx (rawOf (r.lines k)))] ++ [.str (tx (rawOf (l.lines (k + r.size))))] = pile ++ [.str (tx (rawOf (r.lines k))), .str (tx (rawOf (l.lines (k + r.size))))] by simp]
      exact hz
    exact ⟨_, _, _, _, s3⟩
end Mine
end

section
set_option maxRecDepth 100000
set_option maxHeartbeats 2000000
set_option linter.unusedVariables false
open PySem PySem.W PyProof.Rows PySem.Calls PySem.Challenge
namespace Mine
noncomputable def Tr.due (t : Tr) : List Nat := (t.leaves 0).flatMap fun p => List.replicate (p.1 + 2) 46 ++ [p.2, 13, 10]
theorem Tr.lines_leaves : ∀ (t : Tr) (k j : Nat), (t.lines k).map (fun l => (l.d + j, l.c)) = (t.leaves j).map fun p => (p.1 + 1, p.2)
  | .leaf c, k, j => by simp [Tr.lines, Tr.leaves]; omega
  | .node c l r, k, j => by
    have h1 := l.lines_leaves (k + r.size) (j + 1)
    have h2 := r.lines_leaves k (j + 1)
    rw [Tr.lines, Tr.leaves, List.map_map, List.map_append, List.map_append, ← h1, ← h2]
    have e : ((fun l : Ln => (l.d + j, l.c)) ∘ Ln.up) = fun l : Ln => (l.d + (j + 1), l.c) := by
      funext l
      simp [Ln.up]; omega
    rw [e]
theorem Tr.leaves_low : ∀ (t : Tr) (j : Nat), t.ok → ∀ p ∈ t.leaves j, p.2 < 1114112
  | .leaf c, j, h, p, hp => by
    rw [Tr.leaves, List.mem_singleton] at hp
    subst hp
    exact (leafOk_of h).2.2
  | .node c l r, j, h, p, hp => by
    rw [Tr.leaves] at hp
    rcases List.mem_append.mp hp with q | q
    · exact l.leaves_low _ h.2.1 p q
    · exact r.leaves_low _ h.2.2 p q
theorem Tr.due_ok (t : Tr) (h : t.ok) : PyData.strOk (tx t.due) = true := by
  show (tx t.due).cps.all (· < 0x110000) = true
  rw [Array.all_eq_true_iff_forall_mem]
  intro c hc
  rw [decide_eq_true_iff]
  have hc' : c ∈ t.due := by simpa using hc
  unfold Tr.due at hc'
  rw [List.mem_flatMap] at hc'
  obtain ⟨p, hp, hm⟩ := hc'
  have := t.leaves_low 0 h p hp
  simp at hm
  omega
theorem Tr.raw_due (t : Tr) (k : Nat) : rawOf ((t.lines k).map Ln.up) = t.due := by
  have h := t.lines_leaves k 0
  have e1 : rawOf ((t.lines k).map Ln.up) = ((t.lines k).map fun l => (l.d + 0, l.c)).flatMap fun p => List.replicate (p.1 + 1) 46 ++ [p.2, 13, 10] := by
    generalize t.lines k = ls
    induction ls with
    | nil => rfl
    | cons l r ih =>
      rw [List.map_cons, List.map_cons, List.flatMap_cons, ← ih]
      simp [rawOf, Ln.up, Ln.raw, endsOf]
  rw [e1, h]
  unfold Tr.due
  generalize t.leaves 0 = ls
  induction ls with
  | nil => rfl
  | cons p r ih => rw [List.map_cons, List.flatMap_cons, List.flatMap_cons, ih]
theorem srcRange_int {n : Int} {S : St} (hd : decide (-(2 ^ 40) ≤ n ∧ n < 2 ^ 40) = true) : srcRange (.int n) S = some (seqItem (rangeItems n.toNat), S) := by
  rw [srcRange.eq_1]
  rw [hd]
  rfl
theorem srcRange_to {N : Nat} {S : St} (h : N ≤ 1000000) : srcRange (.int (N : Int)) S = some (seqItem (rangeItems N), S) := by
  have hd : decide (-(2 ^ 40) ≤ (N : Int) ∧ (N : Int) < 2 ^ 40) = true := by rw [decide_eq_true_iff]; omega
  have := srcRange_int (S := S) hd
  rw [Int.toNat_natCast] at this
  exact this
theorem new_to {o : AO} {S : St} (h : o.items.length ≤ 1048576) : newAt o S = some (.ref S.H.length, { S with H := S.H ++ [o] }) := by
  unfold newAt
  rw [Nat.ble_eq_true_of_le h]
theorem loopC_add {item : ItemF} {st : Item → F Unit} {test : F Bool} {elt : F AV} {D n k : Nat} {S S₁ S₂ S₃ S₄ : St} {x : Item} {v : AV} (hi : item k S.H = some (some x)) (hs : st x S = some ((), S₁)) (ht : test S₁ = some (true, S₂)) (he : elt S₂ = some (v, S₃)) (ha : appendF D v S₃ = some ((), S₄)) :
    loopC item st test elt D (n + 1) k S = loopC item st test elt D n (k + 1) S₄ := by
  conv => lhs; unfold loopC
  rw [hi]
  exact bind_to hs (bind_to ht (bind_to he (bind_to ha rfl)))
theorem loopC_skip {item : ItemF} {st : Item → F Unit} {test : F Bool} {elt : F AV} {D n k : Nat} {S S₁ S₂ : St} {x : Item} (hi : item k S.H = some (some x)) (hs : st x S = some ((), S₁)) (ht : test S₁ = some (false, S₂)) :
    loopC item st test elt D (n + 1) k S = loopC item st test elt D n (k + 1) S₂ := by
  conv => lhs; unfold loopC
  rw [hi]
  exact bind_to hs (bind_to ht rfl)
theorem loopC_end {item : ItemF} {st : Item → F Unit} {test : F Bool} {elt : F AV} {D n k : Nat} {S : St} (hi : item k S.H = some none) : loopC item st test elt D (n + 1) k S = some ((), S) := by
  conv => lhs; unfold loopC
  rw [hi]
theorem appendF_to {D : Nat} {v : AV} {S : St} {xs : List AV} (h : S.H[D]? = some (.list xs)) (hz : S.z ≤ D) (hl : xs.length ≤ 1048576) : appendF D v S = some ((), { S with H := S.H.set D (.list (xs ++ [v])) }) := by
  unfold appendF
  rw [h]
  dsimp only
  rw [Nat.ble_eq_true_of_le hz, Nat.ble_eq_true_of_le hl]
theorem compF_to {src : F ItemF} {nl : Nat} {caps : List Nat} {st : Item → F Unit} {test : F Bool} {elt : F AV} {n : Nat} {S S₁ S₂ : St} {item : ItemF} (hs : src S = some (item, S₁))
    (hl : loopC item st test elt S₁.H.length n 0 ⟨List.replicate nl .unb ++ caps.map (fun i => (S₁.m[i]?).getD .unb), S₁.H ++ [.list []], S₁.z⟩ = some ((), S₂)) : compF src nl caps st test elt n S = some (.ref S₁.H.length, { S₁ with H := S₂.H }) := by
  unfold compF
  refine bind_to hs (bind_to (new_to (Nat.zero_le _)) ?_)
  dsimp only
  rw [List.length_append, List.length_singleton, Nat.add_sub_cancel, hl]
theorem len_str {x : Str} {S : St} (h : x.length ≤ 1048576) : lenF [.str x] S = some (.int x.length, S) := guard_to (small_of h) rfl
theorem mail_of (t : Tr) (h : t.ok) (hs : t.size ≤ 39) : gMail [.v (.str (tx t.code))] = some (.list [.str (tx t.due)]) := by
  have hl : t.code.length = t.size := t.code_len
  obtain ⟨j, a2, a3, a4, e⟩ := mail_tree (rs := t.code.reverse) (by simp [hl]; omega) t 0 (40 - t.size) [] [] .unb .unb .unb [] h (by simp) (by simp; omega)
  rw [List.reverse_reverse, List.length_reverse, hl, Nat.zero_add] at e
  have e2 : forF (seqItem (rangeItems t.size)) (st1 2) mailBody 40 0 ⟨[.str (tx t.code), .ref 0, .unb, .unb, .unb], [.list []], 0⟩ = some (.next, ⟨[.str (tx t.code), .ref 0, a2, a3, a4], .list [.str (tx (rawOf (t.lines 0)))] :: j, 0⟩) := by
    rw [show 40 - t.size + t.size = 40 by omega] at e
    rw [e]
    obtain ⟨n, hn⟩ : ∃ n, 40 - t.size = n + 1 := ⟨39 - t.size, by omega⟩
    rw [hn]
    exact for_end (range_none (Nat.le_refl _) _)
  have q : gQuote [.v (.str (tx (rawOf (t.lines 0))))] = some (.v (.str (tx t.due))) := by
    rw [← t.raw_due 0]
    have p := t.lines_len 0
    exact quote_lines (t.lines_ok 0 h (by omega)) (fun q => by rw [q] at p; simp at p) (by omega)
  have e3 : fMail ⟨[.str (tx t.code), .unb, .unb, .unb, .unb], [], 0⟩ = some (.ret (.ref (j.length + 1)), ⟨[.str (tx t.code), .ref 0, a2, a3, a4], .list [.str (tx (rawOf (t.lines 0)))] :: (j ++ [.list [.str (tx t.due)]]), 0⟩) := by
    rw [fMail_eq]
    refine seq_to (S' := ⟨[.str (tx t.code), .ref 0, .unb, .unb, .unb], [.list []], 0⟩) rfl ?_
    refine seq_to (S' := ⟨[.str (tx t.code), .ref 0, a2, a3, a4], .list [.str (tx (rawOf (t.lines 0)))] :: j, 0⟩) ?_ ?_
    · refine bind_to (a := seqItem (rangeItems t.size)) (S' := ⟨[.str (tx t.code), .ref 0, .unb, .unb, .unb], [.list []], 0⟩) ?_ e2
      have hr := srcRange_to (N := t.size) (S := ⟨[.str (tx t.code), .ref 0, .unb, .unb, .unb], [.list []], 0⟩) (by omega)
      refine bind_to ?_ hr
      refine bind_to rfl ?_
      rw [← hl]
      exact len_str (by rw [tx_len]; omega)
    · refine bind_to (a := .ret (.ref (j.length + 1))) (S' := ⟨[.str (tx t.code), .ref 0, a2, a3, a4], .list [.str (tx (rawOf (t.lines 0)))] :: (j ++ [.list [.str (tx t.due)]]), 0⟩) ?_ rfl
      refine bind_to (a := .ref (j.length + 1)) ?_ rfl
      refine compF_to (S₁ := ⟨[.str (tx t.code), .ref 0, a2, a3, a4], .list [.str (tx (rawOf (t.lines 0)))] :: j, 0⟩) (S₂ := ⟨[.str (tx (rawOf (t.lines 0)))], .list [.str (tx (rawOf (t.lines 0)))] :: (j ++ [.list [.str (tx t.due)]]), 0⟩) (item := itemList 0) ?_ ?_
      · rfl
      refine (loopC_add (S₁ := ⟨[.str (tx (rawOf (t.lines 0)))], .list [.str (tx (rawOf (t.lines 0)))] :: (j ++ [.list []]), 0⟩) rfl rfl rfl (bind_to rfl (app_str (r := .str _) rfl q)) (appendF_to (xs := []) (by simp) (Nat.zero_le _) (Nat.zero_le _))).trans ?_
      refine (loopC_end rfl).trans ?_
      simp
  show callF 4 fMail [.v (.str (tx t.code))] = _
  unfold callF
  show (match fMail ⟨[.str (tx t.code), .unb, .unb, .unb, .unb], [], 0⟩ with
    | some (.ret v, S') => back 0 S'.H v
    | some (.next, _) => some (.v .none)
    | _ => none) = _
  rw [e3]
  show back 0 (.list [.str (tx (rawOf (t.lines 0)))] :: (j ++ [.list [.str (tx t.due)]])) (.ref (j.length + 1)) = _
  unfold back
  dsimp only
  rw [Nat.ble_eq_true_of_le (Nat.zero_le _)]
  have e4 : (AO.list [.str (tx (rawOf (t.lines 0)))] :: (j ++ [AO.list [.str (tx t.due)]]))[j.length + 1]? = some (.list [.str (tx t.due)]) := by simp
  rw [e4]
  rfl
end Mine
end

section
set_option maxRecDepth 100000
set_option maxHeartbeats 2000000
set_option linter.unusedVariables false
open PySem PySem.W PyProof.Rows PySem.Calls PySem.Challenge
namespace Mine
noncomputable def seqs : List (F AFlow) → F AFlow → F AFlow
  | [], l => l
  | f :: r, l => seqF f (seqs r l)
theorem seqs_run {l : List (F AFlow)} {last : F AFlow} : ∀ {S S' : St}, seqs l (F.pure .next) S = some (.next, S') → seqs l last S = last S' := by
  induction l with
  | nil => intro S S' h; cases h; rfl
  | cons f r ih =>
    intro S S' h
    obtain ⟨fl, S₁, e1, e2⟩ := bind_some h
    cases fl with
    | next => exact seq_to e1 (ih e2)
    | brk => cases e2
    | cont => cases e2
    | ret v => cases e2

noncomputable def agS1 : F AFlow := (F.bind (F.bind (F.bind (getVar 0) fun v2 => F.bind (F.pure []) fun v3 => F.pure (v2 :: v3)) (appF gWord)) fun v1 => F.bind (setVar 3 v1) fun _ => F.pure .next)
noncomputable def agS2 : F AFlow := (F.bind (F.bind (F.bind (getVar 3) fun v4 => F.bind (F.pure .none) fun v5 => F.bind (isF v4 v5) truF) fun v9 => match v9 with | true => F.pure true | false => (F.bind (F.bind (F.bind (F.bind (getVar 0) fun v6 => F.bind (F.pure []) fun v7 => F.pure (v6 :: v7)) (appF gIsTree)) truF) fun v8 => F.pure !v8)) fun v17 => match v17 with | true => (seqF (F.bind (F.bind (F.bind (getVar 3) fun v10 => F.bind (F.pure .none) fun v11 => isF v10 v11) fun v14 => F.bind (truF v14) fun v15 => match v15 with | false => F.pure v14 | true => (F.bind (F.bind (F.bind (getVar 0) fun v12 => F.bind (F.pure []) fun v13 => F.pure (v12 :: v13)) (appF gIsTree)) notF)) fun v16 => F.pure (.ret v16)) (F.pure .next)) | false => (F.pure .next))
noncomputable def agS3 : F AFlow := (F.bind (F.pure (.str "")) fun v18 => F.bind (setVar 4 v18) fun _ => F.pure .next)
noncomputable def agS4 : F AFlow := (F.bind (F.bind (F.pure []) fun v20 => newAt (.list v20)) fun v19 => F.bind (setVar 5 v19) fun _ => F.pure .next)
noncomputable def agS5 : F AFlow := (F.bind (F.pure (.str "")) fun v21 => F.bind (setVar 6 v21) fun _ => F.pure .next)
noncomputable def agS6 : F AFlow := (F.bind (F.bind (getVar 3) srcEnum) fun it69 => forF it69 (st2 7 8) (seqF (F.bind (F.bind (getVar 8) fun v22 => F.bind (F.pure (.str ")")) fun v23 => F.bind ((eqF false) v22 v23) truF) fun v51 => match v51 with | true => (seqF (F.bind (F.bind (getVar 5) fun v24 => F.bind (typed "list" v24) fun _ => F.bind (F.bind (F.bind (F.bind (getVar 4) fun v27 => F.bind (F.pure []) fun v28 => F.pure (v27 :: v28)) (appF gCheck)) fun v29 => F.bind (F.pure []) fun v30 => F.pure (v29 :: v30)) fun v26 => appendM v24 v26) fun v31 => exprF v31) (seqF (F.bind (F.bind (getVar 6) fun v40 => F.bind (F.bind (getVar 2) fun v33 => F.bind (F.bind (F.bind (F.bind (getVar 5) fun v36 => F.bind (F.pure []) fun v37 => F.pure (v36 :: v37)) lenF) fun v38 => F.bind (F.pure (.int 1)) fun v39 => subF v38 v39) fun v34 => itemF v33 v34) fun v41 => addF v40 v41) fun v32 => F.bind (setVar 6 v32) fun _ => F.pure .next) (F.pure .next))) | false => (seqF (F.bind (F.bind (getVar 6) fun v49 => F.bind (F.bind (F.bind (F.bind (F.pure (.int 12272)) fun v45 => F.bind (F.bind (getVar 7) fun v43 => F.bind (F.pure (.int 12)) fun v44 => modF v43 v44) fun v46 => addF v45 v46) fun v47 => F.bind (F.pure []) fun v48 => F.pure (v47 :: v48)) chrF) fun v50 => addF v49 v50) fun v42 => F.bind (setVar 6 v42) fun _ => F.pure .next) (F.pure .next))) (seqF (F.bind (F.bind (F.bind (getVar 4) fun v65 => F.bind (F.bind (F.bind (F.bind (F.pure (.str "\\(")) fun v57 => F.bind (F.bind (F.pure (.str "\")\"")) fun v55 => F.bind (F.bind (F.pure (.str "")) fun v53 => F.bind (F.pure []) fun v54 => F.pure (v53 :: v54)) fun v56 => F.pure (v55 :: v56)) fun v58 => F.pure (v57 :: v58)) fun v59 => newAt (.list v59)) fun v60 => F.bind (F.bind (getVar 7) fun v63 => F.bind (F.pure (.int 3)) fun v64 => modF v63 v64) fun v61 => itemF v60 v61) fun v66 => addF v65 v66) fun v67 => F.bind (getVar 8) fun v68 => addF v67 v68) fun v52 => F.bind (setVar 4 v52) fun _ => F.pure .next) (F.pure .next))) 40 0)
noncomputable def agS7 : F AFlow := (F.bind (compF (F.bind (getVar 0) fun v71 => F.bind (getVar 2) fun v72 => srcZip v71 v72) 2 [] (st2 0 1) (F.pure true) (F.bind (F.bind (F.bind (F.pure (.str ".")) fun v75 => F.bind (F.bind (getVar 0) fun v73 => F.bind (F.pure (.int 2)) fun v74 => addF v73 v74) fun v76 => mulF v75 v76) fun v77 => F.bind (getVar 1) fun v78 => addF v77 v78) fun v79 => F.bind (F.pure (.str "\r\n")) fun v80 => addF v79 v80) 40) fun v70 => F.bind (setVar 9 v70) fun _ => F.pure .next)
noncomputable def agA : F AV := (F.bind (getVar 5) fun v95 => F.bind (F.bind (F.bind (F.bind (F.bind (F.pure (.bool false)) fun v81 => F.bind (F.pure []) fun v82 => F.pure (v81 :: v82)) fun v83 => newAt (.list v83)) fun v88 => F.bind (F.bind (F.bind (F.bind (getVar 0) fun v84 => F.bind (F.pure []) fun v85 => F.pure (v84 :: v85)) lenF) fun v86 => F.bind (F.pure (.int 1)) fun v87 => subF v86 v87) fun v89 => mulF v88 v89) fun v93 => F.bind (F.bind (F.bind (F.pure (.bool true)) fun v90 => F.bind (F.pure []) fun v91 => F.pure (v90 :: v91)) fun v92 => newAt (.list v92)) fun v94 => addF v93 v94) fun v96 => (eqF false) v95 v96)
noncomputable def agB : F AV := (F.bind (F.bind (F.bind (F.bind (getVar 1) fun v97 => F.bind (truF v97) fun v98 => match v98 with | true => F.pure v97 | false => (getVar 6)) fun v99 => F.bind (F.pure []) fun v100 => F.pure (v99 :: v100)) (appF gMail)) fun v109 => F.bind (F.bind (F.bind (F.bind (F.pure (.str "")) fun v101 => F.bind (typed "str" v101) fun _ => F.bind (F.bind (getVar 9) fun v104 => F.bind (F.pure []) fun v105 => F.pure (v104 :: v105)) fun v103 => joinM v101 v103) fun v106 => F.bind (F.pure []) fun v107 => F.pure (v106 :: v107)) fun v108 => newAt (.list v108)) fun v110 => (eqF false) v109 v110)
noncomputable def agLast : F AFlow := seqF (F.bind (F.bind agA fun v111 => F.bind (truF v111) fun v112 => match v112 with | false => F.pure v111 | true => agB) fun v113 => F.pure (.ret v113)) (F.pure .next)
theorem fAgrees_eq : fAgrees = seqs [agS1, agS2, agS3, agS4, agS5, agS6, agS7] agLast := rfl
/-- what is looked at behind the loop -/
noncomputable abbrev Obs := AV × AV × AV × AV × List AV
noncomputable def obsA (S : St) : Option Obs := match seqs [agS1, agS2, agS3, agS4, agS5, agS6, agS7] (F.pure .next) S with
  | some (.next, S) => match agA S with
    | some (b, S') => match (S'.m[9]?).getD .unb with
      | .ref j => match S'.H[j]? with
        | some (.list due) => some (b, (S'.m[1]?).getD .unb, (S'.m[6]?).getD .unb, .ref j, due)
        | _ => none
      | _ => none
    | none => none
  | _ => none
noncomputable abbrev agSt (row : List AV) (sg nm : Str) : St := ⟨[.ref 0, .str sg, .str nm, .unb, .unb, .unb, .unb, .unb, .unb, .unb], [.list row], 1⟩

end Mine
end

section
set_option maxRecDepth 100000
set_option maxHeartbeats 2000000
set_option linter.unusedVariables false
open PySem PySem.W PyProof.Rows PySem.Calls PySem.Challenge
namespace Mine
theorem strs_map : ∀ ds : List (List Nat), strs? (ds.map fun l => AV.str (tx l)) = some (ds.map tx)
  | [] => rfl
  | d :: r => by
    show (strs? (r.map fun l => AV.str (tx l))).map (tx d :: ·) = _
    rw [strs_map r]; rfl
theorem s_empty : ("" : Str) = tx [] := by decide +kernel
theorem join_to {S : St} {j : Nat} {ds : List (List Nat)} (h : S.H[j]? = some (.list (ds.map fun l => AV.str (tx l)))) (hl : ds.flatten.length ≤ 1048576) : joinM (.str "") [.ref j] S = some (.str (tx ds.flatten), S) := by
  refine list1_to h ?_
  rw [strs_map]
  dsimp only
  refine guard_to ?_ ?_
  · have e : ((ds.map tx).map (·.length)).sum + (ds.map tx).length * ("" : Str).length = ds.flatten.length := by
      rw [List.length_flatten, List.map_map, s_empty]
      show (ds.map List.length).sum + (ds.map tx).length * 0 = _
      rw [Nat.mul_zero]; rfl
    rw [e]; exact small_of hl
  · rw [s_empty, join_cps]; rfl
theorem agB_to {S : St} {sg made : Str} {j : Nat} {ds : List (List Nat)} {t : Tr} (h1 : (S.m[1]?).getD .unb = .str sg) (h6 : (S.m[6]?).getD .unb = .str made) (h9 : (S.m[9]?).getD .unb = .ref j) (hj : S.H[j]? = some (.list (ds.map fun l => AV.str (tx l))))
    (ht : t.ok) (hs : t.size ≤ 39) (hx : sg = tx t.code ∨ (sg = tx [] ∧ made = tx t.code)) (hd : ds.flatten = t.due) (hl : t.due.length ≤ 1048576) : ∃ S', agB S = some (.bool true, S') := by
  have g1 : getVar 1 S = some (.str sg, S) := by unfold getVar; rw [h1]
  have g6 : getVar 6 S = some (.str made, S) := by unfold getVar; rw [h6]
  have hp : ∀ S₁ : St, S₁ = { S with H := S.H ++ [.list [.str (tx t.due)]] } → getVar 9 S₁ = some (.ref j, S₁) := fun S₁ e => by subst e; unfold getVar; rw [h9]
  have hjl : j < S.H.length := (List.getElem?_eq_some_iff.mp hj).1
  refine ⟨{ S with H := S.H ++ [.list [.str (tx t.due)]] ++ [.list [.str (tx t.due)]] }, ?_⟩
  refine bind_to (a := .ref S.H.length) (S' := { S with H := S.H ++ [.list [.str (tx t.due)]] }) ?_ ?_
  · refine bind_to (a := [.str (tx t.code)]) (S' := S) ?_ ?_
    · refine bind_to (a := .str (tx t.code)) (S' := S) ?_ rfl
      refine bind_to g1 ?_
      rcases hx with rfl | ⟨rfl, rfl⟩
      · refine bind_to (a := true) (S' := S) ?_ rfl
        refine guard_to (small_of (by rw [tx_len, t.code_len]; omega)) ?_
        have : ((tx t.code).length : Int) != 0 := by
          have := t.size_pos
          rw [tx_len, t.code_len, bne_iff_ne]; omega
        rw [this]; rfl
      · exact bind_to (a := false) (S' := S) rfl g6
    · show (match gMail [.v (.str (tx t.code))] with | some r => retD r S | none => none) = _
      rw [mail_of t ht hs]
      exact new_to (o := .list [.str (tx t.due)]) (by simp [AO.items])
  · refine bind_to (a := .ref (S.H.length + 1)) (S' := { S with H := S.H ++ [.list [.str (tx t.due)]] ++ [.list [.str (tx t.due)]] }) ?_ ?_
    · refine bind_to (a := [.str (tx t.due)]) (S' := { S with H := S.H ++ [.list [.str (tx t.due)]] }) ?_ ?_
      · refine bind_to (a := .str (tx t.due)) (S' := { S with H := S.H ++ [.list [.str (tx t.due)]] }) ?_ rfl
        refine bind_to rfl (bind_to rfl ?_)
        refine bind_to (bind_to (hp _ rfl) rfl) ?_
        rw [← hd]
        refine join_to ?_ (by rw [hd]; exact hl)
        show (S.H ++ _)[j]? = _
        rw [List.getElem?_append_left hjl, hj]
      · have := new_to (o := .list [.str (tx t.due)]) (S := { S with H := S.H ++ [.list [.str (tx t.due)]] }) (by simp [AO.items])
        refine this.trans ?_
        simp
    · show lists2 S.H.length (S.H.length + 1) (fun xs ys => guardF (xs.all flat && ys.all flat && alikes xs ys) (F.pure (.bool (false != decide (xs = ys))))) _ = _
      unfold lists2
      have e1 : (S.H ++ [AO.list [.str (tx t.due)]] ++ [AO.list [.str (tx t.due)]])[S.H.length]? = some (.list [.str (tx t.due)]) := by simp
      have e2 : (S.H ++ [AO.list [.str (tx t.due)]] ++ [AO.list [.str (tx t.due)]])[S.H.length + 1]? = some (.list [.str (tx t.due)]) := by simp
      dsimp only
      rw [e1, e2]
      dsimp only
      refine guard_to ?_ ?_
      · show ((PyData.strOk (tx t.due) && true) && (PyData.strOk (tx t.due) && true) && true) = true
        rw [t.due_ok ht]; rfl
      · show some (AV.bool (false != decide _), _) = _
        rw [decide_eq_true rfl]; rfl
theorem agrees_of {row : List AV} {sg nm made : Str} {j : Nat} {ds : List (List Nat)} {t : Tr} (ho : obsA (agSt row sg nm) = some (.bool true, .str sg, .str made, .ref j, ds.map fun l => AV.str (tx l)))
    (ht : t.ok) (hs : t.size ≤ 39) (hx : sg = tx t.code ∨ (sg = tx [] ∧ made = tx t.code)) (hd : ds.flatten = t.due) (hl : t.due.length ≤ 1048576) :
    gAgrees [.list row, .v (.str sg), .v (.str nm)] = some (.v (.bool true)) := by
  unfold obsA at ho
  split at ho
  · rename_i S e
    split at ho
    · rename_i b S' e1
      split at ho
      · rename_i j' e2
        split at ho
        · rename_i due e3
          rw [Option.some.injEq, Prod.mk.injEq, Prod.mk.injEq, Prod.mk.injEq, Prod.mk.injEq] at ho
          obtain ⟨rfl, h1, h6, h9, rfl⟩ := ho
          cases h9
          obtain ⟨S2, e4⟩ := agB_to h1 h6 e2 e3 ht hs hx hd hl
          have e5 : fAgrees (agSt row sg nm) = some (.ret (.bool true), S2) := by
            rw [fAgrees_eq, seqs_run e]
            refine bind_to (a := .ret (.bool true)) (S' := S2) ?_ rfl
            refine bind_to (a := .bool true) (S' := S2) ?_ rfl
            refine bind_to e1 ?_
            exact bind_to (a := true) (S' := S') rfl e4
          show (match fAgrees (agSt row sg nm) with
            | some (.ret v, S') => back 1 S'.H v
            | some (.next, _) => some (.v .none)
            | _ => none) = _
          rw [e5]; rfl
        · cases ho
      · cases ho
    · cases ho
  · cases ho
end Mine
end

section
set_option maxRecDepth 100000
set_option maxHeartbeats 2000000
set_option linter.unusedVariables false
open PySem PySem.W PyProof.Rows PySem.Calls PySem.Challenge
namespace Mine
noncomputable def drS1 : F AFlow := (F.bind (F.bind (F.bind (F.bind (F.pure (.int 173)) fun v22 => F.bind (F.bind (F.pure (.int 847)) fun v20 => F.bind (F.bind (F.pure (.int 6150)) fun v18 => F.bind (F.bind (F.pure (.int 6155)) fun v16 => F.bind (F.bind (F.pure (.int 6156)) fun v14 => F.bind (F.bind (F.pure (.int 6157)) fun v12 => F.bind (F.bind (F.pure (.int 8203)) fun v10 => F.bind (F.bind (F.pure (.int 8204)) fun v8 => F.bind (F.bind (F.pure (.int 8205)) fun v6 => F.bind (F.bind (F.pure (.int 8288)) fun v4 => F.bind (F.bind (F.pure (.int 65279)) fun v2 => F.bind (F.pure []) fun v3 => F.pure (v2 :: v3)) fun v5 => F.pure (v4 :: v5)) fun v7 => F.pure (v6 :: v7)) fun v9 => F.pure (v8 :: v9)) fun v11 => F.pure (v10 :: v11)) fun v13 => F.pure (v12 :: v13)) fun v15 => F.pure (v14 :: v15)) fun v17 => F.pure (v16 :: v17)) fun v19 => F.pure (v18 :: v19)) fun v21 => F.pure (v20 :: v21)) fun v23 => F.pure (v22 :: v23)) fun v24 => newAt (.list v24)) fun v27 => F.bind (F.bind (F.pure (.int 65024)) fun v25 => F.bind (F.pure (.int 65040)) fun v26 => listRangeF v25 v26) fun v28 => addF v27 v28) fun v1 => F.bind (setVar 1 v1) fun _ => F.pure .next)
noncomputable def drS2 : F AFlow := (F.bind (F.bind (F.bind (F.pure (.str "a")) fun v48 => F.bind (F.bind (F.pure (.str "b")) fun v46 => F.bind (F.bind (F.bind (F.bind (F.pure (.int 255)) fun v30 => F.bind (F.pure []) fun v31 => F.pure (v30 :: v31)) chrF) fun v44 => F.bind (F.bind (F.bind (F.bind (F.pure (.int 256)) fun v32 => F.bind (F.pure []) fun v33 => F.pure (v32 :: v33)) chrF) fun v42 => F.bind (F.bind (F.bind (F.bind (F.pure (.int 12271)) fun v34 => F.bind (F.pure []) fun v35 => F.pure (v34 :: v35)) chrF) fun v40 => F.bind (F.bind (F.bind (F.bind (F.pure (.int 12284)) fun v36 => F.bind (F.pure []) fun v37 => F.pure (v36 :: v37)) chrF) fun v38 => F.bind (F.pure []) fun v39 => F.pure (v38 :: v39)) fun v41 => F.pure (v40 :: v41)) fun v43 => F.pure (v42 :: v43)) fun v45 => F.pure (v44 :: v45)) fun v47 => F.pure (v46 :: v47)) fun v49 => F.pure (v48 :: v49)) fun v50 => newAt (.list v50)) fun v29 => F.bind (setVar 2 v29) fun _ => F.pure .next)
noncomputable def drS3 : F AFlow := (F.bind (F.bind (F.bind (F.pure (.int 55)) fun v62 => F.bind (F.bind (F.pure (.int 3)) fun v60 => F.bind (F.bind (F.pure (.int 0)) fun v58 => F.bind (F.bind (F.pure (.int 18)) fun v56 => F.bind (F.bind (F.pure (.int 5)) fun v54 => F.bind (F.bind (F.pure (.int 1)) fun v52 => F.bind (F.pure []) fun v53 => F.pure (v52 :: v53)) fun v55 => F.pure (v54 :: v55)) fun v57 => F.pure (v56 :: v57)) fun v59 => F.pure (v58 :: v59)) fun v61 => F.pure (v60 :: v61)) fun v63 => F.pure (v62 :: v63)) fun v64 => newAt (.list v64)) fun v51 => F.bind (setVar 3 v51) fun _ => F.pure .next)
noncomputable def drS4 : F AFlow := (F.bind (F.pure (.str "")) fun v65 => F.bind (setVar 4 v65) fun _ => F.bind (setVar 5 v65) fun _ => F.bind (setVar 6 v65) fun _ => F.pure .next)
noncomputable def drS5 : F AFlow := (F.bind (F.pure (.int 1)) fun v66 => F.bind (setVar 7 v66) fun _ => F.pure .next)
noncomputable def drB1 : F AFlow := (F.bind (F.bind (F.bind (getVar 3) fun v68 => F.bind (getVar 8) fun v69 => itemF v68 v69) fun v82 => F.bind (F.bind (F.bind (F.bind (F.bind (getVar 0) fun v71 => F.bind (getVar 8) fun v72 => F.bind (F.bind (getVar 8) fun v74 => F.bind (F.pure (.int 1)) fun v75 => addF v74 v75) fun v73 => sliceF v71 v72 v73) fun v76 => F.bind (F.pure []) fun v77 => F.pure (v76 :: v77)) sumF) fun v80 => F.bind (F.bind (F.pure (.int 10)) fun v78 => F.bind (F.pure (.int 6)) fun v79 => powF v78 v79) fun v81 => modF v80 v81) fun v83 => addF v82 v83) fun v67 => F.bind (setVar 9 v67) fun _ => F.pure .next)
noncomputable def drB2 : F AFlow := (F.bind (F.bind (getVar 9) fun v85 => F.bind (F.pure (.int 5)) fun v86 => divF v85 v86) fun v84 => F.bind (setVar 10 v84) fun _ => F.pure .next)
noncomputable def drB3 : F AFlow := (F.bind (F.bind (F.bind (getVar 7) fun v87 => F.bind (F.pure (.int 0)) fun v88 => F.bind (gtF v87 v88) truF) fun v93 => match v93 with | false => F.pure false | true => (F.bind (F.bind (getVar 10) fun v89 => F.bind (F.pure (.int 2)) fun v90 => modF v89 v90) fun v91 => F.bind (F.pure (.int 1)) fun v92 => F.bind ((eqF false) v91 v92) truF)) fun v106 => match v106 with | true => (seqF (F.bind (F.bind (getVar 4) fun v104 => F.bind (F.bind (F.bind (F.bind (getVar 1) fun v95 => F.bind (F.bind (F.bind (getVar 10) fun v98 => F.bind (F.pure (.int 2)) fun v99 => divF v98 v99) fun v100 => F.bind (F.pure (.int 27)) fun v101 => modF v100 v101) fun v96 => itemF v95 v96) fun v102 => F.bind (F.pure []) fun v103 => F.pure (v102 :: v103)) chrF) fun v105 => addF v104 v105) fun v94 => F.bind (setVar 4 v94) fun _ => F.pure .next) (F.pure .next)) | false => (F.pure .next))
noncomputable def drB4 : F AFlow := (F.bind (F.bind (F.bind (getVar 7) fun v107 => F.bind (F.pure (.int 0)) fun v108 => F.bind (gtF v107 v108) truF) fun v113 => match v113 with | false => F.pure false | true => (F.bind (F.bind (getVar 9) fun v109 => F.bind (F.pure (.int 5)) fun v110 => modF v109 v110) fun v111 => F.bind (F.pure (.int 3)) fun v112 => F.bind (ltF v111 v112) truF)) fun v154 => match v154 with | true => (seqF (F.bind (F.bind (getVar 4) fun v121 => F.bind (F.bind (F.bind (F.bind (F.pure (.int 12272)) fun v117 => F.bind (F.bind (getVar 10) fun v115 => F.bind (F.pure (.int 12)) fun v116 => modF v115 v116) fun v118 => addF v117 v118) fun v119 => F.bind (F.pure []) fun v120 => F.pure (v119 :: v120)) chrF) fun v122 => addF v121 v122) fun v114 => F.bind (setVar 4 v114) fun _ => F.pure .next) (seqF (F.bind (F.bind (getVar 5) fun v124 => F.bind (F.pure (.str "(")) fun v125 => addF v124 v125) fun v123 => F.bind (setVar 5 v123) fun _ => F.pure .next) (seqF (F.bind (F.bind (getVar 7) fun v127 => F.bind (F.pure (.int 1)) fun v128 => addF v127 v128) fun v126 => F.bind (setVar 7 v126) fun _ => F.pure .next) (F.pure .next)))) | false => (seqF (F.bind (F.bind (getVar 7) fun v129 => F.bind (F.pure (.int 0)) fun v130 => F.bind (gtF v129 v130) truF) fun v153 => match v153 with | true => (seqF (F.bind (F.bind (getVar 4) fun v137 => F.bind (F.bind (getVar 2) fun v132 => F.bind (F.bind (getVar 10) fun v135 => F.bind (F.pure (.int 6)) fun v136 => modF v135 v136) fun v133 => itemF v132 v133) fun v138 => addF v137 v138) fun v131 => F.bind (setVar 4 v131) fun _ => F.pure .next) (seqF (F.bind (F.bind (getVar 6) fun v145 => F.bind (F.bind (getVar 2) fun v140 => F.bind (F.bind (getVar 10) fun v143 => F.bind (F.pure (.int 6)) fun v144 => modF v143 v144) fun v141 => itemF v140 v141) fun v146 => addF v145 v146) fun v139 => F.bind (setVar 6 v139) fun _ => F.pure .next) (seqF (F.bind (F.bind (getVar 5) fun v148 => F.bind (F.pure (.str ")")) fun v149 => addF v148 v149) fun v147 => F.bind (setVar 5 v147) fun _ => F.pure .next) (seqF (F.bind (F.bind (getVar 7) fun v151 => F.bind (F.pure (.int 1)) fun v152 => subF v151 v152) fun v150 => F.bind (setVar 7 v150) fun _ => F.pure .next) (F.pure .next))))) | false => (F.pure .next)) (F.pure .next)))
noncomputable def drBody : F AFlow := seqs [drB1, drB2, drB3, drB4] (F.pure .next)
noncomputable def drS7 : F AFlow := (F.bind (F.bind (F.bind (F.bind (getVar 4) fun v158 => F.bind (F.bind (F.pure (.str "z")) fun v156 => F.bind (getVar 7) fun v157 => mulF v156 v157) fun v159 => addF v158 v159) fun v172 => F.bind (F.bind (F.bind (getVar 5) fun v162 => F.bind (F.bind (F.pure (.str ")")) fun v160 => F.bind (getVar 7) fun v161 => mulF v160 v161) fun v163 => addF v162 v163) fun v170 => F.bind (F.bind (F.bind (getVar 6) fun v166 => F.bind (F.bind (F.pure (.str "z")) fun v164 => F.bind (getVar 7) fun v165 => mulF v164 v165) fun v167 => addF v166 v167) fun v168 => F.bind (F.pure []) fun v169 => F.pure (v168 :: v169)) fun v171 => F.pure (v170 :: v171)) fun v173 => F.pure (v172 :: v173)) fun v174 => newAt (.tup v174)) fun v175 => F.pure (.ret v175))
noncomputable def drS6 : F AFlow := F.bind (F.bind (F.pure (.int 6)) srcRange) fun it => forF it (st1 8) drBody 40 0
theorem fDraw_eq : fDraw = seqs [drS1, drS2, drS3, drS4, drS5, drS6, drS7] (F.pure .next) := rfl
noncomputable def nothingL : List AV := [173, 847, 6150, 6155, 6156, 6157, 8203, 8204, 8205, 8288, 65279, 65024, 65025, 65026, 65027, 65028, 65029, 65030, 65031, 65032, 65033, 65034, 65035, 65036, 65037, 65038, 65039].map .int
noncomputable def leavesL : List AV := [97, 98, 255, 256, 12271, 12284].map fun c => .str (tx [c])
noncomputable def baseL : List AV := [55, 3, 0, 18, 5, 1].map .int
noncomputable abbrev drH (sc : List AV) (junk : List AO) : List AO := .list sc :: .list (nothingL.take 11) :: .list (nothingL.drop 11) :: .list nothingL :: .list leavesL :: .list baseL :: junk
noncomputable abbrev drM (T W N : List Nat) (L : Int) (k x y : AV) : List AV := [.ref 0, .ref 3, .ref 4, .ref 5, .str (tx T), .str (tx W), .str (tx N), .int L, k, x, y]
theorem dr_start (sc : List AV) : seqs [drS1, drS2, drS3, drS4, drS5] (F.pure .next) ⟨[.ref 0, .unb, .unb, .unb, .unb, .unb, .unb, .unb, .unb, .unb, .unb], [.list sc], 1⟩ = some (.next, ⟨drM [] [] [] 1 .unb .unb .unb, drH sc [], 1⟩) := by
  kernel_rfl
end Mine
end

section
set_option maxRecDepth 100000
set_option maxHeartbeats 2000000
set_option linter.unusedVariables false
open PySem PySem.W PyProof.Rows PySem.Calls PySem.Challenge
namespace Mine
theorem ints_all : ∀ {l : List AV}, (∀ v ∈ l, ∃ i, v = AV.int i) → ∃ ns, ints? l = some ns
  | [], _ => ⟨[], rfl⟩
  | v :: r, h => by
    obtain ⟨i, rfl⟩ := h v (.head _)
    obtain ⟨ns, e⟩ := ints_all (l := r) fun x hx => h x (.tail _ hx)
    refine ⟨i :: ns, ?_⟩
    show (ints? r).map (i :: ·) = _
    rw [e]; rfl
theorem slice_ints (sc : List Int) (lo hi : Option Int) : ∃ ns, ints? (sliceL (sc.map .int) lo hi) = some ns := by
  refine ints_all fun v hv => ?_
  unfold sliceL at hv
  rw [List.mem_filterMap] at hv
  obtain ⟨k, _, e⟩ := hv
  rw [List.getElem?_map] at e
  cases h : sc[k]? with
  | none => rw [h] at e; cases e
  | some i => rw [h] at e; cases e; exact ⟨i, rfl⟩
theorem pow_mil (S : St) : powF (.int 10) (.int 6) S = some (.int 1000000, S) := by kernel_rfl
theorem mod_to {a b : Int} {S : St} (h : smallI b = true) : modF (.int a) (.int b) S = some (.int (a.fmod b), S) := guard_to h rfl
theorem div_to {a b : Int} {S : St} (h : smallI b = true) : divF (.int a) (.int b) S = some (.int (a.fdiv b), S) := guard_to h rfl
theorem fmod_nat (a b : Nat) : ((a : Int).fmod (b : Int)) = ((a % b : Nat) : Int) := by
  rw [Int.fmod_eq_emod_of_nonneg _ (by omega)]; rfl
theorem fdiv_nat (a b : Nat) : ((a : Int).fdiv (b : Int)) = ((a / b : Nat) : Int) := by
  rw [Int.fdiv_eq_ediv_of_nonneg _ (by omega)]; rfl
theorem item_to {r i : Nat} {S : St} {xs : List AV} {v : AV} (h : S.H[r]? = some (.list xs)) (hv : xs[i]? = some v) (hi : i ≤ 1000) : itemF (.ref r) (.int (i : Int)) S = some (v, S) := by
  refine list1_to h ?_
  refine guard_to (by unfold smallJ; rw [decide_eq_true_iff]; omega) ?_
  have : pick xs (i : Int) = some v := by
    unfold pick
    rw [if_pos (by omega), Int.toNat_natCast, hv]
  rw [this]; rfl
theorem slice_len (xs : List AV) (a b : Int) : (sliceL xs (some a) (some b)).length ≤ xs.length := by
  unfold sliceL
  refine Nat.le_trans (List.length_filterMap_le _ _) ?_
  refine sliceRange_length_le _ _ _ _ (fun _ => ?_) (fun h => absurd (show (sliceBounds (some a) (some b) none xs.length).2.2 > 0 from by show (1 : Int) > 0; omega) h)
  have e : (1 : Int) > 0 := by omega
  simp only [sliceBounds, Option.getD_none, if_pos e]
  omega
theorem sum_slice {sc : List Int} {S : St} {a b : Int} (h : S.H[0]? = some (.list (sc.map .int))) (hl : sc.length ≤ 1000) (fa fb : F AV) (ha : fa S = some (.int a, S)) (hb : fb S = some (.int b, S)) (h0 : getVar 0 S = some (.ref 0, S)) :
    ∃ (s : Int) (sl : List AV), (F.bind (F.bind (F.bind (getVar 0) fun v71 => F.bind fa fun v72 => F.bind fb fun v73 => sliceF v71 v72 v73) fun v76 => F.bind (F.pure []) fun v77 => F.pure (v76 :: v77)) sumF) S = some (.int s, { S with H := S.H ++ [.list sl] }) := by
  obtain ⟨ns, e⟩ := slice_ints sc (some a) (some b)
  refine ⟨ns.sum, sliceL (sc.map .int) (some a) (some b), ?_⟩
  have hlen : S.H.length ≠ 0 := by
    intro h'
    rw [List.length_eq_zero_iff.mp h'] at h; cases h
  refine bind_to (a := [.ref S.H.length]) (S' := { S with H := S.H ++ [.list (sliceL (sc.map .int) (some a) (some b))] }) ?_ ?_
  · refine bind_to (a := .ref S.H.length) (S' := { S with H := S.H ++ [.list (sliceL (sc.map .int) (some a) (some b))] }) ?_ rfl
    refine bind_to h0 (bind_to ha (bind_to hb ?_))
    show list1 0 (fun xs => guardF (small xs.length) (newAt (.list (sliceL xs (some a) (some b))))) S = _
    refine list1_to h (guard_to (small_of (by simp; omega)) ?_)
    refine new_to ?_
    show (sliceL (sc.map .int) (some a) (some b)).length ≤ _
    have := slice_len (sc.map AV.int) a b
    simp at this ⊢; omega
  · show intsF S.H.length (fun ns => F.pure (.int ns.sum)) _ = _
    unfold intsF
    refine list1_to (xs := sliceL (sc.map .int) (some a) (some b)) (by simp) ?_
    rw [e]; rfl
end Mine
end

section
set_option maxRecDepth 100000
set_option maxHeartbeats 2000000
set_option linter.unusedVariables false
open PySem PySem.W PyProof.Rows PySem.Calls PySem.Challenge
namespace Mine
theorem base_at {k : Nat} (hk : k < 6) : ∃ b : Nat, baseL[k]? = some (.int (b : Int)) := by
  have : k = 0 ∨ k = 1 ∨ k = 2 ∨ k = 3 ∨ k = 4 ∨ k = 5 := by omega
  rcases this with rfl | rfl | rfl | rfl | rfl | rfl
  · exact ⟨55, rfl⟩
  · exact ⟨3, rfl⟩
  · exact ⟨0, rfl⟩
  · exact ⟨18, rfl⟩
  · exact ⟨5, rfl⟩
  · exact ⟨1, rfl⟩
variable {sc : List Int} {junk : List AO} {T W N : List Nat} {L : Nat} {k X Y : Nat} {x y : AV}
theorem dr1 (hk : k < 6) (hl : sc.length ≤ 1000) : ∃ (X : Nat) (sl : List AV), drB1 ⟨drM T W N L (.int k) x y, drH (sc.map .int) junk, 1⟩ = some (.next, ⟨drM T W N L (.int k) (.int (X : Int)) y, drH (sc.map .int) (junk ++ [.list sl]), 1⟩) := by
  obtain ⟨b, hb⟩ := base_at hk
  obtain ⟨s, sl, e⟩ := sum_slice (sc := sc) (S := ⟨drM T W N L (.int k) x y, drH (sc.map .int) junk, 1⟩) (a := (k : Int)) (b := (k : Int) + 1) rfl hl (getVar 8) (F.bind (getVar 8) fun v74 => F.bind (F.pure (.int 1)) fun v75 => addF v74 v75) rfl rfl rfl
  have h0 : 0 ≤ s.fmod 1000000 := Int.fmod_nonneg_of_pos _ (by omega)
  refine ⟨b + (s.fmod 1000000).toNat, sl, ?_⟩
  have hx : ((b + (s.fmod 1000000).toNat : Nat) : Int) = (b : Int) + s.fmod 1000000 := by omega
  rw [hx]
  refine asg_to (S' := ⟨drM T W N L (.int k) x y, drH (sc.map .int) (junk ++ [.list sl]), 1⟩) ?_
  refine bind_to (a := .int (b : Int)) (S' := ⟨drM T W N L (.int k) x y, drH (sc.map .int) junk, 1⟩) ?_ ?_
  · refine bind_to rfl (bind_to rfl ?_)
    exact item_to rfl hb (by omega)
  · refine bind_to (a := .int (s.fmod 1000000)) (S' := ⟨drM T W N L (.int k) x y, drH (sc.map .int) (junk ++ [.list sl]), 1⟩) ?_ rfl
    refine bind_to e ?_
    refine bind_to (bind_to rfl (bind_to rfl (pow_mil _))) ?_
    exact mod_to (by decide +kernel)
theorem dr2 : drB2 ⟨drM T W N L (.int k) (.int (X : Int)) y, drH (sc.map .int) junk, 1⟩ = some (.next, ⟨drM T W N L (.int k) (.int (X : Int)) (.int ((X / 5 : Nat) : Int)), drH (sc.map .int) junk, 1⟩) := by
  refine asg_to (S' := ⟨drM T W N L (.int k) (.int (X : Int)) y, drH (sc.map .int) junk, 1⟩) ?_
  refine bind_to rfl (bind_to rfl ?_)
  rw [← fdiv_nat X 5]
  exact div_to (by decide +kernel)
theorem nothing_at {i : Nat} (hi : i < 27) : ∃ b : Nat, nothingL[i]? = some (.int (b : Int)) ∧ setB1.contains (b : Int) = true ∧ b ≤ 0x10FFFF := by
  have key : ∀ i < 27, ∃ b : Nat, b < 70000 ∧ nothingL[i]? = some (.int (b : Int)) ∧ setB1.contains (b : Int) = true := by
    intro i hi
    refine ⟨([173, 847, 6150, 6155, 6156, 6157, 8203, 8204, 8205, 8288, 65279, 65024, 65025, 65026, 65027, 65028, 65029, 65030, 65031, 65032, 65033, 65034, 65035, 65036, 65037, 65038, 65039] : List Nat).getD i 0, ?_⟩
    revert i
    decide +kernel
  obtain ⟨b, h1, h2, h3⟩ := key i hi
  exact ⟨b, h2, h3, by omega⟩
theorem leaves_at {i : Nat} (hi : i < 6) : ∃ c : Nat, leavesL[i]? = some (.str (tx [c])) ∧ leafOk c = true ∧ setB1.contains (c : Int) = false := by
  have : i = 0 ∨ i = 1 ∨ i = 2 ∨ i = 3 ∨ i = 4 ∨ i = 5 := by omega
  rcases this with rfl | rfl | rfl | rfl | rfl | rfl
  · exact ⟨97, rfl, by decide +kernel, by decide +kernel⟩
  · exact ⟨98, rfl, by decide +kernel, by decide +kernel⟩
  · exact ⟨255, rfl, by decide +kernel, by decide +kernel⟩
  · exact ⟨256, rfl, by decide +kernel, by decide +kernel⟩
  · exact ⟨12271, rfl, by decide +kernel, by decide +kernel⟩
  · exact ⟨12284, rfl, by decide +kernel, by decide +kernel⟩
theorem pair_at {i : Nat} (hi : i < 12) : setC7.contains ((12272 + i : Nat) : Int) = true ∧ setB1.contains ((12272 + i : Nat) : Int) = false := by
  have key : ∀ i < 12, setC7.contains ((12272 + i : Nat) : Int) = true ∧ setB1.contains ((12272 + i : Nat) : Int) = false := by decide +kernel
  exact key i hi
theorem chr_to {b : Nat} {S : St} (h : b ≤ 0x10FFFF) : chrF [.int (b : Int)] S = some (.str (tx [b]), S) := by
  refine guard_to (by rw [decide_eq_true_iff]; omega) ?_
  rfl
theorem pos_test {S : St} (h : (S.m[7]?).getD .unb = .int (L : Int)) : (F.bind (getVar 7) fun v87 => F.bind (F.pure (.int 0)) fun v88 => F.bind (gtF v87 v88) truF) S = some (decide (0 < L), S) := by
  have g : getVar 7 S = some (.int (L : Int), S) := by unfold getVar; rw [h]
  refine bind_to g (bind_to rfl (bind_to rfl ?_))
  show some (decide ((L : Int) > 0), S) = _
  congr 2
  exact decide_eq_decide.mpr (by omega)
theorem dr3 (hT : T.length ≤ 1000) : ∃ T', (T' = T ∨ ∃ b, setB1.contains ((b : Nat) : Int) = true ∧ T' = T ++ [b]) ∧
    drB3 ⟨drM T W N L (.int k) (.int (X : Int)) (.int (Y : Int)), drH (sc.map .int) junk, 1⟩ = some (.next, ⟨drM T' W N L (.int k) (.int (X : Int)) (.int (Y : Int)), drH (sc.map .int) junk, 1⟩) := by
  by_cases hc : 0 < L ∧ Y % 2 = 1
  · obtain ⟨b, h1, h2, h3⟩ := nothing_at (i := Y / 2 % 27) (by omega)
    refine ⟨T ++ [b], .inr ⟨b, h2, rfl⟩, ?_⟩
    refine if_true (S' := ⟨drM T W N L (.int k) (.int (X : Int)) (.int (Y : Int)), drH (sc.map .int) junk, 1⟩) ?_ ?_
    · refine bind_to (pos_test (L := L) rfl) ?_
      rw [decide_eq_true hc.1]
      refine bind_to (a := .int ((Y % 2 : Nat) : Int)) (S' := ⟨drM T W N L (.int k) (.int (X : Int)) (.int (Y : Int)), drH (sc.map .int) junk, 1⟩) ?_ ?_
      · refine bind_to rfl (bind_to rfl ?_)
        rw [← fmod_nat Y 2]
        exact mod_to (by decide +kernel)
      · rw [hc.2]; rfl
    · refine seq_to ?_ rfl
      refine asg_to (S' := ⟨drM T W N L (.int k) (.int (X : Int)) (.int (Y : Int)), drH (sc.map .int) junk, 1⟩) ?_
      refine bind_to (a := .str (tx T)) (S' := ⟨drM T W N L (.int k) (.int (X : Int)) (.int (Y : Int)), drH (sc.map .int) junk, 1⟩) rfl ?_
      refine bind_to (a := .str (tx [b])) (S' := ⟨drM T W N L (.int k) (.int (X : Int)) (.int (Y : Int)), drH (sc.map .int) junk, 1⟩) ?_ (add_str (by simp; omega))
      refine bind_to ?_ (chr_to h3)
      refine bind_to ?_ rfl
      refine bind_to (a := .ref 3) (S' := ⟨drM T W N L (.int k) (.int (X : Int)) (.int (Y : Int)), drH (sc.map .int) junk, 1⟩) rfl (bind_to (a := .int ((Y / 2 % 27 : Nat) : Int)) (S' := ⟨drM T W N L (.int k) (.int (X : Int)) (.int (Y : Int)), drH (sc.map .int) junk, 1⟩) ?_ (item_to rfl h1 (by omega)))
      refine bind_to (a := .int ((Y / 2 : Nat) : Int)) (S' := ⟨drM T W N L (.int k) (.int (X : Int)) (.int (Y : Int)), drH (sc.map .int) junk, 1⟩) ?_ (bind_to rfl ?_)
      · refine bind_to rfl (bind_to rfl ?_)
        rw [← fdiv_nat Y 2]
        exact div_to (by decide +kernel)
      · rw [← fmod_nat (Y / 2) 27]
        exact mod_to (by decide +kernel)
  · refine ⟨T, .inl rfl, ?_⟩
    refine if_false (S' := ⟨drM T W N L (.int k) (.int (X : Int)) (.int (Y : Int)), drH (sc.map .int) junk, 1⟩) ?_ rfl
    refine bind_to (pos_test (L := L) rfl) ?_
    by_cases hp : 0 < L
    · rw [decide_eq_true hp]
      refine bind_to (a := .int ((Y % 2 : Nat) : Int)) (S' := ⟨drM T W N L (.int k) (.int (X : Int)) (.int (Y : Int)), drH (sc.map .int) junk, 1⟩) ?_ ?_
      · refine bind_to rfl (bind_to rfl ?_)
        rw [← fmod_nat Y 2]
        exact mod_to (by decide +kernel)
      · have : Y % 2 = 0 := by omega
        rw [this]; rfl
    · rw [decide_eq_false hp]; rfl
end Mine
end

section
set_option maxRecDepth 100000
set_option maxHeartbeats 2000000
set_option linter.unusedVariables false
open PySem PySem.W PyProof.Rows PySem.Calls PySem.Challenge
namespace Mine
theorem s_open : ("(" : Str) = tx [40] := by decide +kernel
theorem s_close : (")" : Str) = tx [41] := by decide +kernel
theorem s_z : ("z" : Str) = tx [122] := by decide +kernel
noncomputable abbrev drS (sc : List Int) (junk : List AO) (T W N : List Nat) (L : Int) (k X Y : Nat) : St := ⟨drM T W N L (.int k) (.int (X : Int)) (.int (Y : Int)), drH (sc.map .int) junk, 1⟩
/-- what a turn does to word and number of leaves that lack -/
inductive Step1 : List Nat × List Nat × List Nat × Nat → List Nat × List Nat × List Nat × Nat → Prop
  | pair {T W N : List Nat} {L : Nat} (c : Nat) (h : 0 < L) (hc : setC7.contains (c : Int) = true) (hb : setB1.contains (c : Int) = false) : Step1 (T, W, N, L) (T ++ [c], W ++ [40], N, L + 1)
  | leaf {T W N : List Nat} {L : Nat} (c : Nat) (h : 0 < L) (hc : leafOk c = true) (hb : setB1.contains (c : Int) = false) : Step1 (T, W, N, L) (T ++ [c], W ++ [41], N ++ [c], L - 1)
  | stay {T W N : List Nat} : Step1 (T, W, N, 0) (T, W, N, 0)
variable {sc : List Int} {junk : List AO} {T W N : List Nat} {L : Nat} {k X Y : Nat} {x y : AV}
theorem str_to {i : Nat} {l : List Nat} {S : St} (h : (S.m[i]?).getD .unb = .str (tx l)) : getVar i S = some (.str (tx l), S) := by unfold getVar; rw [h]
theorem int_to {i : Nat} {l : Int} {S : St} (h : (S.m[i]?).getD .unb = .int l) : getVar i S = some (.int l, S) := by unfold getVar; rw [h]
theorem dr4 (hT : T.length ≤ 1000) (hW : W.length ≤ 1000) (hN : N.length ≤ 1000) : ∃ (T' W' N' : List Nat) (L' : Nat), Step1 (T, W, N, L) (T', W', N', L') ∧ drB4 (drS sc junk T W N L k X Y) = some (.next, drS sc junk T' W' N' L' k X Y) := by
  by_cases hL : 0 < L
  · by_cases hX : X % 5 < 3
    · have hp := pair_at (i := Y % 12) (by omega)
      refine ⟨T ++ [12272 + Y % 12], W ++ [40], N, L + 1, .pair _ hL hp.1 hp.2, ?_⟩
      refine if_true (S' := drS sc junk T W N L k X Y) ?_ ?_
      · refine bind_to (pos_test (L := L) rfl) ?_
        rw [decide_eq_true hL]
        refine bind_to (a := .int ((X % 5 : Nat) : Int)) (S' := drS sc junk T W N L k X Y) ?_ ?_
        · refine bind_to rfl (bind_to rfl ?_)
          rw [← fmod_nat X 5]
          exact mod_to (by decide +kernel)
        · refine bind_to rfl (bind_to rfl ?_)
          show some (decide (((X % 5 : Nat) : Int) < 3), _) = _
          rw [decide_eq_true (by omega)]
      · refine seq_to (S' := drS sc junk (T ++ [12272 + Y % 12]) W N L k X Y) (asg_to (S' := drS sc junk T W N L k X Y) ?_) ?_
        · refine bind_to (str_to (l := T) rfl) ?_
          refine bind_to (a := .str (tx [12272 + Y % 12])) (S' := drS sc junk T W N L k X Y) ?_ (add_str (by simp; omega))
          refine bind_to (a := [.int ((12272 + Y % 12 : Nat) : Int)]) (S' := drS sc junk T W N L k X Y) ?_ (chr_to (by omega))
          refine bind_to (a := .int ((12272 + Y % 12 : Nat) : Int)) (S' := drS sc junk T W N L k X Y) ?_ rfl
          refine bind_to rfl (bind_to (a := .int ((Y % 12 : Nat) : Int)) (S' := drS sc junk T W N L k X Y) ?_ ?_)
          · refine bind_to (int_to (l := (Y : Int)) rfl) (bind_to rfl ?_)
            rw [← fmod_nat Y 12]
            exact mod_to (by decide +kernel)
          · show some (AV.int (12272 + ((Y % 12 : Nat) : Int)), _) = _
            rw [show (12272 + ((Y % 12 : Nat) : Int)) = ((12272 + Y % 12 : Nat) : Int) by omega]
        refine seq_to (S' := drS sc junk (T ++ [12272 + Y % 12]) (W ++ [40]) N L k X Y) (asg_to (S' := drS sc junk (T ++ [12272 + Y % 12]) W N L k X Y) ?_) ?_
        · refine bind_to (str_to (l := W) rfl) (bind_to rfl ?_)
          rw [s_open]
          exact add_str (by simp; omega)
        refine seq_to (S' := drS sc junk (T ++ [12272 + Y % 12]) (W ++ [40]) N (L + 1 : Nat) k X Y) (asg_to (v := .int ((L + 1 : Nat) : Int)) (S' := drS sc junk (T ++ [12272 + Y % 12]) (W ++ [40]) N L k X Y) ?_) rfl
        refine bind_to (int_to (l := (L : Int)) rfl) (bind_to rfl ?_)
        rfl
    · obtain ⟨c, h1, h2, h3⟩ := leaves_at (i := Y % 6) (by omega)
      refine ⟨T ++ [c], W ++ [41], N ++ [c], L - 1, .leaf c hL h2 h3, ?_⟩
      refine if_false (S' := drS sc junk T W N L k X Y) ?_ ?_
      · refine bind_to (pos_test (L := L) rfl) ?_
        rw [decide_eq_true hL]
        refine bind_to (a := .int ((X % 5 : Nat) : Int)) (S' := drS sc junk T W N L k X Y) ?_ ?_
        · refine bind_to rfl (bind_to rfl ?_)
          rw [← fmod_nat X 5]
          exact mod_to (by decide +kernel)
        · refine bind_to rfl (bind_to rfl ?_)
          show some (decide (((X % 5 : Nat) : Int) < 3), _) = _
          rw [decide_eq_false (by omega)]
      · refine seq_to ?_ rfl
        refine if_true (S' := drS sc junk T W N L k X Y) ((pos_test (L := L) rfl).trans (by rw [decide_eq_true hL])) ?_
        have hi : ∀ (T N : List Nat) (i : Nat), (F.bind (getVar 2) fun v => F.bind (F.bind (getVar 10) fun v => F.bind (F.pure (.int 6)) fun w => modF v w) fun w => itemF v w) (drS sc junk T W N L k X Y) = some (.str (tx [c]), drS sc junk T W N L k X Y) := fun T N _ => by
          refine bind_to (a := .ref 4) (S' := drS sc junk T W N L k X Y) rfl (bind_to (a := .int ((Y % 6 : Nat) : Int)) (S' := drS sc junk T W N L k X Y) ?_ (item_to rfl h1 (by omega)))
          refine bind_to (int_to (l := (Y : Int)) rfl) (bind_to rfl ?_)
          rw [← fmod_nat Y 6]
          exact mod_to (by decide +kernel)
        refine seq_to (S' := drS sc junk (T ++ [c]) W N L k X Y) (asg_to (S' := drS sc junk T W N L k X Y) ?_) ?_
        · refine bind_to (str_to (l := T) rfl) ?_
          exact bind_to (hi T N 0) (add_str (by simp; omega))
        refine seq_to (S' := drS sc junk (T ++ [c]) W (N ++ [c]) L k X Y) (asg_to (S' := drS sc junk (T ++ [c]) W N L k X Y) ?_) ?_
        · refine bind_to (str_to (l := N) rfl) ?_
          exact bind_to (hi (T ++ [c]) N 0) (add_str (by simp; omega))
        refine seq_to (S' := drS sc junk (T ++ [c]) (W ++ [41]) (N ++ [c]) L k X Y) (asg_to (S' := drS sc junk (T ++ [c]) W (N ++ [c]) L k X Y) ?_) ?_
        · refine bind_to (str_to (l := W) rfl) (bind_to rfl ?_)
          rw [s_close]
          exact add_str (by simp; omega)
        refine seq_to (S' := drS sc junk (T ++ [c]) (W ++ [41]) (N ++ [c]) (L - 1 : Nat) k X Y) (asg_to (v := .int ((L - 1 : Nat) : Int)) (S' := drS sc junk (T ++ [c]) (W ++ [41]) (N ++ [c]) L k X Y) ?_) rfl
        refine bind_to (int_to (l := (L : Int)) rfl) (bind_to rfl ?_)
        show some (AV.int ((L : Int) - 1), _) = _
        rw [show (L : Int) - 1 = ((L - 1 : Nat) : Int) by omega]
  · have hL0 : L = 0 := by omega
    subst hL0
    refine ⟨T, W, N, 0, .stay, ?_⟩
    rfl
end Mine
end

section
set_option maxRecDepth 100000
set_option maxHeartbeats 2000000
set_option linter.unusedVariables false
open PySem PySem.W PyProof.Rows PySem.Calls PySem.Challenge
namespace Mine
theorem dr_turn {sc : List Int} {junk : List AO} {T W N : List Nat} {L : Nat} {k : Nat} {x y : AV} (hk : k < 6) (hl : sc.length ≤ 1000) (hT : T.length ≤ 900) (hW : W.length ≤ 1000) (hN : N.length ≤ 1000) :
    ∃ (T' T'' W' N' : List Nat) (L' X' Y' : Nat) (junk' : List AO), (T' = T ∨ ∃ b, setB1.contains ((b : Nat) : Int) = true ∧ T' = T ++ [b]) ∧ Step1 (T', W, N, L) (T'', W', N', L') ∧
      drBody ⟨drM T W N L (.int k) x y, drH (sc.map .int) junk, 1⟩ = some (.next, drS sc junk' T'' W' N' L' k X' Y') := by
  obtain ⟨X, sl, e1⟩ := dr1 (sc := sc) (junk := junk) (T := T) (W := W) (N := N) (L := L) (x := x) (y := y) hk hl
  have e2 := dr2 (sc := sc) (junk := junk ++ [.list sl]) (T := T) (W := W) (N := N) (L := L) (k := k) (X := X) (y := y)
  obtain ⟨T', hT', e3⟩ := dr3 (sc := sc) (junk := junk ++ [.list sl]) (T := T) (W := W) (N := N) (L := L) (k := k) (X := X) (Y := X / 5) (by omega)
  have hlen : T'.length ≤ 1000 := by
    rcases hT' with rfl | ⟨b, _, rfl⟩
    · omega
    · simp; omega
  obtain ⟨T'', W', N', L', h, e4⟩ := dr4 (sc := sc) (junk := junk ++ [.list sl]) (T := T') (W := W) (N := N) (L := L) (k := k) (X := X) (Y := X / 5) hlen hW hN
  exact ⟨T', T'', W', N', L', X, X / 5, _, hT', h, seq_to e1 (seq_to e2 (seq_to e3 (seq_to e4 rfl)))⟩
noncomputable def br (c : Nat) : Nat := if setC7.contains (c : Int) then 40 else 41
noncomputable def notB1 (c : Nat) : Bool := !setB1.contains (c : Int)
noncomputable def notC7 (c : Nat) : Bool := !setC7.contains (c : Int)
noncomputable def signOk (c : Nat) : Bool := (setC7.contains (c : Int) || leafOk c) && notB1 c
noncomputable def nexts (p : List Nat × Nat) : List (List Nat × Nat) := if p.2 = 0 then [p] else [(p.1 ++ [40], p.2 + 1), (p.1 ++ [41], p.2 - 1)]
noncomputable def reach : Nat → List (List Nat × Nat)
  | 0 => [([], 1)]
  | k + 1 => (reach k).flatMap nexts
structure Inv (k : Nat) (T W N : List Nat) (L : Nat) (ss : List Nat) : Prop where
  t : T.filter notB1 = ss
  n : N = ss.filter notC7
  w : W = ss.map br
  ok : ∀ c ∈ ss, signOk c = true
  r : (W, L) ∈ reach k
  tl : T.length ≤ 2 * k
  wl : W.length ≤ k
  nl : N.length ≤ k
theorem c7_b1 {c : Nat} (h : setC7.contains (c : Int) = true) (hb : setB1.contains (c : Int) = false) : signOk c = true ∧ notB1 c = true ∧ notC7 c = false ∧ br c = 40 := by
  unfold signOk notB1 notC7 br
  rw [h, hb]
  exact ⟨rfl, rfl, rfl, rfl⟩
theorem leaf_b1 {c : Nat} (h : leafOk c = true) (hb : setB1.contains (c : Int) = false) : signOk c = true ∧ notB1 c = true ∧ notC7 c = true ∧ br c = 41 := by
  have h7 := (leafOk_of h).1
  unfold signOk notB1 notC7 br
  rw [h, h7, hb]
  exact ⟨rfl, rfl, rfl, rfl⟩
theorem Inv.turn {k : Nat} {T T' T'' W W' N N' : List Nat} {L L' : Nat} {ss : List Nat} (h : Inv k T W N L ss) (hT : T' = T ∨ ∃ b, setB1.contains ((b : Nat) : Int) = true ∧ T' = T ++ [b]) (hs : Step1 (T', W, N, L) (T'', W', N', L')) :
    ∃ ss', Inv (k + 1) T'' W' N' L' ss' := by
  obtain ⟨h1, h2, h3, h4, h5, h6, h7, h8⟩ := h
  have ht : T'.filter notB1 = ss ∧ T'.length ≤ 2 * k + 1 := by
    rcases hT with rfl | ⟨b, hb, rfl⟩
    · exact ⟨h1, by omega⟩
    · refine ⟨?_, by simp; omega⟩
      rw [List.filter_append, h1]
      have : notB1 b = false := by unfold notB1; rw [hb]; rfl
      simp [this]
  cases hs with
  | pair c hl hc hb =>
    obtain ⟨g1, g2, g3, g4⟩ := c7_b1 hc hb
    refine ⟨ss ++ [c], ?_, ?_, ?_, ?_, ?_, by simp; omega, by simp; omega, by omega⟩
    · rw [List.filter_append, ht.1]; simp [g2]
    · rw [List.filter_append, ← h2]; simp [g3]
    · rw [List.map_append, ← h3, List.map_singleton, g4]
    · intro x hx
      rcases List.mem_append.mp hx with q | q
      · exact h4 x q
      · rw [List.mem_singleton.mp q]; exact g1
    · refine List.mem_flatMap.mpr ⟨_, h5, ?_⟩
      unfold nexts
      rw [if_neg (show ¬ L = 0 by omega)]
      exact .head _
  | leaf c hl hc hb =>
    obtain ⟨g1, g2, g3, g4⟩ := leaf_b1 hc hb
    refine ⟨ss ++ [c], ?_, ?_, ?_, ?_, ?_, by simp; omega, by simp; omega, by simp; omega⟩
    · rw [List.filter_append, ht.1]; simp [g2]
    · rw [List.filter_append, ← h2]; simp [g3]
    · rw [List.map_append, ← h3, List.map_singleton, g4]
    · intro x hx
      rcases List.mem_append.mp hx with q | q
      · exact h4 x q
      · rw [List.mem_singleton.mp q]; exact g1
    · refine List.mem_flatMap.mpr ⟨_, h5, ?_⟩
      unfold nexts
      rw [if_neg (show ¬ L = 0 by omega)]
      exact .tail _ (.head _)
  | stay =>
    refine ⟨ss, ht.1, h2, h3, h4, ?_, by omega, by omega, by omega⟩
    refine List.mem_flatMap.mpr ⟨_, h5, ?_⟩
    exact .head _
theorem dr_loop {sc : List Int} (hl : sc.length ≤ 1000) : ∀ j, j ≤ 6 → ∃ (T W N : List Nat) (L : Nat) (ss : List Nat) (k x y : AV) (junk : List AO), Inv j T W N L ss ∧
    forF (seqItem (rangeItems 6)) (st1 8) drBody 40 0 ⟨drM [] [] [] 1 .unb .unb .unb, drH (sc.map .int) [], 1⟩ = forF (seqItem (rangeItems 6)) (st1 8) drBody (40 - j) j ⟨drM T W N L k x y, drH (sc.map .int) junk, 1⟩ := by
  intro j
  induction j with
  | zero => intro _; exact ⟨[], [], [], 1, [], .unb, .unb, .unb, [], ⟨rfl, rfl, rfl, (by simp), .head _, (by simp), (by simp), (by simp)⟩, rfl⟩
  | succ j ih =>
    intro hj
    obtain ⟨T, W, N, L, ss, k, x, y, junk, hI, e⟩ := ih (by omega)
    obtain ⟨T', T'', W', N', L', X', Y', junk', hT', hs, eb⟩ := dr_turn (sc := sc) (junk := junk) (T := T) (W := W) (N := N) (L := L) (k := j) (x := x) (y := y) (by omega) hl (by have := hI.tl; omega) (by have := hI.wl; omega) (by have := hI.nl; omega)
    obtain ⟨ss', hI'⟩ := hI.turn hT' hs
    refine ⟨T'', W', N', L', ss', .int (j : Int), .int (X' : Int), .int (Y' : Int), junk', hI', e.trans ?_⟩
    rw [show 40 - j = (40 - (j + 1)) + 1 by omega]
    exact for_step (S := ⟨drM T W N L k x y, drH (sc.map .int) junk, 1⟩) (range_item (by omega) _) rfl eb
noncomputable def wordsL : List (List Nat) := (reach 6).map fun p => p.1 ++ List.replicate p.2 41
theorem words_mem {W : List Nat} {L : Nat} (h : (W, L) ∈ reach 6) : W ++ List.replicate L 41 ∈ wordsL := by
  unfold wordsL
  exact List.mem_map.mpr ⟨(W, L), h, rfl⟩
theorem reach_small : ∀ p ∈ reach 6, p.2 < 8 := by decide +kernel
theorem mul_z : ∀ L < 8, Txt.mul (tx [122]) (L : Nat) = tx (List.replicate L 122) := by decide +kernel
theorem mul_c : ∀ L < 8, Txt.mul (tx [41]) (L : Nat) = tx (List.replicate L 41) := by decide +kernel
theorem mul_to {c L : Nat} {S : St} (h : L < 8) (hm : Txt.mul (tx [c]) (L : Nat) = tx (List.replicate L c)) : mulF (.str (tx [c])) (.int (L : Int)) S = some (.str (tx (List.replicate L c)), S) := by
  refine guard_to ?_ ?_
  · rw [Bool.and_eq_true]
    refine ⟨?_, small_of ?_⟩
    · unfold smallJ; rw [decide_eq_true_iff]; omega
    · rw [tx_len]; simp; omega
  · rw [hm]; rfl
structure Drawn (text word names : List Nat) : Prop where
  ex : ∃ ss, text.filter notB1 = ss ∧ names = ss.filter notC7 ∧ word = ss.map br ∧ ∀ c ∈ ss, signOk c = true
  w : word ∈ wordsL
  tl : text.length ≤ 30
noncomputable abbrev drR (T W N : List Nat) (L : Nat) : AO := .tup [.str (tx (T ++ List.replicate L 122)), .str (tx (W ++ List.replicate L 41)), .str (tx (N ++ List.replicate L 122))]
theorem dr_e6 {sc : List Int} {T W N : List Nat} {L : Nat} {k x y : AV} {junk : List AO} (e : forF (seqItem (rangeItems 6)) (st1 8) drBody 40 0 ⟨drM [] [] [] 1 .unb .unb .unb, drH (sc.map .int) [], 1⟩ = forF (seqItem (rangeItems 6)) (st1 8) drBody (40 - 6) 6 ⟨drM T W N L k x y, drH (sc.map .int) junk, 1⟩) :
    drS6 ⟨drM [] [] [] 1 .unb .unb .unb, drH (sc.map .int) [], 1⟩ = some (.next, ⟨drM T W N L k x y, drH (sc.map .int) junk, 1⟩) := by
  have hr := srcRange_to (N := 6) (S := ⟨drM [] [] [] 1 .unb .unb .unb, drH (sc.map .int) [], 1⟩) (by omega)
  refine bind_to (bind_to rfl hr) ?_
  refine e.trans ?_
  exact for_end (n := 33) (range_none (Nat.le_refl 6) _)
theorem dr_e7 {sc : List AV} {T W N : List Nat} {L : Nat} {k x y : AV} {junk : List AO} (hL : L < 8) (tl : T.length ≤ 100) (wl : W.length ≤ 100) (nl : N.length ≤ 100) :
    drS7 ⟨drM T W N L k x y, drH sc junk, 1⟩ = some (.ret (.ref (junk.length + 6)), ⟨drM T W N L k x y, drH sc (junk ++ [drR T W N L]), 1⟩) := by
  generalize hS : (⟨drM T W N L k x y, drH sc junk, 1⟩ : St) = S6
  have g4 : getVar 4 S6 = some (.str (tx T), S6) := by rw [← hS]; rfl
  have g5 : getVar 5 S6 = some (.str (tx W), S6) := by rw [← hS]; rfl
  have g6 : getVar 6 S6 = some (.str (tx N), S6) := by rw [← hS]; rfl
  have g7 : getVar 7 S6 = some (.int (L : Int), S6) := by rw [← hS]; rfl
  have gz : (F.pure (AV.str "z")) S6 = some (.str (tx [122]), S6) := by rw [s_z]; rfl
  have gc : (F.pure (AV.str ")")) S6 = some (.str (tx [41]), S6) := by rw [s_close]; rfl
  have hz := mul_to (S := S6) hL (mul_z L hL)
  have hc := mul_to (S := S6) hL (mul_c L hL)
  have a1 := add_str (x := T) (y := List.replicate L 122) (S := S6) (by simp; omega)
  have a2 := add_str (x := W) (y := List.replicate L 41) (S := S6) (by simp; omega)
  have a3 := add_str (x := N) (y := List.replicate L 122) (S := S6) (by simp; omega)
  have hn := new_to (S := S6) (o := drR T W N L) (by simp [AO.items])
  have hlen : S6.H.length = junk.length + 6 := by rw [← hS]; simp [drH]
  have hH : { S6 with H := S6.H ++ [drR T W N L] } = (⟨drM T W N L k x y, drH sc (junk ++ [drR T W N L]), 1⟩ : St) := by rw [← hS]; rfl
  rw [hlen, hH] at hn
  refine bind_to (bind_to (bind_to (bind_to g4 (bind_to (bind_to gz (bind_to g7 hz)) a1)) ?_) hn) rfl
  refine bind_to (bind_to (bind_to g5 (bind_to (bind_to gc (bind_to g7 hc)) a2)) ?_) rfl
  exact bind_to (bind_to (bind_to g6 (bind_to (bind_to gz (bind_to g7 hz)) a3)) rfl) rfl
theorem dr_back {sc : List AV} {T W N : List Nat} {L : Nat} {junk : List AO} : back 1 (drH sc (junk ++ [drR T W N L])) (.ref (junk.length + 6)) = some (.tup [.str (tx (T ++ List.replicate L 122)), .str (tx (W ++ List.replicate L 41)), .str (tx (N ++ List.replicate L 122))]) := by
  have e9 : (drH sc (junk ++ [drR T W N L]))[junk.length + 6]? = some (drR T W N L) := by simp [drH]
  have h1 : Nat.ble 1 (junk.length + 6) = true := Nat.ble_eq_true_of_le (by omega)
  unfold back
  dsimp only
  rw [h1, e9]
  rfl
theorem dr_e8 {sc : List AV} {S6 S7 : St} {v : AV} (e6 : drS6 ⟨drM [] [] [] 1 .unb .unb .unb, drH sc [], 1⟩ = some (.next, S6)) (e7 : drS7 S6 = some (.ret v, S7)) : fDraw ⟨[.ref 0, .unb, .unb, .unb, .unb, .unb, .unb, .unb, .unb, .unb, .unb], [.list sc], 1⟩ = some (.ret v, S7) := by
  have h : fDraw = seqs [drS1, drS2, drS3, drS4, drS5] (seqF drS6 (seqF drS7 (F.pure .next))) := fDraw_eq
  rw [h, seqs_run (dr_start sc)]
  exact seq_to e6 (bind_to e7 rfl)
theorem callF_to {n : Nat} {body : F AFlow} {ds : List DV} {S' : St} {v : AV} {r : DV} (h : body ⟨(laid ds 0).1 ++ List.replicate n .unb, (laid ds 0).2, (laid ds 0).2.length⟩ = some (.ret v, S')) (hb : back (laid ds 0).2.length S'.H v = some r) : callF n body ds = some r := by
  unfold callF
  rw [h]; exact hb
theorem dr_call {xs : List AV} {S7 : St} {v : AV} {r : DV} (e : fDraw ⟨[.ref 0, .unb, .unb, .unb, .unb, .unb, .unb, .unb, .unb, .unb, .unb], [.list xs], 1⟩ = some (.ret v, S7)) (hb : back 1 S7.H v = some r) : gDraw [.list xs] = some r := by
  have h : gDraw [.list xs] = callF 10 fDraw [.list xs] := if_pos rfl
  rw [h]
  exact callF_to (n := 10) (ds := [.list xs]) (body := fDraw) e hb
theorem draw_of {sc : List Int} (hl : sc.length ≤ 1000) : ∃ text word names, Drawn text word names ∧ gDraw [.list (sc.map .int)] = some (.tup [.str (tx text), .str (tx word), .str (tx names)]) := by
  obtain ⟨T, W, N, L, ss, k, x, y, junk, hI, e⟩ := dr_loop hl 6 (Nat.le_refl 6)
  have hL := reach_small _ hI.r
  have e6 := dr_e6 e
  have tl := hI.tl
  have wl := hI.wl
  have nl := hI.nl
  have e7 := dr_e7 (sc := sc.map .int) (T := T) (W := W) (N := N) (L := L) (k := k) (x := x) (y := y) (junk := junk) hL (by omega) (by omega) (by omega)
  have zs : List.replicate L 122 = (List.replicate L 122).filter notB1 ∧ List.replicate L 122 = (List.replicate L 122).filter notC7 ∧ List.replicate L 41 = (List.replicate L 122).map br := by
    have q1 : notB1 122 = true := by decide +kernel
    have q2 : notC7 122 = true := by decide +kernel
    have q3 : br 122 = 41 := by decide +kernel
    simp [q1, q2, q3]
  refine ⟨T ++ List.replicate L 122, W ++ List.replicate L 41, N ++ List.replicate L 122, ⟨⟨ss ++ List.replicate L 122, ?_, ?_, ?_, ?_⟩, ?_, ?_⟩, ?_⟩
  · rw [List.filter_append, hI.t, ← zs.1]
  · rw [List.filter_append, ← hI.n, ← zs.2.1]
  · rw [List.map_append, ← hI.w, ← zs.2.2]
  · intro c hc
    rcases List.mem_append.mp hc with q | q
    · exact hI.ok c q
    · rw [(List.mem_replicate.mp q).2]; decide +kernel
  · exact words_mem hI.r
  · simp; omega
  exact dr_call (dr_e8 e6 e7) dr_back
end Mine
end

section
set_option maxRecDepth 100000
set_option maxHeartbeats 2000000
set_option linter.unusedVariables false
open PySem PySem.W PyProof.Rows PySem.Calls PySem.Challenge
namespace Mine
noncomputable def laS1 : F AFlow := (F.bind (F.bind (F.bind (getVar 0) fun v1 => F.bind (F.pure []) fun v2 => F.pure (v1 :: v2)) (appF gDraw)) fun v3 => unpack3 1 2 3 v3)
noncomputable def laS2 : F AFlow := (F.bind (F.bind (F.bind (getVar 2) fun v5 => F.bind (F.pure []) fun v6 => F.pure (v5 :: v6)) (appF gDepths)) fun v4 => F.bind (setVar 4 v4) fun _ => F.pure .next)
noncomputable def laS3 : F AFlow := (F.bind (F.bind (F.bind (F.bind (F.bind (getVar 0) fun v8 => F.bind (F.pure (.int 6)) fun v9 => F.bind (F.pure (.int 7)) fun v10 => sliceF v8 v9 v10) fun v11 => F.bind (F.pure []) fun v12 => F.pure (v11 :: v12)) sumF) fun v15 => F.bind (F.bind (F.bind (getVar 4) fun v13 => F.bind (F.pure []) fun v14 => F.pure (v13 :: v14)) lenF) fun v16 => modF v15 v16) fun v7 => F.bind (setVar 5 v7) fun _ => F.pure .next)
noncomputable def laS4 : F AFlow := (F.bind (F.bind (F.bind (F.bind (F.bind (F.bind (getVar 0) fun v18 => F.bind (F.pure (.int 7)) fun v19 => F.bind (F.pure (.int 8)) fun v20 => sliceF v18 v19 v20) fun v21 => F.bind (F.pure []) fun v22 => F.pure (v21 :: v22)) sumF) fun v23 => F.bind (F.pure (.int 1)) fun v24 => addF v23 v24) fun v27 => F.bind (F.bind (F.bind (getVar 4) fun v25 => F.bind (F.pure []) fun v26 => F.pure (v25 :: v26)) lenF) fun v28 => modF v27 v28) fun v17 => F.bind (setVar 6 v17) fun _ => F.pure .next)
noncomputable def laS5 : F AFlow := (F.bind (compF (F.bind (F.bind (F.bind (getVar 4) fun v30 => F.bind (F.pure []) fun v31 => F.pure (v30 :: v31)) lenF) srcRange) 1 [5, 6] (st1 0) (F.pure true) (F.bind (F.bind (getVar 0) fun v32 => F.bind (getVar 1) fun v33 => F.bind ((eqF false) v32 v33) truF) fun v37 => match v37 with | true => (getVar 2) | false => (F.bind (F.bind (getVar 0) fun v34 => F.bind (getVar 2) fun v35 => F.bind ((eqF false) v34 v35) truF) fun v36 => match v36 with | true => (getVar 1) | false => (getVar 0))) 40) fun v29 => F.bind (setVar 7 v29) fun _ => F.pure .next)
noncomputable def laS6 : F AFlow := (F.bind (F.bind (F.pure (.str "")) fun v39 => F.bind (typed "str" v39) fun _ => F.bind (F.bind (compF (F.bind (getVar 1) srcVal) 1 [] (st1 0) (F.bind (F.bind (F.bind (F.bind (getVar 0) fun v42 => F.bind (F.pure []) fun v43 => F.pure (v42 :: v43)) (appF gInB1)) truF) fun v44 => F.pure !v44) (getVar 0) 40) fun v45 => F.bind (F.pure []) fun v46 => F.pure (v45 :: v46)) fun v41 => joinM v39 v41) fun v38 => F.bind (setVar 8 v38) fun _ => F.pure .next)
noncomputable def laS7 : F AFlow := (F.bind (F.bind (F.bind (F.bind (F.bind (getVar 4) fun v47 => F.bind (F.pure []) fun v48 => F.pure (v47 :: v48)) (appF gWord)) fun v49 => F.bind (getVar 2) fun v50 => F.bind ((eqF true) v49 v50) truF) fun v58 => match v58 with | true => F.pure true | false => (F.bind (F.bind (F.bind (F.bind (getVar 4) fun v55 => F.bind (F.bind (getVar 8) fun v53 => F.bind (F.bind (getVar 3) fun v51 => F.bind (F.pure []) fun v52 => F.pure (v51 :: v52)) fun v54 => F.pure (v53 :: v54)) fun v56 => F.pure (v55 :: v56)) (appF gAgrees)) truF) fun v57 => F.pure !v57)) fun v60 => match v60 with | true => (seqF (F.bind (F.pure (.bool false)) fun v59 => F.pure (.ret v59)) (F.pure .next)) | false => (F.pure .next))
noncomputable def laS8 : F AFlow := (F.bind (F.bind (F.bind (compF (F.bind (getVar 7) srcVal) 1 [4] (st1 0) (F.pure true) (F.bind (getVar 1) fun v62 => F.bind (getVar 0) fun v63 => itemF v62 v63) 40) fun v77 => F.bind (F.bind (F.bind (getVar 4) fun v65 => F.bind (F.pure .none) fun v66 => F.bind (F.bind (F.pure (.int 1)) negF) fun v67 => sliceF v65 v66 v67) fun v75 => F.bind (F.bind (F.bind (getVar 4) fun v71 => F.bind (F.bind (F.bind (F.pure (.int 0)) fun v68 => F.bind (F.pure []) fun v69 => F.pure (v68 :: v69)) fun v70 => newAt (.list v70)) fun v72 => addF v71 v72) fun v73 => F.bind (F.pure []) fun v74 => F.pure (v73 :: v74)) fun v76 => F.pure (v75 :: v76)) fun v78 => F.pure (v77 :: v78)) fun v79 => newAt (.list v79)) fun v61 => F.bind (setVar 9 v61) fun _ => F.pure .next)
noncomputable def laS9 : F AFlow := (F.bind (F.bind (compF (F.bind (getVar 9) srcVal) 1 [3] (st1 0) (F.bind (F.bind (F.bind (F.bind (getVar 0) fun v86 => F.bind (F.bind (F.pure (.str "")) fun v84 => F.bind (F.bind (F.bind (getVar 1) fun v80 => F.bind (F.pure (.str "z")) fun v81 => addF v80 v81) fun v82 => F.bind (F.pure []) fun v83 => F.pure (v82 :: v83)) fun v85 => F.pure (v84 :: v85)) fun v87 => F.pure (v86 :: v87)) (appF gAgrees)) truF) fun v88 => F.pure !v88) (getVar 0) 40) fun v90 => F.bind (F.bind (F.pure []) fun v89 => newAt (.list v89)) fun v91 => (eqF false) v90 v91) fun v92 => F.pure (.ret v92))
noncomputable def la5Src : F ItemF := (F.bind (F.bind (F.bind (getVar 4) fun v30 => F.bind (F.pure []) fun v31 => F.pure (v30 :: v31)) lenF) srcRange)
noncomputable def la5Elt : F AV := (F.bind (F.bind (getVar 0) fun v32 => F.bind (getVar 1) fun v33 => F.bind ((eqF false) v32 v33) truF) fun v37 => match v37 with | true => (getVar 2) | false => (F.bind (F.bind (getVar 0) fun v34 => F.bind (getVar 2) fun v35 => F.bind ((eqF false) v34 v35) truF) fun v36 => match v36 with | true => (getVar 1) | false => (getVar 0)))
theorem laS5_eq : laS5 = (F.bind (compF la5Src 1 [5, 6] (st1 0) (F.pure true) la5Elt 40) fun v29 => F.bind (setVar 7 v29) fun _ => F.pure .next) := rfl
noncomputable def la6Src : F ItemF := (F.bind (getVar 1) srcVal)
noncomputable def la6Test : F Bool := (F.bind (F.bind (F.bind (F.bind (getVar 0) fun v42 => F.bind (F.pure []) fun v43 => F.pure (v42 :: v43)) (appF gInB1)) truF) fun v44 => F.pure !v44)
theorem laS6_eq : laS6 = (F.bind (F.bind (F.pure (.str "")) fun v39 => F.bind (typed "str" v39) fun _ => F.bind (F.bind (compF la6Src 1 [] (st1 0) la6Test (getVar 0) 40) fun v45 => F.bind (F.pure []) fun v46 => F.pure (v45 :: v46)) fun v41 => joinM v39 v41) fun v38 => F.bind (setVar 8 v38) fun _ => F.pure .next) := rfl
noncomputable def la8Src : F ItemF := (F.bind (getVar 7) srcVal)
noncomputable def la8Elt : F AV := (F.bind (getVar 1) fun v62 => F.bind (getVar 0) fun v63 => itemF v62 v63)
theorem laS8_eq : laS8 = (F.bind (F.bind (F.bind (compF la8Src 1 [4] (st1 0) (F.pure true) la8Elt 40) fun v77 => F.bind (F.bind (F.bind (getVar 4) fun v65 => F.bind (F.pure .none) fun v66 => F.bind (F.bind (F.pure (.int 1)) negF) fun v67 => sliceF v65 v66 v67) fun v75 => F.bind (F.bind (F.bind (getVar 4) fun v71 => F.bind (F.bind (F.bind (F.pure (.int 0)) fun v68 => F.bind (F.pure []) fun v69 => F.pure (v68 :: v69)) fun v70 => newAt (.list v70)) fun v72 => addF v71 v72) fun v73 => F.bind (F.pure []) fun v74 => F.pure (v73 :: v74)) fun v76 => F.pure (v75 :: v76)) fun v78 => F.pure (v77 :: v78)) fun v79 => newAt (.list v79)) fun v61 => F.bind (setVar 9 v61) fun _ => F.pure .next) := rfl
noncomputable def la9Src : F ItemF := (F.bind (getVar 9) srcVal)
noncomputable def la9Test : F Bool := (F.bind (F.bind (F.bind (F.bind (getVar 0) fun v86 => F.bind (F.bind (F.pure (.str "")) fun v84 => F.bind (F.bind (F.bind (getVar 1) fun v80 => F.bind (F.pure (.str "z")) fun v81 => addF v80 v81) fun v82 => F.bind (F.pure []) fun v83 => F.pure (v82 :: v83)) fun v85 => F.pure (v84 :: v85)) fun v87 => F.pure (v86 :: v87)) (appF gAgrees)) truF) fun v88 => F.pure !v88)
theorem laS9_eq : laS9 = (F.bind (F.bind (compF la9Src 1 [3] (st1 0) la9Test (getVar 0) 40) fun v90 => F.bind (F.bind (F.pure []) fun v89 => newAt (.list v89)) fun v91 => (eqF false) v90 v91) fun v92 => F.pure (.ret v92)) := rfl
theorem fLaw_eq : fLaw = seqs [laS1, laS2, laS3, laS4, laS5, laS6, laS7, laS8, laS9] (F.pure .next) := rfl
end Mine
end

section
set_option maxRecDepth 100000
set_option maxHeartbeats 2000000
set_option linter.unusedVariables false
open PySem PySem.W PyProof.Rows PySem.Calls PySem.Challenge
namespace Mine
theorem loopC_gen {item : ItemF} {st : Item → F Unit} {test : F Bool} {elt : F AV} {D N : Nat} (P : Nat → St → Prop) (hs : ∀ j n S, j < N → P j S → ∃ S', P (j + 1) S' ∧ loopC item st test elt D (n + 1) j S = loopC item st test elt D n (j + 1) S')
    (he : ∀ S, P N S → item N S.H = some none) (hN : N ≤ 39) {S : St} (h0 : P 0 S) : ∃ S', P N S' ∧ loopC item st test elt D 40 0 S = some ((), S') := by
  have key : ∀ j, j ≤ N → ∃ S', P j S' ∧ loopC item st test elt D 40 0 S = loopC item st test elt D (40 - j) j S' := by
    intro j
    induction j with
    | zero => intro _; exact ⟨S, h0, rfl⟩
    | succ j ih =>
      intro hj
      obtain ⟨S1, h1, e1⟩ := ih (by omega)
      obtain ⟨S2, h2, e2⟩ := hs j (40 - (j + 1)) S1 (by omega) h1
      rw [show 40 - (j + 1) + 1 = 40 - j by omega] at e2
      exact ⟨S2, h2, e1.trans e2⟩
  obtain ⟨S1, h1, e1⟩ := key N (Nat.le_refl N)
  refine ⟨S1, h1, e1.trans ?_⟩
  obtain ⟨n, hn⟩ : ∃ n, 40 - N = n + 1 := ⟨39 - N, by omega⟩
  rw [hn]
  exact loopC_end (he S1 h1)
theorem app_to {g : List DV → Option DV} {us : List AV} {S S' : St} {ds : List DV} {r : DV} {v : AV} (hn : (refsOf us).Nodup) (hd : derefs S.H us = some ds) (hg : g ds = some r) (hr : retD r S = some (v, S')) : appF g us S = some (v, S') := by
  unfold appF
  rw [decide_eq_true hn, hd]
  dsimp only
  rw [hg]
  exact hr
theorem deref_list {H : List AO} {i : Nat} {xs : List AV} (h : H[i]? = some (.list xs)) (hp : xs.all plain = true) : deref H (.ref i) = some (.list xs) := by
  unfold deref
  dsimp only
  rw [h]
  exact if_pos hp
theorem derefs_one {H : List AO} {i : Nat} {xs : List AV} (h : H[i]? = some (.list xs)) (hp : xs.all plain = true) : derefs H [.ref i] = some [.list xs] := by
  unfold derefs
  rw [deref_list h hp]; rfl
theorem derefs_row {H : List AO} {i : Nat} {xs : List AV} {a b : Str} (h : H[i]? = some (.list xs)) (hp : xs.all plain = true) : derefs H [.ref i, .str a, .str b] = some [.list xs, .v (.str a), .v (.str b)] := by
  unfold derefs
  rw [deref_list h hp]; rfl
/-- the frame of law behind its first statements -/
noncomputable abbrev laM (text word names : List Nat) (one other : Nat) (p s o : AV) : List AV := [.ref 0, .str (tx text), .str (tx word), .str (tx names), .ref 2, .int (one : Int), .int (other : Int), p, s, o]
theorem la1 {sc : List Int} {text word names : List Nat} (h : gDraw [.list (sc.map .int)] = some (.tup [.str (tx text), .str (tx word), .str (tx names)])) :
    laS1 ⟨[.ref 0, .unb, .unb, .unb, .unb, .unb, .unb, .unb, .unb, .unb], [.list (sc.map .int)], 1⟩ = some (.next, ⟨[.ref 0, .str (tx text), .str (tx word), .str (tx names), .unb, .unb, .unb, .unb, .unb, .unb], [.list (sc.map .int), .tup [.str (tx text), .str (tx word), .str (tx names)]], 1⟩) := by
  refine bind_to (a := .ref 1) (S' := ⟨[.ref 0, .unb, .unb, .unb, .unb, .unb, .unb, .unb, .unb, .unb], [.list (sc.map .int), .tup [.str (tx text), .str (tx word), .str (tx names)]], 1⟩) ?_ rfl
  refine bind_to (a := [.ref 0]) (S' := ⟨[.ref 0, .unb, .unb, .unb, .unb, .unb, .unb, .unb, .unb, .unb], [.list (sc.map .int)], 1⟩) rfl ?_
  have hp : (sc.map AV.int).all plain = true := by simp [plain]
  exact app_to (by simp [refsOf]) (derefs_one rfl hp) h (by rfl)

section
variable {sc : List Int} {text word names : List Nat} {dl : List Int} {tp : AO} {s1 s2 : List AV} {one other : Nat}
theorem ints_plain (dl : List Int) : (dl.map AV.int).all plain = true := by simp [plain]
theorem la2 (h : gDepths [.v (.str (tx word))] = some (.list (dl.map .int))) (hl : dl.length ≤ 1000) :
    laS2 ⟨[.ref 0, .str (tx text), .str (tx word), .str (tx names), .unb, .unb, .unb, .unb, .unb, .unb], [.list (sc.map .int), tp], 1⟩ = some (.next, ⟨[.ref 0, .str (tx text), .str (tx word), .str (tx names), .ref 2, .unb, .unb, .unb, .unb, .unb], [.list (sc.map .int), tp, .list (dl.map .int)], 1⟩) := by
  refine asg_to (v := .ref 2) (S' := ⟨[.ref 0, .str (tx text), .str (tx word), .str (tx names), .unb, .unb, .unb, .unb, .unb, .unb], [.list (sc.map .int), tp, .list (dl.map .int)], 1⟩) ?_
  refine bind_to (a := [.str (tx word)]) (S' := ⟨[.ref 0, .str (tx text), .str (tx word), .str (tx names), .unb, .unb, .unb, .unb, .unb, .unb], [.list (sc.map .int), tp], 1⟩) rfl ?_
  refine app_to (by simp [refsOf]) rfl h ?_
  exact new_to (o := .list (dl.map .int)) (by simp [AO.items]; omega)
theorem small_pos {n : Nat} (h : 0 < n) (hl : n ≤ 1000) : smallI (n : Int) = true := by
  unfold smallI; rw [decide_eq_true_iff]; omega
theorem la3 (hs : sc.length ≤ 1000) (h0 : 0 < dl.length) (hl : dl.length ≤ 1000) : ∃ (one : Nat) (s1 : List AV), one < dl.length ∧
    laS3 ⟨[.ref 0, .str (tx text), .str (tx word), .str (tx names), .ref 2, .unb, .unb, .unb, .unb, .unb], [.list (sc.map .int), tp, .list (dl.map .int)], 1⟩ = some (.next, ⟨[.ref 0, .str (tx text), .str (tx word), .str (tx names), .ref 2, .int (one : Int), .unb, .unb, .unb, .unb], [.list (sc.map .int), tp, .list (dl.map .int), .list s1], 1⟩) := by
  obtain ⟨s, sl, e⟩ := sum_slice (sc := sc) (S := ⟨[.ref 0, .str (tx text), .str (tx word), .str (tx names), .ref 2, .unb, .unb, .unb, .unb, .unb], [.list (sc.map .int), tp, .list (dl.map .int)], 1⟩) (a := 6) (b := 7) rfl hs (F.pure (.int 6)) (F.pure (.int 7)) rfl rfl rfl
  have hn : (0 : Int) < dl.length := by omega
  have b0 := Int.fmod_nonneg_of_pos s hn
  have b1 := Int.fmod_lt_of_pos s hn
  refine ⟨(s.fmod dl.length).toNat, sl, by omega, ?_⟩
  rw [Int.toNat_of_nonneg b0]
  refine asg_to (v := .int (s.fmod dl.length)) (S' := ⟨[.ref 0, .str (tx text), .str (tx word), .str (tx names), .ref 2, .unb, .unb, .unb, .unb, .unb], [.list (sc.map .int), tp, .list (dl.map .int), .list sl], 1⟩) ?_
  refine bind_to e ?_
  have hlen := len_to (i := 2) (S := ⟨[.ref 0, .str (tx text), .str (tx word), .str (tx names), .ref 2, .unb, .unb, .unb, .unb, .unb], [.list (sc.map .int), tp, .list (dl.map .int), .list sl], 1⟩) (xs := dl.map .int) rfl (by simp; omega)
  rw [List.length_map] at hlen
  refine bind_to (bind_to rfl hlen) ?_
  exact mod_to (small_pos h0 hl)
theorem la4 (hs : sc.length ≤ 1000) (h0 : 0 < dl.length) (hl : dl.length ≤ 1000) : ∃ (other : Nat) (s2 : List AV), other < dl.length ∧
    laS4 ⟨[.ref 0, .str (tx text), .str (tx word), .str (tx names), .ref 2, .int (one : Int), .unb, .unb, .unb, .unb], [.list (sc.map .int), tp, .list (dl.map .int), .list s1], 1⟩ = some (.next, ⟨laM text word names one other .unb .unb .unb, [.list (sc.map .int), tp, .list (dl.map .int), .list s1, .list s2], 1⟩) := by
  obtain ⟨s, sl, e⟩ := sum_slice (sc := sc) (S := ⟨[.ref 0, .str (tx text), .str (tx word), .str (tx names), .ref 2, .int (one : Int), .unb, .unb, .unb, .unb], [.list (sc.map .int), tp, .list (dl.map .int), .list s1], 1⟩) (a := 7) (b := 8) rfl hs (F.pure (.int 7)) (F.pure (.int 8)) rfl rfl rfl
  have hn : (0 : Int) < dl.length := by omega
  have b0 := Int.fmod_nonneg_of_pos (s + 1) hn
  have b1 := Int.fmod_lt_of_pos (s + 1) hn
  refine ⟨((s + 1).fmod dl.length).toNat, sl, by omega, ?_⟩
  have hM : laM text word names one ((s + 1).fmod dl.length).toNat .unb .unb .unb = [.ref 0, .str (tx text), .str (tx word), .str (tx names), .ref 2, .int (one : Int), .int ((s + 1).fmod dl.length), .unb, .unb, .unb] := by
    show [AV.ref 0, .str (tx text), .str (tx word), .str (tx names), .ref 2, .int (one : Int), .int (((s + 1).fmod dl.length).toNat : Int), .unb, .unb, .unb] = _
    rw [Int.toNat_of_nonneg b0]
  rw [hM]
  refine asg_to (v := .int ((s + 1).fmod dl.length)) (S' := ⟨[.ref 0, .str (tx text), .str (tx word), .str (tx names), .ref 2, .int (one : Int), .unb, .unb, .unb, .unb], [.list (sc.map .int), tp, .list (dl.map .int), .list s1, .list sl], 1⟩) ?_
  have hlen := len_to (i := 2) (S := ⟨[.ref 0, .str (tx text), .str (tx word), .str (tx names), .ref 2, .int (one : Int), .unb, .unb, .unb, .unb], [.list (sc.map .int), tp, .list (dl.map .int), .list s1, .list sl], 1⟩) (xs := dl.map .int) rfl (by simp; omega)
  rw [List.length_map] at hlen
  refine bind_to (a := .int (s + 1)) (bind_to e rfl) ?_
  refine bind_to (bind_to rfl hlen) ?_
  exact mod_to (small_pos h0 hl)
end
end Mine
end

section
set_option maxRecDepth 100000
set_option maxHeartbeats 2000000
set_option linter.unusedVariables false
open PySem PySem.W PyProof.Rows PySem.Calls PySem.Challenge
namespace Mine
noncomputable def placeOf (one other k : Nat) : Nat := if k = one then other else if k = other then one else k
noncomputable def placesOf (n one other : Nat) : List Nat := (List.range n).map (placeOf one other)
theorem eq_int {a b : Nat} {S : St} : (F.bind ((eqF false) (.int (a : Int)) (.int (b : Int))) truF) S = some (decide (a = b), S) := by
  refine bind_to (a := .bool (false != ((a : Int) == (b : Int)))) rfl ?_
  show some ((false != ((a : Int) == (b : Int))), S) = _
  congr 2
  by_cases h : a = b
  · subst h; simp
  · have : ((a : Int) == (b : Int)) = false := by rw [beq_eq_false_iff_ne]; omega
    rw [this, decide_eq_false h]; rfl
theorem la5_elt {k one other : Nat} {H : List AO} : la5Elt ⟨[.int (k : Int), .int (one : Int), .int (other : Int)], H, 1⟩ = some (.int (placeOf one other k : Nat), ⟨[.int (k : Int), .int (one : Int), .int (other : Int)], H, 1⟩) := by
  unfold placeOf
  by_cases h1 : k = one
  · rw [if_pos h1]
    refine bind_to (a := true) (S' := ⟨[.int (k : Int), .int (one : Int), .int (other : Int)], H, 1⟩) ?_ rfl
    refine bind_to (int_to (l := (k : Int)) rfl) (bind_to (int_to (l := (one : Int)) rfl) ?_)
    rw [eq_int, decide_eq_true h1]
  · rw [if_neg h1]
    refine bind_to (a := false) (S' := ⟨[.int (k : Int), .int (one : Int), .int (other : Int)], H, 1⟩) ?_ ?_
    · refine bind_to (int_to (l := (k : Int)) rfl) (bind_to (int_to (l := (one : Int)) rfl) ?_)
      rw [eq_int, decide_eq_false h1]
    · by_cases h2 : k = other
      · rw [if_pos h2]
        refine bind_to (a := true) (S' := ⟨[.int (k : Int), .int (one : Int), .int (other : Int)], H, 1⟩) ?_ rfl
        refine bind_to (int_to (l := (k : Int)) rfl) (bind_to (int_to (l := (other : Int)) rfl) ?_)
        rw [eq_int, decide_eq_true h2]
      · rw [if_neg h2]
        refine bind_to (a := false) (S' := ⟨[.int (k : Int), .int (one : Int), .int (other : Int)], H, 1⟩) ?_ rfl
        refine bind_to (int_to (l := (k : Int)) rfl) (bind_to (int_to (l := (other : Int)) rfl) ?_)
        rw [eq_int, decide_eq_false h2]
theorem range_succ_map {α : Type} (f : Nat → α) (j : Nat) : (List.range (j + 1)).map f = (List.range j).map f ++ [f j] := by
  rw [List.range_succ, List.map_append]; rfl
theorem la5_loop {n one other : Nat} (hn : n ≤ 39) {a b c d e : AO} : ∃ m, loopC (seqItem (rangeItems n)) (st1 0) (F.pure true) la5Elt 5 40 0 ⟨[.unb, .int (one : Int), .int (other : Int)], [a, b, c, d, e, .list []], 1⟩ = some ((), ⟨m, [a, b, c, d, e, .list ((placesOf n one other).map fun k : Nat => AV.int (k : Int))], 1⟩) := by
  obtain ⟨S', ⟨kv, rfl⟩, h⟩ := loopC_gen (item := seqItem (rangeItems n)) (st := st1 0) (test := F.pure true) (elt := la5Elt) (D := 5) (N := n)
    (fun j S => ∃ kv, S = ⟨[kv, .int (one : Int), .int (other : Int)], [a, b, c, d, e, .list ((List.range j).map fun k => AV.int (placeOf one other k : Nat))], 1⟩)
    (fun j m S hj ⟨kv, e⟩ => by
      subst e
      refine ⟨⟨[.int (j : Int), .int (one : Int), .int (other : Int)], [a, b, c, d, e, .list ((List.range (j + 1)).map fun k => AV.int (placeOf one other k : Nat))], 1⟩, ⟨_, rfl⟩, ?_⟩
      rw [range_succ_map]
      exact loopC_add (range_item hj _) rfl rfl la5_elt (appendF_to (xs := (List.range j).map fun k => AV.int (placeOf one other k : Nat)) rfl (by show 1 ≤ 5; omega) (by simp; omega)))
    (fun S ⟨kv, e⟩ => range_none (Nat.le_refl n) _) hn ⟨.unb, rfl⟩
  have e9 : (placesOf n one other).map (fun k : Nat => AV.int (k : Int)) = (List.range n).map fun k => AV.int (placeOf one other k : Nat) := by
    unfold placesOf
    rw [List.map_map]; rfl
  rw [e9]
  exact ⟨_, h⟩
theorem la5 {sc : List Int} {text word names : List Nat} {dl : List Int} {tp : AO} {s1 s2 : List AV} {one other : Nat} (hl : dl.length ≤ 39) :
    laS5 ⟨laM text word names one other .unb .unb .unb, [.list (sc.map .int), tp, .list (dl.map .int), .list s1, .list s2], 1⟩ = some (.next, ⟨laM text word names one other (.ref 5) .unb .unb, [.list (sc.map .int), tp, .list (dl.map .int), .list s1, .list s2, .list ((placesOf dl.length one other).map fun k : Nat => AV.int (k : Int))], 1⟩) := by
  rw [laS5_eq]
  refine asg_to (v := .ref 5) (S' := ⟨laM text word names one other .unb .unb .unb, [.list (sc.map .int), tp, .list (dl.map .int), .list s1, .list s2, .list ((placesOf dl.length one other).map fun k : Nat => AV.int (k : Int))], 1⟩) ?_
  obtain ⟨m, h⟩ := la5_loop (n := dl.length) (one := one) (other := other) hl (a := .list (sc.map .int)) (b := tp) (c := .list (dl.map .int)) (d := .list s1) (e := .list s2)
  refine compF_to (nl := 1) (caps := [5, 6]) (S₁ := ⟨laM text word names one other .unb .unb .unb, [.list (sc.map .int), tp, .list (dl.map .int), .list s1, .list s2], 1⟩) (S₂ := ⟨m, [.list (sc.map .int), tp, .list (dl.map .int), .list s1, .list s2, .list ((placesOf dl.length one other).map fun k : Nat => AV.int (k : Int))], 1⟩) (item := seqItem (rangeItems dl.length)) ?_ h
  have hlen := len_to (i := 2) (S := ⟨laM text word names one other .unb .unb .unb, [.list (sc.map .int), tp, .list (dl.map .int), .list s1, .list s2], 1⟩) (xs := dl.map .int) rfl (by simp; omega)
  rw [List.length_map] at hlen
  have hr := srcRange_to (N := dl.length) (S := ⟨laM text word names one other .unb .unb .unb, [.list (sc.map .int), tp, .list (dl.map .int), .list s1, .list s2], 1⟩) (by omega)
  exact bind_to (bind_to rfl hlen) hr
theorem la6_test {c : Nat} {H : List AO} : la6Test ⟨[.str (tx [c])], H, 1⟩ = some (notB1 c, ⟨[.str (tx [c])], H, 1⟩) := by
  refine bind_to (a := setB1.contains (c : Int)) (S' := ⟨[.str (tx [c])], H, 1⟩) ?_ rfl
  exact bind_to (bind_to rfl (app_str (r := .bool (setB1.contains (c : Int))) rfl inB1_of)) rfl
theorem str_item {l : List Nat} {j c : Nat} (h : l[j]? = some c) (H : List AO) : seqItem (strItems (tx l)) j H = some (some (.one (.str (tx [c])))) := by
  unfold seqItem strItems
  simp [h]
theorem str_none {l : List Nat} {j : Nat} (h : l.length ≤ j) (H : List AO) : seqItem (strItems (tx l)) j H = some none := by
  unfold seqItem strItems
  simp [h]
theorem take_succ_filter {l : List Nat} {j c : Nat} (h : l[j]? = some c) (p : Nat → Bool) : (l.take (j + 1)).filter p = (l.take j).filter p ++ if p c then [c] else [] := by
  rw [List.take_add_one, h, List.filter_append]
  simp [List.filter_cons]
theorem la6_loop {l : List Nat} (hl : l.length ≤ 39) {a b c d e f : AO} : ∃ m, loopC (seqItem (strItems (tx l))) (st1 0) la6Test (getVar 0) 6 40 0 ⟨[.unb], [a, b, c, d, e, f, .list []], 1⟩ = some ((), ⟨m, [a, b, c, d, e, f, .list ((l.filter notB1).map fun c => AV.str (tx [c]))], 1⟩) := by
  obtain ⟨S', ⟨kv, rfl⟩, h⟩ := loopC_gen (item := seqItem (strItems (tx l))) (st := st1 0) (test := la6Test) (elt := getVar 0) (D := 6) (N := l.length)
    (fun j S => ∃ kv, S = ⟨[kv], [a, b, c, d, e, f, .list (((l.take j).filter notB1).map fun c => AV.str (tx [c]))], 1⟩)
    (fun j m S hj ⟨kv, e⟩ => by
      subst e
      obtain ⟨ch, hch⟩ : ∃ ch, l[j]? = some ch := ⟨l[j], List.getElem?_eq_getElem hj⟩
      refine ⟨⟨[.str (tx [ch])], [a, b, c, d, e, f, .list (((l.take (j + 1)).filter notB1).map fun c => AV.str (tx [c]))], 1⟩, ⟨_, rfl⟩, ?_⟩
      rw [take_succ_filter hch]
      cases hb : notB1 ch with
      | true =>
        rw [if_pos rfl, List.map_append]
        exact loopC_add (str_item hch _) rfl (by rw [← hb]; exact la6_test) rfl (appendF_to (D := 6) (S := ⟨[.str (tx [ch])], [a, b, c, d, e, f, .list (((l.take j).filter notB1).map fun c => AV.str (tx [c]))], 1⟩) (xs := ((l.take j).filter notB1).map fun c => AV.str (tx [c])) rfl (by show 1 ≤ 6; omega) (by
          have := List.length_filter_le notB1 (l.take j)
          simp at this ⊢; omega))
      | false =>
        rw [if_neg Bool.false_ne_true, List.append_nil]
        exact loopC_skip (str_item hch _) rfl (by rw [← hb]; exact la6_test))
    (fun S ⟨kv, e⟩ => str_none (Nat.le_refl _) _) hl ⟨.unb, rfl⟩
  rw [List.take_length] at h
  exact ⟨_, h⟩
theorem flat_single : ∀ l : List Nat, (l.map fun c => [c]).flatten = l
  | [] => rfl
  | c :: r => by rw [List.map_cons, List.flatten_cons, flat_single r]; rfl
theorem la6 {sc : List Int} {text word names : List Nat} {dl pl : List AV} {tp : AO} {s1 s2 : List AV} {one other : Nat} (hl : text.length ≤ 39) :
    laS6 ⟨laM text word names one other (.ref 5) .unb .unb, [.list (sc.map .int), tp, .list dl, .list s1, .list s2, .list pl], 1⟩ = some (.next, ⟨laM text word names one other (.ref 5) (.str (tx (text.filter notB1))) .unb, [.list (sc.map .int), tp, .list dl, .list s1, .list s2, .list pl, .list ((text.filter notB1).map fun c => AV.str (tx [c]))], 1⟩) := by
  rw [laS6_eq]
  refine asg_to (v := .str (tx (text.filter notB1))) (S' := ⟨laM text word names one other (.ref 5) .unb .unb, [.list (sc.map .int), tp, .list dl, .list s1, .list s2, .list pl, .list ((text.filter notB1).map fun c => AV.str (tx [c]))], 1⟩) ?_
  obtain ⟨m, h⟩ := la6_loop hl (a := .list (sc.map .int)) (b := tp) (c := .list dl) (d := .list s1) (e := .list s2) (f := .list pl)
  have hc : compF la6Src 1 [] (st1 0) la6Test (getVar 0) 40 ⟨laM text word names one other (.ref 5) .unb .unb, [.list (sc.map .int), tp, .list dl, .list s1, .list s2, .list pl], 1⟩ = some (.ref 6, ⟨laM text word names one other (.ref 5) .unb .unb, [.list (sc.map .int), tp, .list dl, .list s1, .list s2, .list pl, .list ((text.filter notB1).map fun c => AV.str (tx [c]))], 1⟩) :=
    compF_to (nl := 1) (caps := []) (S₁ := ⟨laM text word names one other (.ref 5) .unb .unb, [.list (sc.map .int), tp, .list dl, .list s1, .list s2, .list pl], 1⟩) (S₂ := ⟨m, [.list (sc.map .int), tp, .list dl, .list s1, .list s2, .list pl, .list ((text.filter notB1).map fun c => AV.str (tx [c]))], 1⟩) (item := seqItem (strItems (tx text))) rfl h
  have hj := join_to (S := ⟨laM text word names one other (.ref 5) .unb .unb, [.list (sc.map .int), tp, .list dl, .list s1, .list s2, .list pl, .list ((text.filter notB1).map fun c => AV.str (tx [c]))], 1⟩) (j := 6) (ds := (text.filter notB1).map fun c => [c]) (by rw [List.map_map]; rfl) (by
    have := List.length_filter_le notB1 text
    rw [flat_single]; omega)
  rw [flat_single] at hj
  exact bind_to rfl (bind_to rfl (bind_to (bind_to hc rfl) hj))
end Mine
end

section
set_option maxRecDepth 100000
set_option maxHeartbeats 2000000
set_option linter.unusedVariables false
open PySem PySem.W PyProof.Rows PySem.Calls PySem.Challenge
namespace Mine
theorem la7 {text word names seen : List Nat} {one other : Nat} {h0 h1 h3 h4 h5 h6 : AO} {dl : List Int} (hw : gWord [.list (dl.map .int)] = some (.v (.str (tx word)))) (ha : gAgrees [.list (dl.map .int), .v (.str (tx seen)), .v (.str (tx names))] = some (.v (.bool true))) :
    laS7 ⟨laM text word names one other (.ref 5) (.str (tx seen)) .unb, [h0, h1, .list (dl.map .int), h3, h4, h5, h6], 1⟩ = some (.next, ⟨laM text word names one other (.ref 5) (.str (tx seen)) .unb, [h0, h1, .list (dl.map .int), h3, h4, h5, h6], 1⟩) := by
  generalize hS : (⟨laM text word names one other (.ref 5) (.str (tx seen)) .unb, [h0, h1, .list (dl.map .int), h3, h4, h5, h6], 1⟩ : St) = S
  have g4 : getVar 4 S = some (.ref 2, S) := by rw [← hS]; rfl
  have g2 : getVar 2 S = some (.str (tx word), S) := by rw [← hS]; rfl
  have g3 : getVar 3 S = some (.str (tx names), S) := by rw [← hS]; rfl
  have g8 : getVar 8 S = some (.str (tx seen), S) := by rw [← hS]; rfl
  have hH : S.H[2]? = some (.list (dl.map .int)) := by rw [← hS]; rfl
  have aw : appF gWord [.ref 2] S = some (.str (tx word), S) := app_to (by simp [refsOf]) (derefs_one hH (ints_plain dl)) hw rfl
  have aa : appF gAgrees [.ref 2, .str (tx seen), .str (tx names)] S = some (.bool true, S) := app_to (by simp [refsOf]) (derefs_row hH (ints_plain dl)) ha rfl
  refine if_false (S' := S) ?_ rfl
  refine bind_to (a := false) (S' := S) ?_ ?_
  · refine bind_to (bind_to (bind_to g4 rfl) aw) (bind_to g2 ?_)
    refine bind_to (a := .bool false) (S' := S) ?_ rfl
    show some (AV.bool (true != (word == word)), S) = _
    rw [beq_self_eq_true]; rfl
  · exact bind_to (bind_to (bind_to (bind_to g4 (bind_to (bind_to g8 (bind_to (bind_to g3 rfl) rfl)) rfl)) aa) rfl) rfl
theorem list_item {i k : Nat} {H : List AO} {xs : List AV} {v : AV} (h : H[i]? = some (.list xs)) (hv : xs[k]? = some v) : itemList i k H = some (some (.one v)) := by
  unfold itemList
  rw [h]
  dsimp only
  rw [hv]; rfl
theorem list_none {i k : Nat} {H : List AO} {xs : List AV} (h : H[i]? = some (.list xs)) (hv : xs[k]? = none) : itemList i k H = some none := by
  unfold itemList
  rw [h]
  dsimp only
  rw [hv]; rfl
theorem lists2_to {i j : Nat} {k : List AV → List AV → F AV} {S : St} {xs ys : List AV} {r : Option (AV × St)} (h1 : S.H[i]? = some (.list xs)) (h2 : S.H[j]? = some (.list ys)) (hk : k xs ys S = r) : lists2 i j k S = r := by
  unfold lists2
  rw [h1, h2]; exact hk
theorem add_lists {i j : Nat} {S : St} {xs ys : List AV} (h1 : S.H[i]? = some (.list xs)) (h2 : S.H[j]? = some (.list ys)) (hl : (xs ++ ys).length ≤ 1048576) : addF (.ref i) (.ref j) S = some (.ref S.H.length, { S with H := S.H ++ [.list (xs ++ ys)] }) :=
  lists2_to h1 h2 (new_to hl)
theorem slice_none {i : Nat} {b : Int} {S : St} {xs : List AV} (h : S.H[i]? = some (.list xs)) (hs : xs.length ≤ 1048576) (hl : (sliceL xs none (some b)).length ≤ 1048576) : sliceF (.ref i) .none (.int b) S = some (.ref S.H.length, { S with H := S.H ++ [.list (sliceL xs none (some b))] }) :=
  list1_to h (guard_to (small_of hs) (new_to hl))
theorem take_succ_map {l : List Nat} {j c : Nat} (h : l[j]? = some c) (f : Nat → AV) : (l.take (j + 1)).map f = (l.take j).map f ++ [f c] := by
  rw [List.take_add_one, h, List.map_append]; rfl
theorem la8_loop {dl : List Int} {pl : List Nat} (hn : pl.length ≤ 39) (hp : ∀ k ∈ pl, k < dl.length) (hd : dl.length ≤ 1000) {a b c d e : AO} :
    ∃ m, loopC (itemList 5) (st1 0) (F.pure true) la8Elt 7 40 0 ⟨[.unb, .ref 2], [a, b, .list (dl.map .int), c, d, .list (pl.map fun k : Nat => AV.int (k : Int)), e, .list []], 1⟩ = some ((), ⟨m, [a, b, .list (dl.map .int), c, d, .list (pl.map fun k : Nat => AV.int (k : Int)), e, .list (pl.map fun k => AV.int (dl.getD k 0))], 1⟩) := by
  obtain ⟨S', ⟨kv, rfl⟩, h⟩ := loopC_gen (item := itemList 5) (st := st1 0) (test := F.pure true) (elt := la8Elt) (D := 7) (N := pl.length)
    (fun j S => ∃ kv, S = ⟨[kv, .ref 2], [a, b, .list (dl.map .int), c, d, .list (pl.map fun k : Nat => AV.int (k : Int)), e, .list ((pl.take j).map fun k => AV.int (dl.getD k 0))], 1⟩)
    (fun j m S hj ⟨kv, eS⟩ => by
      subst eS
      obtain ⟨p, hpj⟩ : ∃ p, pl[j]? = some p := ⟨pl[j], List.getElem?_eq_getElem hj⟩
      have hlt := hp p (List.mem_of_getElem? hpj)
      refine ⟨⟨[.int (p : Int), .ref 2], [a, b, .list (dl.map .int), c, d, .list (pl.map fun k : Nat => AV.int (k : Int)), e, .list ((pl.take (j + 1)).map fun k => AV.int (dl.getD k 0))], 1⟩, ⟨_, rfl⟩, ?_⟩
      rw [take_succ_map hpj]
      have hi : (pl.map fun k : Nat => AV.int (k : Int))[j]? = some (.int (p : Int)) := by rw [List.getElem?_map, hpj]; rfl
      have hv : (dl.map AV.int)[p]? = some (.int (dl.getD p 0)) := by
        rw [List.getElem?_map, List.getElem?_eq_getElem hlt]
        simp [List.getD_eq_getElem?_getD, hlt]
      have he : la8Elt ⟨[.int (p : Int), .ref 2], [a, b, .list (dl.map .int), c, d, .list (pl.map fun k : Nat => AV.int (k : Int)), e, .list ((pl.take j).map fun k => AV.int (dl.getD k 0))], 1⟩ = some (.int (dl.getD p 0), ⟨[.int (p : Int), .ref 2], [a, b, .list (dl.map .int), c, d, .list (pl.map fun k : Nat => AV.int (k : Int)), e, .list ((pl.take j).map fun k => AV.int (dl.getD k 0))], 1⟩) := by
        refine bind_to (a := .ref 2) rfl (bind_to (int_to (l := (p : Int)) rfl) ?_)
        exact item_to rfl hv (by omega)
      exact loopC_add (list_item rfl hi) rfl rfl he (appendF_to (D := 7) (S := ⟨[.int (p : Int), .ref 2], [a, b, .list (dl.map .int), c, d, .list (pl.map fun k : Nat => AV.int (k : Int)), e, .list ((pl.take j).map fun k => AV.int (dl.getD k 0))], 1⟩) (xs := (pl.take j).map fun k => AV.int (dl.getD k 0)) rfl (by show 1 ≤ 7; omega) (by simp; omega)))
    (fun S ⟨kv, eS⟩ => by subst eS; exact list_none rfl (by simp)) hn ⟨.unb, rfl⟩
  rw [List.take_length] at h
  exact ⟨_, h⟩
theorem place_lt {n one other : Nat} (h1 : one < n) (h2 : other < n) : ∀ k ∈ placesOf n one other, k < n := fun k hk => by
  unfold placesOf at hk
  rw [List.mem_map] at hk
  obtain ⟨j, hj, rfl⟩ := hk
  have := List.mem_range.mp hj
  unfold placeOf
  split
  · exact h2
  · split
    · exact h1
    · exact this
theorem places_len {n one other : Nat} : (placesOf n one other).length = n := by simp [placesOf]
noncomputable abbrev rowA (dl : List Int) (one other : Nat) : List AV := (placesOf dl.length one other).map fun k => AV.int (dl.getD k 0)
noncomputable abbrev rowB (dl : List Int) : List AV := sliceL (dl.map .int) none (some (-1))
noncomputable abbrev rowC (dl : List Int) : List AV := dl.map .int ++ [.int 0]
theorem la8 {text word names seen : List Nat} {one other : Nat} {h0 h1 h3 h4 h6 : AO} {dl : List Int} (hd : dl.length ≤ 39) (ho : one < dl.length) (ho' : other < dl.length) (hB : (rowB dl).length ≤ 1000) :
    laS8 ⟨laM text word names one other (.ref 5) (.str (tx seen)) .unb, [h0, h1, .list (dl.map .int), h3, h4, .list ((placesOf dl.length one other).map fun k : Nat => AV.int (k : Int)), h6], 1⟩ =
      some (.next, ⟨laM text word names one other (.ref 5) (.str (tx seen)) (.ref 11), [h0, h1, .list (dl.map .int), h3, h4, .list ((placesOf dl.length one other).map fun k : Nat => AV.int (k : Int)), h6, .list (rowA dl one other), .list (rowB dl), .list [.int 0], .list (rowC dl), .list [.ref 7, .ref 8, .ref 10]], 1⟩) := by
  obtain ⟨m, h⟩ := la8_loop (dl := dl) (pl := placesOf dl.length one other) (by rw [places_len]; omega) (place_lt ho ho') (by omega) (a := h0) (b := h1) (c := h3) (d := h4) (e := h6)
  rw [laS8_eq]
  generalize hM : laM text word names one other (.ref 5) (.str (tx seen)) .unb = M
  have gM : ∀ H, getVar 4 ⟨M, H, 1⟩ = some (.ref 2, ⟨M, H, 1⟩) := fun H => by rw [← hM]; rfl
  have gM7 : ∀ H, getVar 7 ⟨M, H, 1⟩ = some (.ref 5, ⟨M, H, 1⟩) := fun H => by rw [← hM]; rfl
  have hcap : List.replicate 1 AV.unb ++ [4].map (fun i => (M[i]?).getD .unb) = [.unb, .ref 2] := by rw [← hM]; rfl
  have hset : laM text word names one other (.ref 5) (.str (tx seen)) (.ref 11) = M.set 9 (.ref 11) := by rw [← hM]; rfl
  rw [hset]
  generalize hP : (placesOf dl.length one other).map (fun k : Nat => AV.int (k : Int)) = P at h ⊢
  have hc : compF la8Src 1 [4] (st1 0) (F.pure true) la8Elt 40 ⟨M, [h0, h1, .list (dl.map .int), h3, h4, .list P, h6], 1⟩ = some (.ref 7, ⟨M, [h0, h1, .list (dl.map .int), h3, h4, .list P, h6, .list (rowA dl one other)], 1⟩) :=
    compF_to (nl := 1) (caps := [4]) (S₁ := ⟨M, [h0, h1, .list (dl.map .int), h3, h4, .list P, h6], 1⟩) (S₂ := ⟨m, [h0, h1, .list (dl.map .int), h3, h4, .list P, h6, .list (rowA dl one other)], 1⟩) (item := itemList 5) (bind_to (gM7 _) rfl) (by
      show loopC _ _ _ _ 7 40 0 ⟨List.replicate 1 AV.unb ++ [4].map (fun i => (M[i]?).getD .unb), _, _⟩ = _
      rw [hcap]; exact h)
  have hb : sliceF (.ref 2) .none (.int (-1)) ⟨M, [h0, h1, .list (dl.map .int), h3, h4, .list P, h6, .list (rowA dl one other)], 1⟩ = some (.ref 8, ⟨M, [h0, h1, .list (dl.map .int), h3, h4, .list P, h6, .list (rowA dl one other), .list (rowB dl)], 1⟩) := by
    exact slice_none (i := 2) (xs := dl.map .int) rfl (by simp; omega) (by show (rowB dl).length ≤ _; omega)
  have hz : newAt (.list [.int 0]) ⟨M, [h0, h1, .list (dl.map .int), h3, h4, .list P, h6, .list (rowA dl one other), .list (rowB dl)], 1⟩ = some (.ref 9, ⟨M, [h0, h1, .list (dl.map .int), h3, h4, .list P, h6, .list (rowA dl one other), .list (rowB dl), .list [.int 0]], 1⟩) := new_to (o := .list [.int 0]) (by simp [AO.items])
  have ha : addF (.ref 2) (.ref 9) ⟨M, [h0, h1, .list (dl.map .int), h3, h4, .list P, h6, .list (rowA dl one other), .list (rowB dl), .list [.int 0]], 1⟩ = some (.ref 10, ⟨M, [h0, h1, .list (dl.map .int), h3, h4, .list P, h6, .list (rowA dl one other), .list (rowB dl), .list [.int 0], .list (rowC dl)], 1⟩) := by
    exact add_lists (i := 2) (j := 9) (xs := dl.map .int) (ys := [.int 0]) rfl rfl (by simp; omega)
  have hn : newAt (.list [.ref 7, .ref 8, .ref 10]) ⟨M, [h0, h1, .list (dl.map .int), h3, h4, .list P, h6, .list (rowA dl one other), .list (rowB dl), .list [.int 0], .list (rowC dl)], 1⟩ = some (.ref 11, ⟨M, [h0, h1, .list (dl.map .int), h3, h4, .list P, h6, .list (rowA dl one other), .list (rowB dl), .list [.int 0], .list (rowC dl), .list [.ref 7, .ref 8, .ref 10]], 1⟩) := new_to (o := .list [.ref 7, .ref 8, .ref 10]) (by simp [AO.items])
  refine asg_to (v := .ref 11) (S' := ⟨M, [h0, h1, .list (dl.map .int), h3, h4, .list P, h6, .list (rowA dl one other), .list (rowB dl), .list [.int 0], .list (rowC dl), .list [.ref 7, .ref 8, .ref 10]], 1⟩) ?_
  refine bind_to (bind_to hc (bind_to (bind_to (bind_to (gM _) (bind_to rfl (bind_to rfl hb))) ?_) rfl)) hn
  exact bind_to (bind_to (bind_to (gM _) (bind_to (bind_to (bind_to rfl rfl) hz) ha)) rfl) rfl
end Mine
end

section
set_option maxRecDepth 100000
set_option maxHeartbeats 2000000
set_option linter.unusedVariables false
open PySem PySem.W PyProof.Rows PySem.Calls PySem.Challenge
namespace Mine
/-- agrees on a row of another order -/
noncomputable def AgZ (names : List Nat) (row : List AV) : Prop := gAgrees [.list row, .v (.str (tx [])), .v (.str (tx (names ++ [122])))] = some (.v (.bool true))
theorem la9_test {names : List Nat} {r : Nat} {row : List AV} {H : List AO} (hn : names.length ≤ 1000) (hr : H[r]? = some (.list row)) (hp : row.all plain = true) (h : AgZ names row) :
    la9Test ⟨[.ref r, .str (tx names)], H, 1⟩ = some (false, ⟨[.ref r, .str (tx names)], H, 1⟩) := by
  have hz : (F.pure (AV.str "")) (⟨[.ref r, .str (tx names)], H, 1⟩ : St) = some (.str (tx []), ⟨[.ref r, .str (tx names)], H, 1⟩) := by rw [s_empty]; rfl
  have hz' : (F.pure (AV.str "z")) (⟨[.ref r, .str (tx names)], H, 1⟩ : St) = some (.str (tx [122]), ⟨[.ref r, .str (tx names)], H, 1⟩) := by rw [s_z]; rfl
  have ha : appF gAgrees [.ref r, .str (tx []), .str (tx (names ++ [122]))] ⟨[.ref r, .str (tx names)], H, 1⟩ = some (.bool true, ⟨[.ref r, .str (tx names)], H, 1⟩) := app_to (by simp [refsOf]) (derefs_row hr hp) h rfl
  refine bind_to (a := true) (bind_to (bind_to (bind_to (a := .ref r) rfl (bind_to (bind_to hz (bind_to (bind_to (bind_to (str_to (l := names) rfl) (bind_to hz' (add_str (by simp; omega)))) rfl) rfl)) rfl)) ha) rfl) rfl
theorem eq_nil {i j : Nat} {S : St} (h1 : S.H[i]? = some (.list [])) (h2 : S.H[j]? = some (.list [])) : eqF false (.ref i) (.ref j) S = some (.bool true, S) := by
  unfold eqF
  exact lists2_to h1 h2 rfl
theorem la9 {text word names seen : List Nat} {one other : Nat} {h0 h1 h2 h3 h4 h5 h6 h9 : AO} {ra rb rc : List AV} (hn : names.length ≤ 1000) (pa : ra.all plain = true) (pb : rb.all plain = true) (pc : rc.all plain = true)
    (ga : AgZ names ra) (gb : AgZ names rb) (gc : AgZ names rc) : ∃ S', laS9 ⟨laM text word names one other (.ref 5) (.str (tx seen)) (.ref 11), [h0, h1, h2, h3, h4, h5, h6, .list ra, .list rb, h9, .list rc, .list [.ref 7, .ref 8, .ref 10]], 1⟩ = some (.ret (.bool true), S') := by
  rw [laS9_eq]
  generalize hM : laM text word names one other (.ref 5) (.str (tx seen)) (.ref 11) = M
  have g9 : ∀ H, getVar 9 ⟨M, H, 1⟩ = some (.ref 11, ⟨M, H, 1⟩) := fun H => by rw [← hM]; rfl
  have hcap : List.replicate 1 AV.unb ++ [3].map (fun i => (M[i]?).getD .unb) = [.unb, .str (tx names)] := by rw [← hM]; rfl
  have hl : loopC (itemList 11) (st1 0) la9Test (getVar 0) 12 40 0 ⟨[.unb, .str (tx names)], [h0, h1, h2, h3, h4, h5, h6, .list ra, .list rb, h9, .list rc, .list [.ref 7, .ref 8, .ref 10], .list []], 1⟩ = some ((), ⟨[.ref 10, .str (tx names)], [h0, h1, h2, h3, h4, h5, h6, .list ra, .list rb, h9, .list rc, .list [.ref 7, .ref 8, .ref 10], .list []], 1⟩) := by
    refine (loopC_skip (n := 39) (S₁ := ⟨[.ref 7, .str (tx names)], [h0, h1, h2, h3, h4, h5, h6, .list ra, .list rb, h9, .list rc, .list [.ref 7, .ref 8, .ref 10], .list []], 1⟩) (list_item rfl (v := .ref 7) rfl) rfl (la9_test hn rfl pa ga)).trans ?_
    refine (loopC_skip (n := 38) (S₁ := ⟨[.ref 8, .str (tx names)], [h0, h1, h2, h3, h4, h5, h6, .list ra, .list rb, h9, .list rc, .list [.ref 7, .ref 8, .ref 10], .list []], 1⟩) (list_item rfl (v := .ref 8) rfl) rfl (la9_test hn rfl pb gb)).trans ?_
    refine (loopC_skip (n := 37) (S₁ := ⟨[.ref 10, .str (tx names)], [h0, h1, h2, h3, h4, h5, h6, .list ra, .list rb, h9, .list rc, .list [.ref 7, .ref 8, .ref 10], .list []], 1⟩) (list_item rfl (v := .ref 10) rfl) rfl (la9_test hn rfl pc gc)).trans ?_
    exact loopC_end (n := 36) (list_none rfl rfl)
  have hc : compF la9Src 1 [3] (st1 0) la9Test (getVar 0) 40 ⟨M, [h0, h1, h2, h3, h4, h5, h6, .list ra, .list rb, h9, .list rc, .list [.ref 7, .ref 8, .ref 10]], 1⟩ = some (.ref 12, ⟨M, [h0, h1, h2, h3, h4, h5, h6, .list ra, .list rb, h9, .list rc, .list [.ref 7, .ref 8, .ref 10], .list []], 1⟩) :=
    compF_to (nl := 1) (caps := [3]) (S₁ := ⟨M, [h0, h1, h2, h3, h4, h5, h6, .list ra, .list rb, h9, .list rc, .list [.ref 7, .ref 8, .ref 10]], 1⟩) (S₂ := ⟨[.ref 10, .str (tx names)], [h0, h1, h2, h3, h4, h5, h6, .list ra, .list rb, h9, .list rc, .list [.ref 7, .ref 8, .ref 10], .list []], 1⟩) (item := itemList 11) (bind_to (g9 _) rfl) (by
      show loopC _ _ _ _ 12 40 0 ⟨List.replicate 1 AV.unb ++ [3].map (fun i => (M[i]?).getD .unb), _, _⟩ = _
      rw [hcap]; exact hl)
  refine ⟨⟨M, [h0, h1, h2, h3, h4, h5, h6, .list ra, .list rb, h9, .list rc, .list [.ref 7, .ref 8, .ref 10], .list [], .list []], 1⟩, ?_⟩
  refine bind_to (a := .bool true) (bind_to hc (bind_to (a := .ref 13) (bind_to rfl (new_to (Nat.zero_le _))) ?_)) rfl
  exact eq_nil (i := 12) (j := 13) rfl rfl
/-- all that is asked of a word and its depths -/
structure WordOk (word names ss : List Nat) (dl : List Int) : Prop where
  d : gDepths [.v (.str (tx word))] = some (.list (dl.map .int))
  w : gWord [.list (dl.map .int)] = some (.v (.str (tx word)))
  n0 : 0 < dl.length
  n1 : dl.length ≤ 39
  nn : names.length ≤ 1000
  b : (rowB dl).length ≤ 1000
  bp : (rowB dl).all plain = true
  ag : gAgrees [.list (dl.map .int), .v (.str (tx ss)), .v (.str (tx names))] = some (.v (.bool true))
  ra : ∀ one < dl.length, ∀ other < dl.length, AgZ names (rowA dl one other)
  rb : AgZ names (rowB dl)
  rc : AgZ names (rowC dl)
theorem law_run {sc : List Int} {text word names ss : List Nat} {dl : List Int} (hs : sc.length ≤ 1000) (hd : gDraw [.list (sc.map .int)] = some (.tup [.str (tx text), .str (tx word), .str (tx names)])) (ht : text.length ≤ 39) (hf : text.filter notB1 = ss) (h : WordOk word names ss dl) :
    ∃ S', fLaw ⟨.ref 0 :: List.replicate 9 .unb, [.list (sc.map .int)], 1⟩ = some (.ret (.bool true), S') := by
  subst hf
  obtain ⟨one, s1, h1, e3⟩ := la3 (sc := sc) (text := text) (word := word) (names := names) (dl := dl) (tp := .tup [.str (tx text), .str (tx word), .str (tx names)]) hs h.n0 (by have := h.n1; omega)
  obtain ⟨other, s2, h2, e4⟩ := la4 (sc := sc) (text := text) (word := word) (names := names) (dl := dl) (tp := .tup [.str (tx text), .str (tx word), .str (tx names)]) (s1 := s1) (one := one) hs h.n0 (by have := h.n1; omega)
  obtain ⟨S', e9⟩ := la9 (text := text) (word := word) (names := names) (seen := text.filter notB1) (one := one) (other := other) (h0 := .list (sc.map .int)) (h1 := .tup [.str (tx text), .str (tx word), .str (tx names)]) (h2 := .list (dl.map .int)) (h3 := .list s1) (h4 := .list s2) (h5 := .list ((placesOf dl.length one other).map fun k : Nat => AV.int (k : Int))) (h6 := .list ((text.filter notB1).map fun c => AV.str (tx [c]))) (h9 := .list [.int 0]) (ra := rowA dl one other) (rb := rowB dl) (rc := rowC dl) h.nn (by simp [plain]) h.bp (by simp [plain]) (h.ra one h1 other h2) h.rb h.rc
  refine ⟨S', ?_⟩
  rw [fLaw_eq]
  refine seq_to (la1 hd) ?_
  refine seq_to (la2 h.d (by have := h.n1; omega)) ?_
  refine seq_to e3 ?_
  refine seq_to e4 ?_
  refine seq_to (la5 h.n1) ?_
  refine seq_to (la6 ht) ?_
  refine seq_to (la7 h.w h.ag) ?_
  refine seq_to (la8 h.n1 h1 h2 h.b) ?_
  exact bind_to e9 rfl
end Mine
end

section
set_option maxRecDepth 100000
set_option maxHeartbeats 2000000
set_option linter.unusedVariables false
open PySem PySem.W PyProof.Rows PySem.Calls PySem.Challenge
namespace Mine
inductive Sh where
  | leaf
  | node (l r : Sh)
noncomputable def Sh.word : Sh → List Nat
  | .leaf => [41]
  | .node l r => 40 :: (l.word ++ r.word)
noncomputable def Sh.depths : Sh → Int → List Int
  | .leaf, d => [d]
  | .node l r, d => l.depths (d + 1) ++ r.depths (d + 1)
noncomputable def Sh.count : Sh → Nat
  | .leaf => 1
  | .node l r => l.count + r.count
noncomputable def Tr.shape : Tr → Sh
  | .leaf _ => .leaf
  | .node _ l r => .node l.shape r.shape
noncomputable def Tr.names : Tr → List Nat
  | .leaf c => [c]
  | .node _ l r => l.names ++ r.names
theorem Tr.names_len : ∀ t : Tr, t.names.length = t.shape.count
  | .leaf _ => rfl
  | .node _ l r => by rw [Tr.names, Tr.shape, Sh.count, List.length_append, l.names_len, r.names_len]
theorem Tr.names_ok : ∀ t : Tr, t.ok → ∀ c ∈ t.names, leafOk c = true
  | .leaf c, h, x, hx => by rw [List.mem_singleton.mp hx]; exact h
  | .node _ l r, h, x, hx => by
    rcases List.mem_append.mp hx with q | q
    · exact l.names_ok h.2.1 x q
    · exact r.names_ok h.2.2 x q
theorem Tr.filter : ∀ t : Tr, t.ok → t.code.filter notC7 = t.names
  | .leaf c, h => by
    have : notC7 c = true := by unfold notC7; rw [(leafOk_of h).1]; rfl
    rw [Tr.code, Tr.names, List.filter_cons, if_pos this]; rfl
  | .node c l r, h => by
    have : notC7 c = false := by unfold notC7; rw [h.1]; rfl
    rw [Tr.code, Tr.names, List.filter_cons, this, if_neg Bool.false_ne_true, List.filter_append, l.filter h.2.1, r.filter h.2.2]
theorem inv_leaf {t : Tr} (h : t.shape = .leaf) : ∃ c, t = .leaf c := by
  cases t with
  | leaf c => exact ⟨c, rfl⟩
  | node c l r => cases h
theorem inv_node {t : Tr} {a b : Sh} (h : t.shape = .node a b) : ∃ c l r, t = .node c l r ∧ l.shape = a ∧ r.shape = b := by
  cases t with
  | leaf c => cases h
  | node c l r =>
    rw [Tr.shape, Sh.node.injEq] at h
    exact ⟨c, l, r, rfl, h.1, h.2⟩
theorem br_pair {c : Nat} (h : br c = 40) : setC7.contains (c : Int) = true := by
  unfold br at h
  cases hc : setC7.contains (c : Int) with
  | true => rfl
  | false => rw [hc] at h; cases h
theorem br_leaf {c : Nat} (h : br c = 41) (hs : signOk c = true) : leafOk c = true := by
  unfold br at h
  unfold signOk at hs
  cases hc : setC7.contains (c : Int) with
  | true => rw [hc] at h; cases h
  | false =>
    rw [hc, Bool.and_eq_true, Bool.false_or] at hs
    exact hs.1
theorem parse : ∀ (sh : Sh) (ss w : List Nat), ss.map br = sh.word ++ w → (∀ c ∈ ss, signOk c = true) → ∃ (t : Tr) (ss' : List Nat), t.ok ∧ t.shape = sh ∧ ss = t.code ++ ss' ∧ ss'.map br = w
  | .leaf, ss, w, h, hs => by
    cases ss with
    | nil => cases h
    | cons c r =>
      rw [Sh.word, List.map_cons] at h
      injection h with h1 h2
      exact ⟨.leaf c, r, br_leaf h1 (hs c (.head _)), rfl, rfl, h2⟩
  | .node a b, ss, w, h, hs => by
    cases ss with
    | nil => cases h
    | cons c r =>
      rw [Sh.word, List.map_cons, List.cons_append, List.append_assoc] at h
      injection h with h1 h2
      obtain ⟨l, s1, l1, l2, l3, l4⟩ := parse a r _ h2 fun x hx => hs x (.tail _ hx)
      obtain ⟨q, s2, r1, r2, r3, r4⟩ := parse b s1 w l4 fun x hx => hs x (.tail _ (by rw [l3]; exact List.mem_append_right _ hx))
      refine ⟨.node c l q, s2, ⟨br_pair h1, l1, r1⟩, by rw [Tr.shape, l2, r2], ?_, r4⟩
      rw [Tr.code, l3, r3]; simp
/-- no row of a tree -/
noncomputable def invalid (row : List Int) : Bool := decide (gWord [.list (row.map .int)] = some (.v .none)) && decide (gIsTree [.list (row.map .int)] = some (.v (.bool false)))
theorem agrees_invalid {row : List Int} (h : invalid row = true) (a b : Str) : gAgrees [.list (row.map .int), .v (.str a), .v (.str b)] = some (.v (.bool true)) := by
  unfold invalid at h
  rw [Bool.and_eq_true, decide_eq_true_iff, decide_eq_true_iff] at h
  obtain ⟨h1, h2⟩ := h
  have hp := ints_plain row
  have w1 : ∀ m, appF gWord [.ref 0] ⟨m, [.list (row.map .int)], 1⟩ = some (.none, ⟨m, [.list (row.map .int)], 1⟩) := fun m => app_to (by simp [refsOf]) (derefs_one rfl hp) h1 rfl
  have w2 : ∀ m, appF gIsTree [.ref 0] ⟨m, [.list (row.map .int)], 1⟩ = some (.bool false, ⟨m, [.list (row.map .int)], 1⟩) := fun m => app_to (by simp [refsOf]) (derefs_one rfl hp) h2 rfl
  have e : fAgrees (agSt (row.map .int) a b) = some (.ret (.bool true), ⟨[.ref 0, .str a, .str b, .none, .unb, .unb, .unb, .unb, .unb, .unb], [.list (row.map .int)], 1⟩) := by
    rw [fAgrees_eq]
    refine seq_to (S' := ⟨[.ref 0, .str a, .str b, .none, .unb, .unb, .unb, .unb, .unb, .unb], [.list (row.map .int)], 1⟩) (asg_to (v := .none) (S' := agSt (row.map .int) a b) ?_) ?_
    · exact bind_to (bind_to rfl rfl) (w1 _)
    · refine bind_to (a := .ret (.bool true)) (S' := ⟨[.ref 0, .str a, .str b, .none, .unb, .unb, .unb, .unb, .unb, .unb], [.list (row.map .int)], 1⟩) ?_ rfl
      refine if_true (S' := ⟨[.ref 0, .str a, .str b, .none, .unb, .unb, .unb, .unb, .unb, .unb], [.list (row.map .int)], 1⟩) rfl ?_
      refine bind_to (a := .ret (.bool true)) (S' := ⟨[.ref 0, .str a, .str b, .none, .unb, .unb, .unb, .unb, .unb, .unb], [.list (row.map .int)], 1⟩) ?_ rfl
      refine bind_to (a := .bool true) (S' := ⟨[.ref 0, .str a, .str b, .none, .unb, .unb, .unb, .unb, .unb, .unb], [.list (row.map .int)], 1⟩) ?_ rfl
      refine bind_to (a := .bool true) rfl (bind_to (a := true) rfl ?_)
      exact bind_to (bind_to rfl (w2 _)) rfl
  have h : gAgrees [.list (row.map .int), .v (.str a), .v (.str b)] = callF 7 fAgrees [.list (row.map .int), .v (.str a), .v (.str b)] := if_pos rfl
  rw [h]
  exact callF_to (n := 7) (body := fAgrees) (ds := [.list (row.map .int), .v (.str a), .v (.str b)]) e rfl
noncomputable abbrev dsOf (l : List (Nat × Nat)) : List (List Nat) := l.map fun p => List.replicate (p.1 + 2) 46 ++ [p.2, 13, 10]
theorem due_ds (t : Tr) : (dsOf (t.leaves 0)).flatten = t.due := by
  unfold dsOf Tr.due
  rw [List.flatMap_def]
/-- a row of a tree -/
theorem agrees_tree {row : List AV} {sg nm made : Str} {j : Nat} (t : Tr) (ho : obsA (agSt row sg nm) = some (.bool true, .str sg, .str made, .ref j, (dsOf (t.leaves 0)).map fun l => AV.str (tx l)))
    (ht : t.ok) (hs : t.size ≤ 39) (hx : sg = tx t.code ∨ (sg = tx [] ∧ made = tx t.code)) (hl : Nat.ble t.due.length 1048576 = true) : gAgrees [.list row, .v (.str sg), .v (.str nm)] = some (.v (.bool true)) :=
  agrees_of ho ht hs hx (due_ds t) (Nat.le_of_ble_eq_true hl)
noncomputable def rowAI (dl : List Int) (one other : Nat) : List Int := (placesOf dl.length one other).map fun k => dl.getD k 0
theorem rowA_eq (dl : List Int) (one other : Nat) : rowA dl one other = (rowAI dl one other).map .int := by
  unfold rowA rowAI
  rw [List.map_map]; rfl
theorem place_comm (one other k : Nat) : placeOf one other k = placeOf other one k := by
  unfold placeOf
  by_cases h1 : k = one
  · by_cases h2 : k = other
    · rw [if_pos h1, if_pos h2, ← h1, ← h2]
    · rw [if_pos h1, if_neg h2, if_pos h1]
  · by_cases h2 : k = other
    · rw [if_neg h1, if_pos h2, if_pos h2]
    · rw [if_neg h1, if_neg h2, if_neg h2, if_neg h1]
theorem rowAI_comm (dl : List Int) (one other : Nat) : rowAI dl one other = rowAI dl other one := by
  unfold rowAI placesOf
  rw [show placeOf one other = placeOf other one from funext (place_comm one other)]
theorem rowAI_self (dl : List Int) (one : Nat) : rowAI dl one one = dl := by
  unfold rowAI placesOf
  have e : placeOf one one = id := funext fun k => by
    unfold placeOf
    split
    · rename_i h; rw [h]; rfl
    · rfl
  rw [e, List.map_id]
  apply List.ext_getElem
  · simp
  · intro i h1 h2
    simp [List.getD_eq_getElem?_getD, h2]
/-- the rows that a word's exchange gives are of a tree in this list or of none -/
noncomputable def swapsOk (valid : List (List Int)) (dl : List Int) : Bool := decide (dl ∈ valid) && (List.range dl.length).all fun one => (List.range one).all fun other => decide (rowAI dl one other ∈ valid) || invalid (rowAI dl one other)
theorem swaps_of {valid : List (List Int)} {dl : List Int} {names : List Nat} (h : swapsOk valid dl = true) (hv : ∀ row ∈ valid, row.length = dl.length → AgZ names (row.map .int)) : ∀ one < dl.length, ∀ other < dl.length, AgZ names (rowA dl one other) := by
  unfold swapsOk at h
  rw [Bool.and_eq_true, decide_eq_true_iff] at h
  have key : ∀ one < dl.length, ∀ other < one, AgZ names ((rowAI dl one other).map .int) := fun one h1 other h2 => by
    have h3 := List.all_eq_true.mp (List.all_eq_true.mp h.2 one (List.mem_range.mpr h1)) other (List.mem_range.mpr h2)
    rw [Bool.or_eq_true, decide_eq_true_iff] at h3
    rcases h3 with q | q
    · exact hv _ q (by simp [rowAI, placesOf])
    · exact agrees_invalid q _ _
  intro one h1 other h2
  rw [rowA_eq]
  rcases Nat.lt_trichotomy one other with q | q | q
  · rw [rowAI_comm]; exact key other h2 one q
  · subst q
    rw [rowAI_self]; exact hv _ h.1 rfl
  · exact key one h1 other q
end Mine
end

section
set_option maxRecDepth 100000
set_option maxHeartbeats 2000000
set_option linter.unusedVariables false
open PySem PySem.W PyProof.Rows PySem.Calls PySem.Challenge
namespace Mine
theorem obz0 (sg : Str) (n0 : Nat) : obsA (agSt [.int 0] sg (tx [n0, 122])) = some (.bool true, .str sg, .str (tx [n0]), .ref 3, (dsOf [(0, n0)]).map fun l => AV.str (tx l)) := by kernel_rfl
theorem ob0 (sg : Str) (n0 : Nat) : obsA (agSt [.int 0] sg (tx [n0])) = some (.bool true, .str sg, .str (tx [n0]), .ref 3, (dsOf [(0, n0)]).map fun l => AV.str (tx l)) := by kernel_rfl
theorem vz0 : ∀ nm : List Nat, nm.length = 1 → (∀ c ∈ nm, leafOk c = true) → AgZ nm [.int 0]
  | [n0], _, h => agrees_tree (.leaf n0) (obz0 (tx []) n0) (h n0 (by simp)) (Nat.le_of_ble_eq_true rfl) (.inr ⟨rfl, rfl⟩) (by kernel_rfl)
theorem obz1 (sg : Str) (n0 n1 : Nat) : obsA (agSt [.int 1, .int 1] sg (tx [n0, n1, 122])) = some (.bool true, .str sg, .str (tx [12272, n0, n1]), .ref 5, (dsOf [(1, n0), (1, n1)]).map fun l => AV.str (tx l)) := by kernel_rfl
theorem ob1 (sg : Str) (n0 n1 : Nat) : obsA (agSt [.int 1, .int 1] sg (tx [n0, n1])) = some (.bool true, .str sg, .str (tx [12272, n0, n1]), .ref 5, (dsOf [(1, n0), (1, n1)]).map fun l => AV.str (tx l)) := by kernel_rfl
theorem vz1 : ∀ nm : List Nat, nm.length = 2 → (∀ c ∈ nm, leafOk c = true) → AgZ nm [.int 1, .int 1]
  | [n0, n1], _, h => agrees_tree (.node 12272 (.leaf n0) (.leaf n1)) (obz1 (tx []) n0 n1) ⟨by decide +kernel, (h n0 (by simp)), (h n1 (by simp))⟩ (Nat.le_of_ble_eq_true rfl) (.inr ⟨rfl, rfl⟩) (by kernel_rfl)
theorem obz2 (sg : Str) (n0 n1 n2 : Nat) : obsA (agSt [.int 1, .int 2, .int 2] sg (tx [n0, n1, n2, 122])) = some (.bool true, .str sg, .str (tx [12272, n0, 12274, n1, n2]), .ref 7, (dsOf [(1, n0), (2, n1), (2, n2)]).map fun l => AV.str (tx l)) := by kernel_rfl
theorem ob2 (sg : Str) (n0 n1 n2 : Nat) : obsA (agSt [.int 1, .int 2, .int 2] sg (tx [n0, n1, n2])) = some (.bool true, .str sg, .str (tx [12272, n0, 12274, n1, n2]), .ref 7, (dsOf [(1, n0), (2, n1), (2, n2)]).map fun l => AV.str (tx l)) := by kernel_rfl
theorem vz2 : ∀ nm : List Nat, nm.length = 3 → (∀ c ∈ nm, leafOk c = true) → AgZ nm [.int 1, .int 2, .int 2]
  | [n0, n1, n2], _, h => agrees_tree (.node 12272 (.leaf n0) (.node 12274 (.leaf n1) (.leaf n2))) (obz2 (tx []) n0 n1 n2) ⟨by decide +kernel, (h n0 (by simp)), ⟨by decide +kernel, (h n1 (by simp)), (h n2 (by simp))⟩⟩ (Nat.le_of_ble_eq_true rfl) (.inr ⟨rfl, rfl⟩) (by kernel_rfl)
theorem obz3 (sg : Str) (n0 n1 n2 : Nat) : obsA (agSt [.int 2, .int 2, .int 1] sg (tx [n0, n1, n2, 122])) = some (.bool true, .str sg, .str (tx [12272, 12273, n0, n1, n2]), .ref 7, (dsOf [(2, n0), (2, n1), (1, n2)]).map fun l => AV.str (tx l)) := by kernel_rfl
theorem ob3 (sg : Str) (n0 n1 n2 : Nat) : obsA (agSt [.int 2, .int 2, .int 1] sg (tx [n0, n1, n2])) = some (.bool true, .str sg, .str (tx [12272, 12273, n0, n1, n2]), .ref 7, (dsOf [(2, n0), (2, n1), (1, n2)]).map fun l => AV.str (tx l)) := by kernel_rfl
theorem vz3 : ∀ nm : List Nat, nm.length = 3 → (∀ c ∈ nm, leafOk c = true) → AgZ nm [.int 2, .int 2, .int 1]
  | [n0, n1, n2], _, h => agrees_tree (.node 12272 (.node 12273 (.leaf n0) (.leaf n1)) (.leaf n2)) (obz3 (tx []) n0 n1 n2) ⟨by decide +kernel, ⟨by decide +kernel, (h n0 (by simp)), (h n1 (by simp))⟩, (h n2 (by simp))⟩ (Nat.le_of_ble_eq_true rfl) (.inr ⟨rfl, rfl⟩) (by kernel_rfl)
theorem obz4 (sg : Str) (n0 n1 n2 n3 : Nat) : obsA (agSt [.int 1, .int 2, .int 3, .int 3] sg (tx [n0, n1, n2, n3, 122])) = some (.bool true, .str sg, .str (tx [12272, n0, 12274, n1, 12276, n2, n3]), .ref 9, (dsOf [(1, n0), (2, n1), (3, n2), (3, n3)]).map fun l => AV.str (tx l)) := by kernel_rfl
theorem ob4 (sg : Str) (n0 n1 n2 n3 : Nat) : obsA (agSt [.int 1, .int 2, .int 3, .int 3] sg (tx [n0, n1, n2, n3])) = some (.bool true, .str sg, .str (tx [12272, n0, 12274, n1, 12276, n2, n3]), .ref 9, (dsOf [(1, n0), (2, n1), (3, n2), (3, n3)]).map fun l => AV.str (tx l)) := by kernel_rfl
theorem vz4 : ∀ nm : List Nat, nm.length = 4 → (∀ c ∈ nm, leafOk c = true) → AgZ nm [.int 1, .int 2, .int 3, .int 3]
  | [n0, n1, n2, n3], _, h => agrees_tree (.node 12272 (.leaf n0) (.node 12274 (.leaf n1) (.node 12276 (.leaf n2) (.leaf n3)))) (obz4 (tx []) n0 n1 n2 n3) ⟨by decide +kernel, (h n0 (by simp)), ⟨by decide +kernel, (h n1 (by simp)), ⟨by decide +kernel, (h n2 (by simp)), (h n3 (by simp))⟩⟩⟩ (Nat.le_of_ble_eq_true rfl) (.inr ⟨rfl, rfl⟩) (by kernel_rfl)
theorem obz5 (sg : Str) (n0 n1 n2 n3 : Nat) : obsA (agSt [.int 1, .int 3, .int 3, .int 2] sg (tx [n0, n1, n2, n3, 122])) = some (.bool true, .str sg, .str (tx [12272, n0, 12274, 12275, n1, n2, n3]), .ref 9, (dsOf [(1, n0), (3, n1), (3, n2), (2, n3)]).map fun l => AV.str (tx l)) := by kernel_rfl
theorem ob5 (sg : Str) (n0 n1 n2 n3 : Nat) : obsA (agSt [.int 1, .int 3, .int 3, .int 2] sg (tx [n0, n1, n2, n3])) = some (.bool true, .str sg, .str (tx [12272, n0, 12274, 12275, n1, n2, n3]), .ref 9, (dsOf [(1, n0), (3, n1), (3, n2), (2, n3)]).map fun l => AV.str (tx l)) := by kernel_rfl
theorem vz5 : ∀ nm : List Nat, nm.length = 4 → (∀ c ∈ nm, leafOk c = true) → AgZ nm [.int 1, .int 3, .int 3, .int 2]
  | [n0, n1, n2, n3], _, h => agrees_tree (.node 12272 (.leaf n0) (.node 12274 (.node 12275 (.leaf n1) (.leaf n2)) (.leaf n3))) (obz5 (tx []) n0 n1 n2 n3) ⟨by decide +kernel, (h n0 (by simp)), ⟨by decide +kernel, ⟨by decide +kernel, (h n1 (by simp)), (h n2 (by simp))⟩, (h n3 (by simp))⟩⟩ (Nat.le_of_ble_eq_true rfl) (.inr ⟨rfl, rfl⟩) (by kernel_rfl)
theorem obz6 (sg : Str) (n0 n1 n2 n3 : Nat) : obsA (agSt [.int 2, .int 2, .int 2, .int 2] sg (tx [n0, n1, n2, n3, 122])) = some (.bool true, .str sg, .str (tx [12272, 12273, n0, n1, 12276, n2, n3]), .ref 9, (dsOf [(2, n0), (2, n1), (2, n2), (2, n3)]).map fun l => AV.str (tx l)) := by kernel_rfl
theorem ob6 (sg : Str) (n0 n1 n2 n3 : Nat) : obsA (agSt [.int 2, .int 2, .int 2, .int 2] sg (tx [n0, n1, n2, n3])) = some (.bool true, .str sg, .str (tx [12272, 12273, n0, n1, 12276, n2, n3]), .ref 9, (dsOf [(2, n0), (2, n1), (2, n2), (2, n3)]).map fun l => AV.str (tx l)) := by kernel_rfl
theorem vz6 : ∀ nm : List Nat, nm.length = 4 → (∀ c ∈ nm, leafOk c = true) → AgZ nm [.int 2, .int 2, .int 2, .int 2]
  | [n0, n1, n2, n3], _, h => agrees_tree (.node 12272 (.node 12273 (.leaf n0) (.leaf n1)) (.node 12276 (.leaf n2) (.leaf n3))) (obz6 (tx []) n0 n1 n2 n3) ⟨by decide +kernel, ⟨by decide +kernel, (h n0 (by simp)), (h n1 (by simp))⟩, ⟨by decide +kernel, (h n2 (by simp)), (h n3 (by simp))⟩⟩ (Nat.le_of_ble_eq_true rfl) (.inr ⟨rfl, rfl⟩) (by kernel_rfl)
theorem obz7 (sg : Str) (n0 n1 n2 n3 : Nat) : obsA (agSt [.int 2, .int 3, .int 3, .int 1] sg (tx [n0, n1, n2, n3, 122])) = some (.bool true, .str sg, .str (tx [12272, 12273, n0, 12275, n1, n2, n3]), .ref 9, (dsOf [(2, n0), (3, n1), (3, n2), (1, n3)]).map fun l => AV.str (tx l)) := by kernel_rfl
theorem ob7 (sg : Str) (n0 n1 n2 n3 : Nat) : obsA (agSt [.int 2, .int 3, .int 3, .int 1] sg (tx [n0, n1, n2, n3])) = some (.bool true, .str sg, .str (tx [12272, 12273, n0, 12275, n1, n2, n3]), .ref 9, (dsOf [(2, n0), (3, n1), (3, n2), (1, n3)]).map fun l => AV.str (tx l)) := by kernel_rfl
theorem vz7 : ∀ nm : List Nat, nm.length = 4 → (∀ c ∈ nm, leafOk c = true) → AgZ nm [.int 2, .int 3, .int 3, .int 1]
  | [n0, n1, n2, n3], _, h => agrees_tree (.node 12272 (.node 12273 (.leaf n0) (.node 12275 (.leaf n1) (.leaf n2))) (.leaf n3)) (obz7 (tx []) n0 n1 n2 n3) ⟨by decide +kernel, ⟨by decide +kernel, (h n0 (by simp)), ⟨by decide +kernel, (h n1 (by simp)), (h n2 (by simp))⟩⟩, (h n3 (by simp))⟩ (Nat.le_of_ble_eq_true rfl) (.inr ⟨rfl, rfl⟩) (by kernel_rfl)
theorem obz8 (sg : Str) (n0 n1 n2 n3 : Nat) : obsA (agSt [.int 3, .int 3, .int 2, .int 1] sg (tx [n0, n1, n2, n3, 122])) = some (.bool true, .str sg, .str (tx [12272, 12273, 12274, n0, n1, n2, n3]), .ref 9, (dsOf [(3, n0), (3, n1), (2, n2), (1, n3)]).map fun l => AV.str (tx l)) := by kernel_rfl
theorem ob8 (sg : Str) (n0 n1 n2 n3 : Nat) : obsA (agSt [.int 3, .int 3, .int 2, .int 1] sg (tx [n0, n1, n2, n3])) = some (.bool true, .str sg, .str (tx [12272, 12273, 12274, n0, n1, n2, n3]), .ref 9, (dsOf [(3, n0), (3, n1), (2, n2), (1, n3)]).map fun l => AV.str (tx l)) := by kernel_rfl
theorem vz8 : ∀ nm : List Nat, nm.length = 4 → (∀ c ∈ nm, leafOk c = true) → AgZ nm [.int 3, .int 3, .int 2, .int 1]
  | [n0, n1, n2, n3], _, h => agrees_tree (.node 12272 (.node 12273 (.node 12274 (.leaf n0) (.leaf n1)) (.leaf n2)) (.leaf n3)) (obz8 (tx []) n0 n1 n2 n3) ⟨by decide +kernel, ⟨by decide +kernel, ⟨by decide +kernel, (h n0 (by simp)), (h n1 (by simp))⟩, (h n2 (by simp))⟩, (h n3 (by simp))⟩ (Nat.le_of_ble_eq_true rfl) (.inr ⟨rfl, rfl⟩) (by kernel_rfl)
theorem obz9 (sg : Str) (n0 n1 n2 n3 n4 : Nat) : obsA (agSt [.int 1, .int 2, .int 3, .int 4, .int 4] sg (tx [n0, n1, n2, n3, n4, 122])) = some (.bool true, .str sg, .str (tx [12272, n0, 12274, n1, 12276, n2, 12278, n3, n4]), .ref 11, (dsOf [(1, n0), (2, n1), (3, n2), (4, n3), (4, n4)]).map fun l => AV.str (tx l)) := by kernel_rfl
theorem vz9 : ∀ nm : List Nat, nm.length = 5 → (∀ c ∈ nm, leafOk c = true) → AgZ nm [.int 1, .int 2, .int 3, .int 4, .int 4]
  | [n0, n1, n2, n3, n4], _, h => agrees_tree (.node 12272 (.leaf n0) (.node 12274 (.leaf n1) (.node 12276 (.leaf n2) (.node 12278 (.leaf n3) (.leaf n4))))) (obz9 (tx []) n0 n1 n2 n3 n4) ⟨by decide +kernel, (h n0 (by simp)), ⟨by decide +kernel, (h n1 (by simp)), ⟨by decide +kernel, (h n2 (by simp)), ⟨by decide +kernel, (h n3 (by simp)), (h n4 (by simp))⟩⟩⟩⟩ (Nat.le_of_ble_eq_true rfl) (.inr ⟨rfl, rfl⟩) (by kernel_rfl)
theorem obz10 (sg : Str) (n0 n1 n2 n3 n4 : Nat) : obsA (agSt [.int 1, .int 2, .int 4, .int 4, .int 3] sg (tx [n0, n1, n2, n3, n4, 122])) = some (.bool true, .str sg, .str (tx [12272, n0, 12274, n1, 12276, 12277, n2, n3, n4]), .ref 11, (dsOf [(1, n0), (2, n1), (4, n2), (4, n3), (3, n4)]).map fun l => AV.str (tx l)) := by kernel_rfl
theorem ob10 (sg : Str) (n0 n1 n2 n3 n4 : Nat) : obsA (agSt [.int 1, .int 2, .int 4, .int 4, .int 3] sg (tx [n0, n1, n2, n3, n4])) = some (.bool true, .str sg, .str (tx [12272, n0, 12274, n1, 12276, 12277, n2, n3, n4]), .ref 11, (dsOf [(1, n0), (2, n1), (4, n2), (4, n3), (3, n4)]).map fun l => AV.str (tx l)) := by kernel_rfl
theorem vz10 : ∀ nm : List Nat, nm.length = 5 → (∀ c ∈ nm, leafOk c = true) → AgZ nm [.int 1, .int 2, .int 4, .int 4, .int 3]
  | [n0, n1, n2, n3, n4], _, h => agrees_tree (.node 12272 (.leaf n0) (.node 12274 (.leaf n1) (.node 12276 (.node 12277 (.leaf n2) (.leaf n3)) (.leaf n4)))) (obz10 (tx []) n0 n1 n2 n3 n4) ⟨by decide +kernel, (h n0 (by simp)), ⟨by decide +kernel, (h n1 (by simp)), ⟨by decide +kernel, ⟨by decide +kernel, (h n2 (by simp)), (h n3 (by simp))⟩, (h n4 (by simp))⟩⟩⟩ (Nat.le_of_ble_eq_true rfl) (.inr ⟨rfl, rfl⟩) (by kernel_rfl)
theorem obz11 (sg : Str) (n0 n1 n2 n3 n4 : Nat) : obsA (agSt [.int 1, .int 3, .int 3, .int 3, .int 3] sg (tx [n0, n1, n2, n3, n4, 122])) = some (.bool true, .str sg, .str (tx [12272, n0, 12274, 12275, n1, n2, 12278, n3, n4]), .ref 11, (dsOf [(1, n0), (3, n1), (3, n2), (3, n3), (3, n4)]).map fun l => AV.str (tx l)) := by kernel_rfl
theorem vz11 : ∀ nm : List Nat, nm.length = 5 → (∀ c ∈ nm, leafOk c = true) → AgZ nm [.int 1, .int 3, .int 3, .int 3, .int 3]
  | [n0, n1, n2, n3, n4], _, h => agrees_tree (.node 12272 (.leaf n0) (.node 12274 (.node 12275 (.leaf n1) (.leaf n2)) (.node 12278 (.leaf n3) (.leaf n4)))) (obz11 (tx []) n0 n1 n2 n3 n4) ⟨by decide +kernel, (h n0 (by simp)), ⟨by decide +kernel, ⟨by decide +kernel, (h n1 (by simp)), (h n2 (by simp))⟩, ⟨by decide +kernel, (h n3 (by simp)), (h n4 (by simp))⟩⟩⟩ (Nat.le_of_ble_eq_true rfl) (.inr ⟨rfl, rfl⟩) (by kernel_rfl)
theorem obz12 (sg : Str) (n0 n1 n2 n3 n4 : Nat) : obsA (agSt [.int 1, .int 3, .int 4, .int 4, .int 2] sg (tx [n0, n1, n2, n3, n4, 122])) = some (.bool true, .str sg, .str (tx [12272, n0, 12274, 12275, n1, 12277, n2, n3, n4]), .ref 11, (dsOf [(1, n0), (3, n1), (4, n2), (4, n3), (2, n4)]).map fun l => AV.str (tx l)) := by kernel_rfl
theorem ob12 (sg : Str) (n0 n1 n2 n3 n4 : Nat) : obsA (agSt [.int 1, .int 3, .int 4, .int 4, .int 2] sg (tx [n0, n1, n2, n3, n4])) = some (.bool true, .str sg, .str (tx [12272, n0, 12274, 12275, n1, 12277, n2, n3, n4]), .ref 11, (dsOf [(1, n0), (3, n1), (4, n2), (4, n3), (2, n4)]).map fun l => AV.str (tx l)) := by kernel_rfl
theorem vz12 : ∀ nm : List Nat, nm.length = 5 → (∀ c ∈ nm, leafOk c = true) → AgZ nm [.int 1, .int 3, .int 4, .int 4, .int 2]
  | [n0, n1, n2, n3, n4], _, h => agrees_tree (.node 12272 (.leaf n0) (.node 12274 (.node 12275 (.leaf n1) (.node 12277 (.leaf n2) (.leaf n3))) (.leaf n4))) (obz12 (tx []) n0 n1 n2 n3 n4) ⟨by decide +kernel, (h n0 (by simp)), ⟨by decide +kernel, ⟨by decide +kernel, (h n1 (by simp)), ⟨by decide +kernel, (h n2 (by simp)), (h n3 (by simp))⟩⟩, (h n4 (by simp))⟩⟩ (Nat.le_of_ble_eq_true rfl) (.inr ⟨rfl, rfl⟩) (by kernel_rfl)
theorem obz13 (sg : Str) (n0 n1 n2 n3 n4 : Nat) : obsA (agSt [.int 1, .int 4, .int 4, .int 3, .int 2] sg (tx [n0, n1, n2, n3, n4, 122])) = some (.bool true, .str sg, .str (tx [12272, n0, 12274, 12275, 12276, n1, n2, n3, n4]), .ref 11, (dsOf [(1, n0), (4, n1), (4, n2), (3, n3), (2, n4)]).map fun l => AV.str (tx l)) := by kernel_rfl
theorem ob13 (sg : Str) (n0 n1 n2 n3 n4 : Nat) : obsA (agSt [.int 1, .int 4, .int 4, .int 3, .int 2] sg (tx [n0, n1, n2, n3, n4])) = some (.bool true, .str sg, .str (tx [12272, n0, 12274, 12275, 12276, n1, n2, n3, n4]), .ref 11, (dsOf [(1, n0), (4, n1), (4, n2), (3, n3), (2, n4)]).map fun l => AV.str (tx l)) := by kernel_rfl
theorem vz13 : ∀ nm : List Nat, nm.length = 5 → (∀ c ∈ nm, leafOk c = true) → AgZ nm [.int 1, .int 4, .int 4, .int 3, .int 2]
  | [n0, n1, n2, n3, n4], _, h => agrees_tree (.node 12272 (.leaf n0) (.node 12274 (.node 12275 (.node 12276 (.leaf n1) (.leaf n2)) (.leaf n3)) (.leaf n4))) (obz13 (tx []) n0 n1 n2 n3 n4) ⟨by decide +kernel, (h n0 (by simp)), ⟨by decide +kernel, ⟨by decide +kernel, ⟨by decide +kernel, (h n1 (by simp)), (h n2 (by simp))⟩, (h n3 (by simp))⟩, (h n4 (by simp))⟩⟩ (Nat.le_of_ble_eq_true rfl) (.inr ⟨rfl, rfl⟩) (by kernel_rfl)
theorem obz14 (sg : Str) (n0 n1 n2 n3 n4 : Nat) : obsA (agSt [.int 2, .int 2, .int 2, .int 3, .int 3] sg (tx [n0, n1, n2, n3, n4, 122])) = some (.bool true, .str sg, .str (tx [12272, 12273, n0, n1, 12276, n2, 12278, n3, n4]), .ref 11, (dsOf [(2, n0), (2, n1), (2, n2), (3, n3), (3, n4)]).map fun l => AV.str (tx l)) := by kernel_rfl
theorem vz14 : ∀ nm : List Nat, nm.length = 5 → (∀ c ∈ nm, leafOk c = true) → AgZ nm [.int 2, .int 2, .int 2, .int 3, .int 3]
  | [n0, n1, n2, n3, n4], _, h => agrees_tree (.node 12272 (.node 12273 (.leaf n0) (.leaf n1)) (.node 12276 (.leaf n2) (.node 12278 (.leaf n3) (.leaf n4)))) (obz14 (tx []) n0 n1 n2 n3 n4) ⟨by decide +kernel, ⟨by decide +kernel, (h n0 (by simp)), (h n1 (by simp))⟩, ⟨by decide +kernel, (h n2 (by simp)), ⟨by decide +kernel, (h n3 (by simp)), (h n4 (by simp))⟩⟩⟩ (Nat.le_of_ble_eq_true rfl) (.inr ⟨rfl, rfl⟩) (by kernel_rfl)
theorem obz15 (sg : Str) (n0 n1 n2 n3 n4 : Nat) : obsA (agSt [.int 2, .int 2, .int 3, .int 3, .int 2] sg (tx [n0, n1, n2, n3, n4, 122])) = some (.bool true, .str sg, .str (tx [12272, 12273, n0, n1, 12276, 12277, n2, n3, n4]), .ref 11, (dsOf [(2, n0), (2, n1), (3, n2), (3, n3), (2, n4)]).map fun l => AV.str (tx l)) := by kernel_rfl
theorem ob15 (sg : Str) (n0 n1 n2 n3 n4 : Nat) : obsA (agSt [.int 2, .int 2, .int 3, .int 3, .int 2] sg (tx [n0, n1, n2, n3, n4])) = some (.bool true, .str sg, .str (tx [12272, 12273, n0, n1, 12276, 12277, n2, n3, n4]), .ref 11, (dsOf [(2, n0), (2, n1), (3, n2), (3, n3), (2, n4)]).map fun l => AV.str (tx l)) := by kernel_rfl
theorem vz15 : ∀ nm : List Nat, nm.length = 5 → (∀ c ∈ nm, leafOk c = true) → AgZ nm [.int 2, .int 2, .int 3, .int 3, .int 2]
  | [n0, n1, n2, n3, n4], _, h => agrees_tree (.node 12272 (.node 12273 (.leaf n0) (.leaf n1)) (.node 12276 (.node 12277 (.leaf n2) (.leaf n3)) (.leaf n4))) (obz15 (tx []) n0 n1 n2 n3 n4) ⟨by decide +kernel, ⟨by decide +kernel, (h n0 (by simp)), (h n1 (by simp))⟩, ⟨by decide +kernel, ⟨by decide +kernel, (h n2 (by simp)), (h n3 (by simp))⟩, (h n4 (by simp))⟩⟩ (Nat.le_of_ble_eq_true rfl) (.inr ⟨rfl, rfl⟩) (by kernel_rfl)
theorem obz16 (sg : Str) (n0 n1 n2 n3 n4 : Nat) : obsA (agSt [.int 2, .int 3, .int 3, .int 2, .int 2] sg (tx [n0, n1, n2, n3, n4, 122])) = some (.bool true, .str sg, .str (tx [12272, 12273, n0, 12275, n1, n2, 12278, n3, n4]), .ref 11, (dsOf [(2, n0), (3, n1), (3, n2), (2, n3), (2, n4)]).map fun l => AV.str (tx l)) := by kernel_rfl
theorem vz16 : ∀ nm : List Nat, nm.length = 5 → (∀ c ∈ nm, leafOk c = true) → AgZ nm [.int 2, .int 3, .int 3, .int 2, .int 2]
  | [n0, n1, n2, n3, n4], _, h => agrees_tree (.node 12272 (.node 12273 (.leaf n0) (.node 12275 (.leaf n1) (.leaf n2))) (.node 12278 (.leaf n3) (.leaf n4))) (obz16 (tx []) n0 n1 n2 n3 n4) ⟨by decide +kernel, ⟨by decide +kernel, (h n0 (by simp)), ⟨by decide +kernel, (h n1 (by simp)), (h n2 (by simp))⟩⟩, ⟨by decide +kernel, (h n3 (by simp)), (h n4 (by simp))⟩⟩ (Nat.le_of_ble_eq_true rfl) (.inr ⟨rfl, rfl⟩) (by kernel_rfl)
theorem obz17 (sg : Str) (n0 n1 n2 n3 n4 : Nat) : obsA (agSt [.int 2, .int 3, .int 4, .int 4, .int 1] sg (tx [n0, n1, n2, n3, n4, 122])) = some (.bool true, .str sg, .str (tx [12272, 12273, n0, 12275, n1, 12277, n2, n3, n4]), .ref 11, (dsOf [(2, n0), (3, n1), (4, n2), (4, n3), (1, n4)]).map fun l => AV.str (tx l)) := by kernel_rfl
theorem ob17 (sg : Str) (n0 n1 n2 n3 n4 : Nat) : obsA (agSt [.int 2, .int 3, .int 4, .int 4, .int 1] sg (tx [n0, n1, n2, n3, n4])) = some (.bool true, .str sg, .str (tx [12272, 12273, n0, 12275, n1, 12277, n2, n3, n4]), .ref 11, (dsOf [(2, n0), (3, n1), (4, n2), (4, n3), (1, n4)]).map fun l => AV.str (tx l)) := by kernel_rfl
theorem vz17 : ∀ nm : List Nat, nm.length = 5 → (∀ c ∈ nm, leafOk c = true) → AgZ nm [.int 2, .int 3, .int 4, .int 4, .int 1]
  | [n0, n1, n2, n3, n4], _, h => agrees_tree (.node 12272 (.node 12273 (.leaf n0) (.node 12275 (.leaf n1) (.node 12277 (.leaf n2) (.leaf n3)))) (.leaf n4)) (obz17 (tx []) n0 n1 n2 n3 n4) ⟨by decide +kernel, ⟨by decide +kernel, (h n0 (by simp)), ⟨by decide +kernel, (h n1 (by simp)), ⟨by decide +kernel, (h n2 (by simp)), (h n3 (by simp))⟩⟩⟩, (h n4 (by simp))⟩ (Nat.le_of_ble_eq_true rfl) (.inr ⟨rfl, rfl⟩) (by kernel_rfl)
theorem obz18 (sg : Str) (n0 n1 n2 n3 n4 : Nat) : obsA (agSt [.int 2, .int 4, .int 4, .int 3, .int 1] sg (tx [n0, n1, n2, n3, n4, 122])) = some (.bool true, .str sg, .str (tx [12272, 12273, n0, 12275, 12276, n1, n2, n3, n4]), .ref 11, (dsOf [(2, n0), (4, n1), (4, n2), (3, n3), (1, n4)]).map fun l => AV.str (tx l)) := by kernel_rfl
theorem ob18 (sg : Str) (n0 n1 n2 n3 n4 : Nat) : obsA (agSt [.int 2, .int 4, .int 4, .int 3, .int 1] sg (tx [n0, n1, n2, n3, n4])) = some (.bool true, .str sg, .str (tx [12272, 12273, n0, 12275, 12276, n1, n2, n3, n4]), .ref 11, (dsOf [(2, n0), (4, n1), (4, n2), (3, n3), (1, n4)]).map fun l => AV.str (tx l)) := by kernel_rfl
theorem vz18 : ∀ nm : List Nat, nm.length = 5 → (∀ c ∈ nm, leafOk c = true) → AgZ nm [.int 2, .int 4, .int 4, .int 3, .int 1]
  | [n0, n1, n2, n3, n4], _, h => agrees_tree (.node 12272 (.node 12273 (.leaf n0) (.node 12275 (.node 12276 (.leaf n1) (.leaf n2)) (.leaf n3))) (.leaf n4)) (obz18 (tx []) n0 n1 n2 n3 n4) ⟨by decide +kernel, ⟨by decide +kernel, (h n0 (by simp)), ⟨by decide +kernel, ⟨by decide +kernel, (h n1 (by simp)), (h n2 (by simp))⟩, (h n3 (by simp))⟩⟩, (h n4 (by simp))⟩ (Nat.le_of_ble_eq_true rfl) (.inr ⟨rfl, rfl⟩) (by kernel_rfl)
theorem obz19 (sg : Str) (n0 n1 n2 n3 n4 : Nat) : obsA (agSt [.int 3, .int 3, .int 3, .int 3, .int 1] sg (tx [n0, n1, n2, n3, n4, 122])) = some (.bool true, .str sg, .str (tx [12272, 12273, 12274, n0, n1, 12277, n2, n3, n4]), .ref 11, (dsOf [(3, n0), (3, n1), (3, n2), (3, n3), (1, n4)]).map fun l => AV.str (tx l)) := by kernel_rfl
theorem ob19 (sg : Str) (n0 n1 n2 n3 n4 : Nat) : obsA (agSt [.int 3, .int 3, .int 3, .int 3, .int 1] sg (tx [n0, n1, n2, n3, n4])) = some (.bool true, .str sg, .str (tx [12272, 12273, 12274, n0, n1, 12277, n2, n3, n4]), .ref 11, (dsOf [(3, n0), (3, n1), (3, n2), (3, n3), (1, n4)]).map fun l => AV.str (tx l)) := by kernel_rfl
theorem vz19 : ∀ nm : List Nat, nm.length = 5 → (∀ c ∈ nm, leafOk c = true) → AgZ nm [.int 3, .int 3, .int 3, .int 3, .int 1]
  | [n0, n1, n2, n3, n4], _, h => agrees_tree (.node 12272 (.node 12273 (.node 12274 (.leaf n0) (.leaf n1)) (.node 12277 (.leaf n2) (.leaf n3))) (.leaf n4)) (obz19 (tx []) n0 n1 n2 n3 n4) ⟨by decide +kernel, ⟨by decide +kernel, ⟨by decide +kernel, (h n0 (by simp)), (h n1 (by simp))⟩, ⟨by decide +kernel, (h n2 (by simp)), (h n3 (by simp))⟩⟩, (h n4 (by simp))⟩ (Nat.le_of_ble_eq_true rfl) (.inr ⟨rfl, rfl⟩) (by kernel_rfl)
theorem obz20 (sg : Str) (n0 n1 n2 n3 n4 : Nat) : obsA (agSt [.int 3, .int 4, .int 4, .int 2, .int 1] sg (tx [n0, n1, n2, n3, n4, 122])) = some (.bool true, .str sg, .str (tx [12272, 12273, 12274, n0, 12276, n1, n2, n3, n4]), .ref 11, (dsOf [(3, n0), (4, n1), (4, n2), (2, n3), (1, n4)]).map fun l => AV.str (tx l)) := by kernel_rfl
theorem ob20 (sg : Str) (n0 n1 n2 n3 n4 : Nat) : obsA (agSt [.int 3, .int 4, .int 4, .int 2, .int 1] sg (tx [n0, n1, n2, n3, n4])) = some (.bool true, .str sg, .str (tx [12272, 12273, 12274, n0, 12276, n1, n2, n3, n4]), .ref 11, (dsOf [(3, n0), (4, n1), (4, n2), (2, n3), (1, n4)]).map fun l => AV.str (tx l)) := by kernel_rfl
theorem vz20 : ∀ nm : List Nat, nm.length = 5 → (∀ c ∈ nm, leafOk c = true) → AgZ nm [.int 3, .int 4, .int 4, .int 2, .int 1]
  | [n0, n1, n2, n3, n4], _, h => agrees_tree (.node 12272 (.node 12273 (.node 12274 (.leaf n0) (.node 12276 (.leaf n1) (.leaf n2))) (.leaf n3)) (.leaf n4)) (obz20 (tx []) n0 n1 n2 n3 n4) ⟨by decide +kernel, ⟨by decide +kernel, ⟨by decide +kernel, (h n0 (by simp)), ⟨by decide +kernel, (h n1 (by simp)), (h n2 (by simp))⟩⟩, (h n3 (by simp))⟩, (h n4 (by simp))⟩ (Nat.le_of_ble_eq_true rfl) (.inr ⟨rfl, rfl⟩) (by kernel_rfl)
theorem obz21 (sg : Str) (n0 n1 n2 n3 n4 : Nat) : obsA (agSt [.int 4, .int 4, .int 3, .int 2, .int 1] sg (tx [n0, n1, n2, n3, n4, 122])) = some (.bool true, .str sg, .str (tx [12272, 12273, 12274, 12275, n0, n1, n2, n3, n4]), .ref 11, (dsOf [(4, n0), (4, n1), (3, n2), (2, n3), (1, n4)]).map fun l => AV.str (tx l)) := by kernel_rfl
theorem ob21 (sg : Str) (n0 n1 n2 n3 n4 : Nat) : obsA (agSt [.int 4, .int 4, .int 3, .int 2, .int 1] sg (tx [n0, n1, n2, n3, n4])) = some (.bool true, .str sg, .str (tx [12272, 12273, 12274, 12275, n0, n1, n2, n3, n4]), .ref 11, (dsOf [(4, n0), (4, n1), (3, n2), (2, n3), (1, n4)]).map fun l => AV.str (tx l)) := by kernel_rfl
theorem vz21 : ∀ nm : List Nat, nm.length = 5 → (∀ c ∈ nm, leafOk c = true) → AgZ nm [.int 4, .int 4, .int 3, .int 2, .int 1]
  | [n0, n1, n2, n3, n4], _, h => agrees_tree (.node 12272 (.node 12273 (.node 12274 (.node 12275 (.leaf n0) (.leaf n1)) (.leaf n2)) (.leaf n3)) (.leaf n4)) (obz21 (tx []) n0 n1 n2 n3 n4) ⟨by decide +kernel, ⟨by decide +kernel, ⟨by decide +kernel, ⟨by decide +kernel, (h n0 (by simp)), (h n1 (by simp))⟩, (h n2 (by simp))⟩, (h n3 (by simp))⟩, (h n4 (by simp))⟩ (Nat.le_of_ble_eq_true rfl) (.inr ⟨rfl, rfl⟩) (by kernel_rfl)
theorem obz22 (sg : Str) (n0 n1 n2 n3 n4 n5 : Nat) : obsA (agSt [.int 1, .int 4, .int 5, .int 5, .int 3, .int 2] sg (tx [n0, n1, n2, n3, n4, n5, 122])) = some (.bool true, .str sg, .str (tx [12272, n0, 12274, 12275, 12276, n1, 12278, n2, n3, n4, n5]), .ref 13, (dsOf [(1, n0), (4, n1), (5, n2), (5, n3), (3, n4), (2, n5)]).map fun l => AV.str (tx l)) := by kernel_rfl
theorem vz22 : ∀ nm : List Nat, nm.length = 6 → (∀ c ∈ nm, leafOk c = true) → AgZ nm [.int 1, .int 4, .int 5, .int 5, .int 3, .int 2]
  | [n0, n1, n2, n3, n4, n5], _, h => agrees_tree (.node 12272 (.leaf n0) (.node 12274 (.node 12275 (.node 12276 (.leaf n1) (.node 12278 (.leaf n2) (.leaf n3))) (.leaf n4)) (.leaf n5))) (obz22 (tx []) n0 n1 n2 n3 n4 n5) ⟨by decide +kernel, (h n0 (by simp)), ⟨by decide +kernel, ⟨by decide +kernel, ⟨by decide +kernel, (h n1 (by simp)), ⟨by decide +kernel, (h n2 (by simp)), (h n3 (by simp))⟩⟩, (h n4 (by simp))⟩, (h n5 (by simp))⟩⟩ (Nat.le_of_ble_eq_true rfl) (.inr ⟨rfl, rfl⟩) (by kernel_rfl)
theorem obz23 (sg : Str) (n0 n1 n2 n3 n4 n5 : Nat) : obsA (agSt [.int 1, .int 5, .int 5, .int 4, .int 3, .int 2] sg (tx [n0, n1, n2, n3, n4, n5, 122])) = some (.bool true, .str sg, .str (tx [12272, n0, 12274, 12275, 12276, 12277, n1, n2, n3, n4, n5]), .ref 13, (dsOf [(1, n0), (5, n1), (5, n2), (4, n3), (3, n4), (2, n5)]).map fun l => AV.str (tx l)) := by kernel_rfl
theorem ob23 (sg : Str) (n0 n1 n2 n3 n4 n5 : Nat) : obsA (agSt [.int 1, .int 5, .int 5, .int 4, .int 3, .int 2] sg (tx [n0, n1, n2, n3, n4, n5])) = some (.bool true, .str sg, .str (tx [12272, n0, 12274, 12275, 12276, 12277, n1, n2, n3, n4, n5]), .ref 13, (dsOf [(1, n0), (5, n1), (5, n2), (4, n3), (3, n4), (2, n5)]).map fun l => AV.str (tx l)) := by kernel_rfl
theorem vz23 : ∀ nm : List Nat, nm.length = 6 → (∀ c ∈ nm, leafOk c = true) → AgZ nm [.int 1, .int 5, .int 5, .int 4, .int 3, .int 2]
  | [n0, n1, n2, n3, n4, n5], _, h => agrees_tree (.node 12272 (.leaf n0) (.node 12274 (.node 12275 (.node 12276 (.node 12277 (.leaf n1) (.leaf n2)) (.leaf n3)) (.leaf n4)) (.leaf n5))) (obz23 (tx []) n0 n1 n2 n3 n4 n5) ⟨by decide +kernel, (h n0 (by simp)), ⟨by decide +kernel, ⟨by decide +kernel, ⟨by decide +kernel, ⟨by decide +kernel, (h n1 (by simp)), (h n2 (by simp))⟩, (h n3 (by simp))⟩, (h n4 (by simp))⟩, (h n5 (by simp))⟩⟩ (Nat.le_of_ble_eq_true rfl) (.inr ⟨rfl, rfl⟩) (by kernel_rfl)
theorem obz24 (sg : Str) (n0 n1 n2 n3 n4 n5 : Nat) : obsA (agSt [.int 2, .int 4, .int 5, .int 5, .int 3, .int 1] sg (tx [n0, n1, n2, n3, n4, n5, 122])) = some (.bool true, .str sg, .str (tx [12272, 12273, n0, 12275, 12276, n1, 12278, n2, n3, n4, n5]), .ref 13, (dsOf [(2, n0), (4, n1), (5, n2), (5, n3), (3, n4), (1, n5)]).map fun l => AV.str (tx l)) := by kernel_rfl
theorem vz24 : ∀ nm : List Nat, nm.length = 6 → (∀ c ∈ nm, leafOk c = true) → AgZ nm [.int 2, .int 4, .int 5, .int 5, .int 3, .int 1]
  | [n0, n1, n2, n3, n4, n5], _, h => agrees_tree (.node 12272 (.node 12273 (.leaf n0) (.node 12275 (.node 12276 (.leaf n1) (.node 12278 (.leaf n2) (.leaf n3))) (.leaf n4))) (.leaf n5)) (obz24 (tx []) n0 n1 n2 n3 n4 n5) ⟨by decide +kernel, ⟨by decide +kernel, (h n0 (by simp)), ⟨by decide +kernel, ⟨by decide +kernel, (h n1 (by simp)), ⟨by decide +kernel, (h n2 (by simp)), (h n3 (by simp))⟩⟩, (h n4 (by simp))⟩⟩, (h n5 (by simp))⟩ (Nat.le_of_ble_eq_true rfl) (.inr ⟨rfl, rfl⟩) (by kernel_rfl)
theorem obz25 (sg : Str) (n0 n1 n2 n3 n4 n5 : Nat) : obsA (agSt [.int 2, .int 5, .int 5, .int 4, .int 3, .int 1] sg (tx [n0, n1, n2, n3, n4, n5, 122])) = some (.bool true, .str sg, .str (tx [12272, 12273, n0, 12275, 12276, 12277, n1, n2, n3, n4, n5]), .ref 13, (dsOf [(2, n0), (5, n1), (5, n2), (4, n3), (3, n4), (1, n5)]).map fun l => AV.str (tx l)) := by kernel_rfl
theorem ob25 (sg : Str) (n0 n1 n2 n3 n4 n5 : Nat) : obsA (agSt [.int 2, .int 5, .int 5, .int 4, .int 3, .int 1] sg (tx [n0, n1, n2, n3, n4, n5])) = some (.bool true, .str sg, .str (tx [12272, 12273, n0, 12275, 12276, 12277, n1, n2, n3, n4, n5]), .ref 13, (dsOf [(2, n0), (5, n1), (5, n2), (4, n3), (3, n4), (1, n5)]).map fun l => AV.str (tx l)) := by kernel_rfl
theorem vz25 : ∀ nm : List Nat, nm.length = 6 → (∀ c ∈ nm, leafOk c = true) → AgZ nm [.int 2, .int 5, .int 5, .int 4, .int 3, .int 1]
  | [n0, n1, n2, n3, n4, n5], _, h => agrees_tree (.node 12272 (.node 12273 (.leaf n0) (.node 12275 (.node 12276 (.node 12277 (.leaf n1) (.leaf n2)) (.leaf n3)) (.leaf n4))) (.leaf n5)) (obz25 (tx []) n0 n1 n2 n3 n4 n5) ⟨by decide +kernel, ⟨by decide +kernel, (h n0 (by simp)), ⟨by decide +kernel, ⟨by decide +kernel, ⟨by decide +kernel, (h n1 (by simp)), (h n2 (by simp))⟩, (h n3 (by simp))⟩, (h n4 (by simp))⟩⟩, (h n5 (by simp))⟩ (Nat.le_of_ble_eq_true rfl) (.inr ⟨rfl, rfl⟩) (by kernel_rfl)
theorem obz26 (sg : Str) (n0 n1 n2 n3 n4 n5 : Nat) : obsA (agSt [.int 3, .int 4, .int 5, .int 5, .int 2, .int 1] sg (tx [n0, n1, n2, n3, n4, n5, 122])) = some (.bool true, .str sg, .str (tx [12272, 12273, 12274, n0, 12276, n1, 12278, n2, n3, n4, n5]), .ref 13, (dsOf [(3, n0), (4, n1), (5, n2), (5, n3), (2, n4), (1, n5)]).map fun l => AV.str (tx l)) := by kernel_rfl
theorem vz26 : ∀ nm : List Nat, nm.length = 6 → (∀ c ∈ nm, leafOk c = true) → AgZ nm [.int 3, .int 4, .int 5, .int 5, .int 2, .int 1]
  | [n0, n1, n2, n3, n4, n5], _, h => agrees_tree (.node 12272 (.node 12273 (.node 12274 (.leaf n0) (.node 12276 (.leaf n1) (.node 12278 (.leaf n2) (.leaf n3)))) (.leaf n4)) (.leaf n5)) (obz26 (tx []) n0 n1 n2 n3 n4 n5) ⟨by decide +kernel, ⟨by decide +kernel, ⟨by decide +kernel, (h n0 (by simp)), ⟨by decide +kernel, (h n1 (by simp)), ⟨by decide +kernel, (h n2 (by simp)), (h n3 (by simp))⟩⟩⟩, (h n4 (by simp))⟩, (h n5 (by simp))⟩ (Nat.le_of_ble_eq_true rfl) (.inr ⟨rfl, rfl⟩) (by kernel_rfl)
theorem obz27 (sg : Str) (n0 n1 n2 n3 n4 n5 : Nat) : obsA (agSt [.int 3, .int 5, .int 5, .int 4, .int 2, .int 1] sg (tx [n0, n1, n2, n3, n4, n5, 122])) = some (.bool true, .str sg, .str (tx [12272, 12273, 12274, n0, 12276, 12277, n1, n2, n3, n4, n5]), .ref 13, (dsOf [(3, n0), (5, n1), (5, n2), (4, n3), (2, n4), (1, n5)]).map fun l => AV.str (tx l)) := by kernel_rfl
theorem ob27 (sg : Str) (n0 n1 n2 n3 n4 n5 : Nat) : obsA (agSt [.int 3, .int 5, .int 5, .int 4, .int 2, .int 1] sg (tx [n0, n1, n2, n3, n4, n5])) = some (.bool true, .str sg, .str (tx [12272, 12273, 12274, n0, 12276, 12277, n1, n2, n3, n4, n5]), .ref 13, (dsOf [(3, n0), (5, n1), (5, n2), (4, n3), (2, n4), (1, n5)]).map fun l => AV.str (tx l)) := by kernel_rfl
theorem vz27 : ∀ nm : List Nat, nm.length = 6 → (∀ c ∈ nm, leafOk c = true) → AgZ nm [.int 3, .int 5, .int 5, .int 4, .int 2, .int 1]
  | [n0, n1, n2, n3, n4, n5], _, h => agrees_tree (.node 12272 (.node 12273 (.node 12274 (.leaf n0) (.node 12276 (.node 12277 (.leaf n1) (.leaf n2)) (.leaf n3))) (.leaf n4)) (.leaf n5)) (obz27 (tx []) n0 n1 n2 n3 n4 n5) ⟨by decide +kernel, ⟨by decide +kernel, ⟨by decide +kernel, (h n0 (by simp)), ⟨by decide +kernel, ⟨by decide +kernel, (h n1 (by simp)), (h n2 (by simp))⟩, (h n3 (by simp))⟩⟩, (h n4 (by simp))⟩, (h n5 (by simp))⟩ (Nat.le_of_ble_eq_true rfl) (.inr ⟨rfl, rfl⟩) (by kernel_rfl)
theorem obz28 (sg : Str) (n0 n1 n2 n3 n4 n5 : Nat) : obsA (agSt [.int 4, .int 5, .int 5, .int 3, .int 2, .int 1] sg (tx [n0, n1, n2, n3, n4, n5, 122])) = some (.bool true, .str sg, .str (tx [12272, 12273, 12274, 12275, n0, 12277, n1, n2, n3, n4, n5]), .ref 13, (dsOf [(4, n0), (5, n1), (5, n2), (3, n3), (2, n4), (1, n5)]).map fun l => AV.str (tx l)) := by kernel_rfl
theorem ob28 (sg : Str) (n0 n1 n2 n3 n4 n5 : Nat) : obsA (agSt [.int 4, .int 5, .int 5, .int 3, .int 2, .int 1] sg (tx [n0, n1, n2, n3, n4, n5])) = some (.bool true, .str sg, .str (tx [12272, 12273, 12274, 12275, n0, 12277, n1, n2, n3, n4, n5]), .ref 13, (dsOf [(4, n0), (5, n1), (5, n2), (3, n3), (2, n4), (1, n5)]).map fun l => AV.str (tx l)) := by kernel_rfl
theorem vz28 : ∀ nm : List Nat, nm.length = 6 → (∀ c ∈ nm, leafOk c = true) → AgZ nm [.int 4, .int 5, .int 5, .int 3, .int 2, .int 1]
  | [n0, n1, n2, n3, n4, n5], _, h => agrees_tree (.node 12272 (.node 12273 (.node 12274 (.node 12275 (.leaf n0) (.node 12277 (.leaf n1) (.leaf n2))) (.leaf n3)) (.leaf n4)) (.leaf n5)) (obz28 (tx []) n0 n1 n2 n3 n4 n5) ⟨by decide +kernel, ⟨by decide +kernel, ⟨by decide +kernel, ⟨by decide +kernel, (h n0 (by simp)), ⟨by decide +kernel, (h n1 (by simp)), (h n2 (by simp))⟩⟩, (h n3 (by simp))⟩, (h n4 (by simp))⟩, (h n5 (by simp))⟩ (Nat.le_of_ble_eq_true rfl) (.inr ⟨rfl, rfl⟩) (by kernel_rfl)
theorem obz29 (sg : Str) (n0 n1 n2 n3 n4 n5 : Nat) : obsA (agSt [.int 5, .int 5, .int 4, .int 3, .int 2, .int 1] sg (tx [n0, n1, n2, n3, n4, n5, 122])) = some (.bool true, .str sg, .str (tx [12272, 12273, 12274, 12275, 12276, n0, n1, n2, n3, n4, n5]), .ref 13, (dsOf [(5, n0), (5, n1), (4, n2), (3, n3), (2, n4), (1, n5)]).map fun l => AV.str (tx l)) := by kernel_rfl
theorem ob29 (sg : Str) (n0 n1 n2 n3 n4 n5 : Nat) : obsA (agSt [.int 5, .int 5, .int 4, .int 3, .int 2, .int 1] sg (tx [n0, n1, n2, n3, n4, n5])) = some (.bool true, .str sg, .str (tx [12272, 12273, 12274, 12275, 12276, n0, n1, n2, n3, n4, n5]), .ref 13, (dsOf [(5, n0), (5, n1), (4, n2), (3, n3), (2, n4), (1, n5)]).map fun l => AV.str (tx l)) := by kernel_rfl
theorem vz29 : ∀ nm : List Nat, nm.length = 6 → (∀ c ∈ nm, leafOk c = true) → AgZ nm [.int 5, .int 5, .int 4, .int 3, .int 2, .int 1]
  | [n0, n1, n2, n3, n4, n5], _, h => agrees_tree (.node 12272 (.node 12273 (.node 12274 (.node 12275 (.node 12276 (.leaf n0) (.leaf n1)) (.leaf n2)) (.leaf n3)) (.leaf n4)) (.leaf n5)) (obz29 (tx []) n0 n1 n2 n3 n4 n5) ⟨by decide +kernel, ⟨by decide +kernel, ⟨by decide +kernel, ⟨by decide +kernel, ⟨by decide +kernel, (h n0 (by simp)), (h n1 (by simp))⟩, (h n2 (by simp))⟩, (h n3 (by simp))⟩, (h n4 (by simp))⟩, (h n5 (by simp))⟩ (Nat.le_of_ble_eq_true rfl) (.inr ⟨rfl, rfl⟩) (by kernel_rfl)
theorem obz30 (sg : Str) (n0 n1 n2 n3 n4 n5 n6 : Nat) : obsA (agSt [.int 5, .int 6, .int 6, .int 4, .int 3, .int 2, .int 1] sg (tx [n0, n1, n2, n3, n4, n5, n6, 122])) = some (.bool true, .str sg, .str (tx [12272, 12273, 12274, 12275, 12276, n0, 12278, n1, n2, n3, n4, n5, n6]), .ref 15, (dsOf [(5, n0), (6, n1), (6, n2), (4, n3), (3, n4), (2, n5), (1, n6)]).map fun l => AV.str (tx l)) := by kernel_rfl
theorem vz30 : ∀ nm : List Nat, nm.length = 7 → (∀ c ∈ nm, leafOk c = true) → AgZ nm [.int 5, .int 6, .int 6, .int 4, .int 3, .int 2, .int 1]
  | [n0, n1, n2, n3, n4, n5, n6], _, h => agrees_tree (.node 12272 (.node 12273 (.node 12274 (.node 12275 (.node 12276 (.leaf n0) (.node 12278 (.leaf n1) (.leaf n2))) (.leaf n3)) (.leaf n4)) (.leaf n5)) (.leaf n6)) (obz30 (tx []) n0 n1 n2 n3 n4 n5 n6) ⟨by decide +kernel, ⟨by decide +kernel, ⟨by decide +kernel, ⟨by decide +kernel, ⟨by decide +kernel, (h n0 (by simp)), ⟨by decide +kernel, (h n1 (by simp)), (h n2 (by simp))⟩⟩, (h n3 (by simp))⟩, (h n4 (by simp))⟩, (h n5 (by simp))⟩, (h n6 (by simp))⟩ (Nat.le_of_ble_eq_true rfl) (.inr ⟨rfl, rfl⟩) (by kernel_rfl)
theorem obz31 (sg : Str) (n0 n1 n2 n3 n4 n5 n6 : Nat) : obsA (agSt [.int 6, .int 6, .int 5, .int 4, .int 3, .int 2, .int 1] sg (tx [n0, n1, n2, n3, n4, n5, n6, 122])) = some (.bool true, .str sg, .str (tx [12272, 12273, 12274, 12275, 12276, 12277, n0, n1, n2, n3, n4, n5, n6]), .ref 15, (dsOf [(6, n0), (6, n1), (5, n2), (4, n3), (3, n4), (2, n5), (1, n6)]).map fun l => AV.str (tx l)) := by kernel_rfl
theorem ob31 (sg : Str) (n0 n1 n2 n3 n4 n5 n6 : Nat) : obsA (agSt [.int 6, .int 6, .int 5, .int 4, .int 3, .int 2, .int 1] sg (tx [n0, n1, n2, n3, n4, n5, n6])) = some (.bool true, .str sg, .str (tx [12272, 12273, 12274, 12275, 12276, 12277, n0, n1, n2, n3, n4, n5, n6]), .ref 15, (dsOf [(6, n0), (6, n1), (5, n2), (4, n3), (3, n4), (2, n5), (1, n6)]).map fun l => AV.str (tx l)) := by kernel_rfl
theorem vz31 : ∀ nm : List Nat, nm.length = 7 → (∀ c ∈ nm, leafOk c = true) → AgZ nm [.int 6, .int 6, .int 5, .int 4, .int 3, .int 2, .int 1]
  | [n0, n1, n2, n3, n4, n5, n6], _, h => agrees_tree (.node 12272 (.node 12273 (.node 12274 (.node 12275 (.node 12276 (.node 12277 (.leaf n0) (.leaf n1)) (.leaf n2)) (.leaf n3)) (.leaf n4)) (.leaf n5)) (.leaf n6)) (obz31 (tx []) n0 n1 n2 n3 n4 n5 n6) ⟨by decide +kernel, ⟨by decide +kernel, ⟨by decide +kernel, ⟨by decide +kernel, ⟨by decide +kernel, ⟨by decide +kernel, (h n0 (by simp)), (h n1 (by simp))⟩, (h n2 (by simp))⟩, (h n3 (by simp))⟩, (h n4 (by simp))⟩, (h n5 (by simp))⟩, (h n6 (by simp))⟩ (Nat.le_of_ble_eq_true rfl) (.inr ⟨rfl, rfl⟩) (by kernel_rfl)
noncomputable def validL : List (List Int) := [[0], [1, 1], [1, 2, 2], [2, 2, 1], [1, 2, 3, 3], [1, 3, 3, 2], [2, 2, 2, 2], [2, 3, 3, 1], [3, 3, 2, 1], [1, 2, 3, 4, 4], [1, 2, 4, 4, 3], [1, 3, 3, 3, 3], [1, 3, 4, 4, 2], [1, 4, 4, 3, 2], [2, 2, 2, 3, 3], [2, 2, 3, 3, 2], [2, 3, 3, 2, 2], [2, 3, 4, 4, 1], [2, 4, 4, 3, 1], [3, 3, 3, 3, 1], [3, 4, 4, 2, 1], [4, 4, 3, 2, 1], [1, 4, 5, 5, 3, 2], [1, 5, 5, 4, 3, 2], [2, 4, 5, 5, 3, 1], [2, 5, 5, 4, 3, 1], [3, 4, 5, 5, 2, 1], [3, 5, 5, 4, 2, 1], [4, 5, 5, 3, 2, 1], [5, 5, 4, 3, 2, 1], [5, 6, 6, 4, 3, 2, 1], [6, 6, 5, 4, 3, 2, 1]]
theorem valid_all (row : List Int) (h : row ∈ validL) (nm : List Nat) (hl : row.length = nm.length) (hc : ∀ c ∈ nm, leafOk c = true) : AgZ nm (row.map .int) := by
  simp only [validL, List.mem_cons, List.not_mem_nil, or_false] at h
  rcases h with rfl | rfl | rfl | rfl | rfl | rfl | rfl | rfl | rfl | rfl | rfl | rfl | rfl | rfl | rfl | rfl | rfl | rfl | rfl | rfl | rfl | rfl | rfl | rfl | rfl | rfl | rfl | rfl | rfl | rfl | rfl | rfl
  · exact vz0 nm hl.symm hc
  · exact vz1 nm hl.symm hc
  · exact vz2 nm hl.symm hc
  · exact vz3 nm hl.symm hc
  · exact vz4 nm hl.symm hc
  · exact vz5 nm hl.symm hc
  · exact vz6 nm hl.symm hc
  · exact vz7 nm hl.symm hc
  · exact vz8 nm hl.symm hc
  · exact vz9 nm hl.symm hc
  · exact vz10 nm hl.symm hc
  · exact vz11 nm hl.symm hc
  · exact vz12 nm hl.symm hc
  · exact vz13 nm hl.symm hc
  · exact vz14 nm hl.symm hc
  · exact vz15 nm hl.symm hc
  · exact vz16 nm hl.symm hc
  · exact vz17 nm hl.symm hc
  · exact vz18 nm hl.symm hc
  · exact vz19 nm hl.symm hc
  · exact vz20 nm hl.symm hc
  · exact vz21 nm hl.symm hc
  · exact vz22 nm hl.symm hc
  · exact vz23 nm hl.symm hc
  · exact vz24 nm hl.symm hc
  · exact vz25 nm hl.symm hc
  · exact vz26 nm hl.symm hc
  · exact vz27 nm hl.symm hc
  · exact vz28 nm hl.symm hc
  · exact vz29 nm hl.symm hc
  · exact vz30 nm hl.symm hc
  · exact vz31 nm hl.symm hc
theorem vw0 (t : Tr) (ht : t.ok) (h : t.shape = .leaf) : gAgrees [.list [.int 0], .v (.str (tx t.code)), .v (.str (tx t.names))] = some (.v (.bool true)) := by
  obtain ⟨n0, rfl⟩ := inv_leaf h
  exact agrees_tree _ (ob0 _ n0) ht (Nat.le_of_ble_eq_true rfl) (.inl rfl) (by kernel_rfl)
theorem wk0 (t : Tr) (ht : t.ok) (h : t.shape = .leaf) : WordOk [41] t.names t.code [0] where
  d := by decide +kernel
  w := by decide +kernel
  n0 := by decide
  n1 := by decide
  nn := by rw [t.names_len, h]; decide
  b := by decide +kernel
  bp := by decide +kernel
  ag := vw0 t ht h
  ra := swaps_of (valid := validL) (by decide +kernel) fun row hr hl => valid_all row hr _ (by rw [t.names_len, h]; exact hl) (t.names_ok ht)
  rb := agrees_invalid (row := []) (by decide +kernel) _ _
  rc := agrees_invalid (row := [0, 0]) (by decide +kernel) _ _
theorem vw1 (t : Tr) (ht : t.ok) (h : t.shape = (.node .leaf .leaf)) : gAgrees [.list [.int 1, .int 1], .v (.str (tx t.code)), .v (.str (tx t.names))] = some (.v (.bool true)) := by
  obtain ⟨c0, l0, r0, rfl, hl0, hr0⟩ := inv_node h
  obtain ⟨n0, rfl⟩ := inv_leaf hl0
  obtain ⟨n1, rfl⟩ := inv_leaf hr0
  exact agrees_tree _ (ob1 _ n0 n1) ht (Nat.le_of_ble_eq_true rfl) (.inl rfl) (by kernel_rfl)
theorem wk1 (t : Tr) (ht : t.ok) (h : t.shape = (.node .leaf .leaf)) : WordOk [40, 41, 41] t.names t.code [1, 1] where
  d := by decide +kernel
  w := by decide +kernel
  n0 := by decide
  n1 := by decide
  nn := by rw [t.names_len, h]; decide
  b := by decide +kernel
  bp := by decide +kernel
  ag := vw1 t ht h
  ra := swaps_of (valid := validL) (by decide +kernel) fun row hr hl => valid_all row hr _ (by rw [t.names_len, h]; exact hl) (t.names_ok ht)
  rb := agrees_invalid (row := [1]) (by decide +kernel) _ _
  rc := agrees_invalid (row := [1, 1, 0]) (by decide +kernel) _ _
theorem vw2 (t : Tr) (ht : t.ok) (h : t.shape = (.node (.node .leaf .leaf) .leaf)) : gAgrees [.list [.int 2, .int 2, .int 1], .v (.str (tx t.code)), .v (.str (tx t.names))] = some (.v (.bool true)) := by
  obtain ⟨c0, l0, r0, rfl, hl0, hr0⟩ := inv_node h
  obtain ⟨c1, l1, r1, rfl, hl1, hr1⟩ := inv_node hl0
  obtain ⟨n0, rfl⟩ := inv_leaf hl1
  obtain ⟨n1, rfl⟩ := inv_leaf hr1
  obtain ⟨n2, rfl⟩ := inv_leaf hr0
  exact agrees_tree _ (ob3 _ n0 n1 n2) ht (Nat.le_of_ble_eq_true rfl) (.inl rfl) (by kernel_rfl)
theorem wk2 (t : Tr) (ht : t.ok) (h : t.shape = (.node (.node .leaf .leaf) .leaf)) : WordOk [40, 40, 41, 41, 41] t.names t.code [2, 2, 1] where
  d := by decide +kernel
  w := by decide +kernel
  n0 := by decide
  n1 := by decide
  nn := by rw [t.names_len, h]; decide
  b := by decide +kernel
  bp := by decide +kernel
  ag := vw2 t ht h
  ra := swaps_of (valid := validL) (by decide +kernel) fun row hr hl => valid_all row hr _ (by rw [t.names_len, h]; exact hl) (t.names_ok ht)
  rb := agrees_invalid (row := [2, 2]) (by decide +kernel) _ _
  rc := agrees_invalid (row := [2, 2, 1, 0]) (by decide +kernel) _ _
theorem vw3 (t : Tr) (ht : t.ok) (h : t.shape = (.node .leaf (.node .leaf .leaf))) : gAgrees [.list [.int 1, .int 2, .int 2], .v (.str (tx t.code)), .v (.str (tx t.names))] = some (.v (.bool true)) := by
  obtain ⟨c0, l0, r0, rfl, hl0, hr0⟩ := inv_node h
  obtain ⟨n0, rfl⟩ := inv_leaf hl0
  obtain ⟨c1, l1, r1, rfl, hl1, hr1⟩ := inv_node hr0
  obtain ⟨n1, rfl⟩ := inv_leaf hl1
  obtain ⟨n2, rfl⟩ := inv_leaf hr1
  exact agrees_tree _ (ob2 _ n0 n1 n2) ht (Nat.le_of_ble_eq_true rfl) (.inl rfl) (by kernel_rfl)
theorem wk3 (t : Tr) (ht : t.ok) (h : t.shape = (.node .leaf (.node .leaf .leaf))) : WordOk [40, 41, 40, 41, 41] t.names t.code [1, 2, 2] where
  d := by decide +kernel
  w := by decide +kernel
  n0 := by decide
  n1 := by decide
  nn := by rw [t.names_len, h]; decide
  b := by decide +kernel
  bp := by decide +kernel
  ag := vw3 t ht h
  ra := swaps_of (valid := validL) (by decide +kernel) fun row hr hl => valid_all row hr _ (by rw [t.names_len, h]; exact hl) (t.names_ok ht)
  rb := agrees_invalid (row := [1, 2]) (by decide +kernel) _ _
  rc := agrees_invalid (row := [1, 2, 2, 0]) (by decide +kernel) _ _
theorem vw4 (t : Tr) (ht : t.ok) (h : t.shape = (.node (.node (.node .leaf .leaf) .leaf) .leaf)) : gAgrees [.list [.int 3, .int 3, .int 2, .int 1], .v (.str (tx t.code)), .v (.str (tx t.names))] = some (.v (.bool true)) := by
  obtain ⟨c0, l0, r0, rfl, hl0, hr0⟩ := inv_node h
  obtain ⟨c1, l1, r1, rfl, hl1, hr1⟩ := inv_node hl0
  obtain ⟨c2, l2, r2, rfl, hl2, hr2⟩ := inv_node hl1
  obtain ⟨n0, rfl⟩ := inv_leaf hl2
  obtain ⟨n1, rfl⟩ := inv_leaf hr2
  obtain ⟨n2, rfl⟩ := inv_leaf hr1
  obtain ⟨n3, rfl⟩ := inv_leaf hr0
  exact agrees_tree _ (ob8 _ n0 n1 n2 n3) ht (Nat.le_of_ble_eq_true rfl) (.inl rfl) (by kernel_rfl)
theorem wk4 (t : Tr) (ht : t.ok) (h : t.shape = (.node (.node (.node .leaf .leaf) .leaf) .leaf)) : WordOk [40, 40, 40, 41, 41, 41, 41] t.names t.code [3, 3, 2, 1] where
  d := by decide +kernel
  w := by decide +kernel
  n0 := by decide
  n1 := by decide
  nn := by rw [t.names_len, h]; decide
  b := by decide +kernel
  bp := by decide +kernel
  ag := vw4 t ht h
  ra := swaps_of (valid := validL) (by decide +kernel) fun row hr hl => valid_all row hr _ (by rw [t.names_len, h]; exact hl) (t.names_ok ht)
  rb := agrees_invalid (row := [3, 3, 2]) (by decide +kernel) _ _
  rc := agrees_invalid (row := [3, 3, 2, 1, 0]) (by decide +kernel) _ _
theorem vw5 (t : Tr) (ht : t.ok) (h : t.shape = (.node (.node .leaf (.node .leaf .leaf)) .leaf)) : gAgrees [.list [.int 2, .int 3, .int 3, .int 1], .v (.str (tx t.code)), .v (.str (tx t.names))] = some (.v (.bool true)) := by
  obtain ⟨c0, l0, r0, rfl, hl0, hr0⟩ := inv_node h
  obtain ⟨c1, l1, r1, rfl, hl1, hr1⟩ := inv_node hl0
  obtain ⟨n0, rfl⟩ := inv_leaf hl1
  obtain ⟨c2, l2, r2, rfl, hl2, hr2⟩ := inv_node hr1
  obtain ⟨n1, rfl⟩ := inv_leaf hl2
  obtain ⟨n2, rfl⟩ := inv_leaf hr2
  obtain ⟨n3, rfl⟩ := inv_leaf hr0
  exact agrees_tree _ (ob7 _ n0 n1 n2 n3) ht (Nat.le_of_ble_eq_true rfl) (.inl rfl) (by kernel_rfl)
theorem wk5 (t : Tr) (ht : t.ok) (h : t.shape = (.node (.node .leaf (.node .leaf .leaf)) .leaf)) : WordOk [40, 40, 41, 40, 41, 41, 41] t.names t.code [2, 3, 3, 1] where
  d := by decide +kernel
  w := by decide +kernel
  n0 := by decide
  n1 := by decide
  nn := by rw [t.names_len, h]; decide
  b := by decide +kernel
  bp := by decide +kernel
  ag := vw5 t ht h
  ra := swaps_of (valid := validL) (by decide +kernel) fun row hr hl => valid_all row hr _ (by rw [t.names_len, h]; exact hl) (t.names_ok ht)
  rb := agrees_invalid (row := [2, 3, 3]) (by decide +kernel) _ _
  rc := agrees_invalid (row := [2, 3, 3, 1, 0]) (by decide +kernel) _ _
theorem vw6 (t : Tr) (ht : t.ok) (h : t.shape = (.node (.node .leaf .leaf) (.node .leaf .leaf))) : gAgrees [.list [.int 2, .int 2, .int 2, .int 2], .v (.str (tx t.code)), .v (.str (tx t.names))] = some (.v (.bool true)) := by
  obtain ⟨c0, l0, r0, rfl, hl0, hr0⟩ := inv_node h
  obtain ⟨c1, l1, r1, rfl, hl1, hr1⟩ := inv_node hl0
  obtain ⟨n0, rfl⟩ := inv_leaf hl1
  obtain ⟨n1, rfl⟩ := inv_leaf hr1
  obtain ⟨c2, l2, r2, rfl, hl2, hr2⟩ := inv_node hr0
  obtain ⟨n2, rfl⟩ := inv_leaf hl2
  obtain ⟨n3, rfl⟩ := inv_leaf hr2
  exact agrees_tree _ (ob6 _ n0 n1 n2 n3) ht (Nat.le_of_ble_eq_true rfl) (.inl rfl) (by kernel_rfl)
theorem wk6 (t : Tr) (ht : t.ok) (h : t.shape = (.node (.node .leaf .leaf) (.node .leaf .leaf))) : WordOk [40, 40, 41, 41, 40, 41, 41] t.names t.code [2, 2, 2, 2] where
  d := by decide +kernel
  w := by decide +kernel
  n0 := by decide
  n1 := by decide
  nn := by rw [t.names_len, h]; decide
  b := by decide +kernel
  bp := by decide +kernel
  ag := vw6 t ht h
  ra := swaps_of (valid := validL) (by decide +kernel) fun row hr hl => valid_all row hr _ (by rw [t.names_len, h]; exact hl) (t.names_ok ht)
  rb := agrees_invalid (row := [2, 2, 2]) (by decide +kernel) _ _
  rc := agrees_invalid (row := [2, 2, 2, 2, 0]) (by decide +kernel) _ _
theorem vw7 (t : Tr) (ht : t.ok) (h : t.shape = (.node .leaf (.node (.node .leaf .leaf) .leaf))) : gAgrees [.list [.int 1, .int 3, .int 3, .int 2], .v (.str (tx t.code)), .v (.str (tx t.names))] = some (.v (.bool true)) := by
  obtain ⟨c0, l0, r0, rfl, hl0, hr0⟩ := inv_node h
  obtain ⟨n0, rfl⟩ := inv_leaf hl0
  obtain ⟨c1, l1, r1, rfl, hl1, hr1⟩ := inv_node hr0
  obtain ⟨c2, l2, r2, rfl, hl2, hr2⟩ := inv_node hl1
  obtain ⟨n1, rfl⟩ := inv_leaf hl2
  obtain ⟨n2, rfl⟩ := inv_leaf hr2
  obtain ⟨n3, rfl⟩ := inv_leaf hr1
  exact agrees_tree _ (ob5 _ n0 n1 n2 n3) ht (Nat.le_of_ble_eq_true rfl) (.inl rfl) (by kernel_rfl)
theorem wk7 (t : Tr) (ht : t.ok) (h : t.shape = (.node .leaf (.node (.node .leaf .leaf) .leaf))) : WordOk [40, 41, 40, 40, 41, 41, 41] t.names t.code [1, 3, 3, 2] where
  d := by decide +kernel
  w := by decide +kernel
  n0 := by decide
  n1 := by decide
  nn := by rw [t.names_len, h]; decide
  b := by decide +kernel
  bp := by decide +kernel
  ag := vw7 t ht h
  ra := swaps_of (valid := validL) (by decide +kernel) fun row hr hl => valid_all row hr _ (by rw [t.names_len, h]; exact hl) (t.names_ok ht)
  rb := agrees_invalid (row := [1, 3, 3]) (by decide +kernel) _ _
  rc := agrees_invalid (row := [1, 3, 3, 2, 0]) (by decide +kernel) _ _
theorem vw8 (t : Tr) (ht : t.ok) (h : t.shape = (.node .leaf (.node .leaf (.node .leaf .leaf)))) : gAgrees [.list [.int 1, .int 2, .int 3, .int 3], .v (.str (tx t.code)), .v (.str (tx t.names))] = some (.v (.bool true)) := by
  obtain ⟨c0, l0, r0, rfl, hl0, hr0⟩ := inv_node h
  obtain ⟨n0, rfl⟩ := inv_leaf hl0
  obtain ⟨c1, l1, r1, rfl, hl1, hr1⟩ := inv_node hr0
  obtain ⟨n1, rfl⟩ := inv_leaf hl1
  obtain ⟨c2, l2, r2, rfl, hl2, hr2⟩ := inv_node hr1
  obtain ⟨n2, rfl⟩ := inv_leaf hl2
  obtain ⟨n3, rfl⟩ := inv_leaf hr2
  exact agrees_tree _ (ob4 _ n0 n1 n2 n3) ht (Nat.le_of_ble_eq_true rfl) (.inl rfl) (by kernel_rfl)
theorem wk8 (t : Tr) (ht : t.ok) (h : t.shape = (.node .leaf (.node .leaf (.node .leaf .leaf)))) : WordOk [40, 41, 40, 41, 40, 41, 41] t.names t.code [1, 2, 3, 3] where
  d := by decide +kernel
  w := by decide +kernel
  n0 := by decide
  n1 := by decide
  nn := by rw [t.names_len, h]; decide
  b := by decide +kernel
  bp := by decide +kernel
  ag := vw8 t ht h
  ra := swaps_of (valid := validL) (by decide +kernel) fun row hr hl => valid_all row hr _ (by rw [t.names_len, h]; exact hl) (t.names_ok ht)
  rb := agrees_invalid (row := [1, 2, 3]) (by decide +kernel) _ _
  rc := agrees_invalid (row := [1, 2, 3, 3, 0]) (by decide +kernel) _ _
theorem vw9 (t : Tr) (ht : t.ok) (h : t.shape = (.node (.node (.node (.node .leaf .leaf) .leaf) .leaf) .leaf)) : gAgrees [.list [.int 4, .int 4, .int 3, .int 2, .int 1], .v (.str (tx t.code)), .v (.str (tx t.names))] = some (.v (.bool true)) := by
  obtain ⟨c0, l0, r0, rfl, hl0, hr0⟩ := inv_node h
  obtain ⟨c1, l1, r1, rfl, hl1, hr1⟩ := inv_node hl0
  obtain ⟨c2, l2, r2, rfl, hl2, hr2⟩ := inv_node hl1
  obtain ⟨c3, l3, r3, rfl, hl3, hr3⟩ := inv_node hl2
  obtain ⟨n0, rfl⟩ := inv_leaf hl3
  obtain ⟨n1, rfl⟩ := inv_leaf hr3
  obtain ⟨n2, rfl⟩ := inv_leaf hr2
  obtain ⟨n3, rfl⟩ := inv_leaf hr1
  obtain ⟨n4, rfl⟩ := inv_leaf hr0
  exact agrees_tree _ (ob21 _ n0 n1 n2 n3 n4) ht (Nat.le_of_ble_eq_true rfl) (.inl rfl) (by kernel_rfl)
theorem wk9 (t : Tr) (ht : t.ok) (h : t.shape = (.node (.node (.node (.node .leaf .leaf) .leaf) .leaf) .leaf)) : WordOk [40, 40, 40, 40, 41, 41, 41, 41, 41] t.names t.code [4, 4, 3, 2, 1] where
  d := by decide +kernel
  w := by decide +kernel
  n0 := by decide
  n1 := by decide
  nn := by rw [t.names_len, h]; decide
  b := by decide +kernel
  bp := by decide +kernel
  ag := vw9 t ht h
  ra := swaps_of (valid := validL) (by decide +kernel) fun row hr hl => valid_all row hr _ (by rw [t.names_len, h]; exact hl) (t.names_ok ht)
  rb := agrees_invalid (row := [4, 4, 3, 2]) (by decide +kernel) _ _
  rc := agrees_invalid (row := [4, 4, 3, 2, 1, 0]) (by decide +kernel) _ _
theorem vw10 (t : Tr) (ht : t.ok) (h : t.shape = (.node (.node (.node .leaf (.node .leaf .leaf)) .leaf) .leaf)) : gAgrees [.list [.int 3, .int 4, .int 4, .int 2, .int 1], .v (.str (tx t.code)), .v (.str (tx t.names))] = some (.v (.bool true)) := by
  obtain ⟨c0, l0, r0, rfl, hl0, hr0⟩ := inv_node h
  obtain ⟨c1, l1, r1, rfl, hl1, hr1⟩ := inv_node hl0
  obtain ⟨c2, l2, r2, rfl, hl2, hr2⟩ := inv_node hl1
  obtain ⟨n0, rfl⟩ := inv_leaf hl2
  obtain ⟨c3, l3, r3, rfl, hl3, hr3⟩ := inv_node hr2
  obtain ⟨n1, rfl⟩ := inv_leaf hl3
  obtain ⟨n2, rfl⟩ := inv_leaf hr3
  obtain ⟨n3, rfl⟩ := inv_leaf hr1
  obtain ⟨n4, rfl⟩ := inv_leaf hr0
  exact agrees_tree _ (ob20 _ n0 n1 n2 n3 n4) ht (Nat.le_of_ble_eq_true rfl) (.inl rfl) (by kernel_rfl)
theorem wk10 (t : Tr) (ht : t.ok) (h : t.shape = (.node (.node (.node .leaf (.node .leaf .leaf)) .leaf) .leaf)) : WordOk [40, 40, 40, 41, 40, 41, 41, 41, 41] t.names t.code [3, 4, 4, 2, 1] where
  d := by decide +kernel
  w := by decide +kernel
  n0 := by decide
  n1 := by decide
  nn := by rw [t.names_len, h]; decide
  b := by decide +kernel
  bp := by decide +kernel
  ag := vw10 t ht h
  ra := swaps_of (valid := validL) (by decide +kernel) fun row hr hl => valid_all row hr _ (by rw [t.names_len, h]; exact hl) (t.names_ok ht)
  rb := agrees_invalid (row := [3, 4, 4, 2]) (by decide +kernel) _ _
  rc := agrees_invalid (row := [3, 4, 4, 2, 1, 0]) (by decide +kernel) _ _
theorem vw11 (t : Tr) (ht : t.ok) (h : t.shape = (.node (.node (.node .leaf .leaf) (.node .leaf .leaf)) .leaf)) : gAgrees [.list [.int 3, .int 3, .int 3, .int 3, .int 1], .v (.str (tx t.code)), .v (.str (tx t.names))] = some (.v (.bool true)) := by
  obtain ⟨c0, l0, r0, rfl, hl0, hr0⟩ := inv_node h
  obtain ⟨c1, l1, r1, rfl, hl1, hr1⟩ := inv_node hl0
  obtain ⟨c2, l2, r2, rfl, hl2, hr2⟩ := inv_node hl1
  obtain ⟨n0, rfl⟩ := inv_leaf hl2
  obtain ⟨n1, rfl⟩ := inv_leaf hr2
  obtain ⟨c3, l3, r3, rfl, hl3, hr3⟩ := inv_node hr1
  obtain ⟨n2, rfl⟩ := inv_leaf hl3
  obtain ⟨n3, rfl⟩ := inv_leaf hr3
  obtain ⟨n4, rfl⟩ := inv_leaf hr0
  exact agrees_tree _ (ob19 _ n0 n1 n2 n3 n4) ht (Nat.le_of_ble_eq_true rfl) (.inl rfl) (by kernel_rfl)
theorem wk11 (t : Tr) (ht : t.ok) (h : t.shape = (.node (.node (.node .leaf .leaf) (.node .leaf .leaf)) .leaf)) : WordOk [40, 40, 40, 41, 41, 40, 41, 41, 41] t.names t.code [3, 3, 3, 3, 1] where
  d := by decide +kernel
  w := by decide +kernel
  n0 := by decide
  n1 := by decide
  nn := by rw [t.names_len, h]; decide
  b := by decide +kernel
  bp := by decide +kernel
  ag := vw11 t ht h
  ra := swaps_of (valid := validL) (by decide +kernel) fun row hr hl => valid_all row hr _ (by rw [t.names_len, h]; exact hl) (t.names_ok ht)
  rb := agrees_invalid (row := [3, 3, 3, 3]) (by decide +kernel) _ _
  rc := agrees_invalid (row := [3, 3, 3, 3, 1, 0]) (by decide +kernel) _ _
theorem vw12 (t : Tr) (ht : t.ok) (h : t.shape = (.node (.node .leaf (.node (.node .leaf .leaf) .leaf)) .leaf)) : gAgrees [.list [.int 2, .int 4, .int 4, .int 3, .int 1], .v (.str (tx t.code)), .v (.str (tx t.names))] = some (.v (.bool true)) := by
  obtain ⟨c0, l0, r0, rfl, hl0, hr0⟩ := inv_node h
  obtain ⟨c1, l1, r1, rfl, hl1, hr1⟩ := inv_node hl0
  obtain ⟨n0, rfl⟩ := inv_leaf hl1
  obtain ⟨c2, l2, r2, rfl, hl2, hr2⟩ := inv_node hr1
  obtain ⟨c3, l3, r3, rfl, hl3, hr3⟩ := inv_node hl2
  obtain ⟨n1, rfl⟩ := inv_leaf hl3
  obtain ⟨n2, rfl⟩ := inv_leaf hr3
  obtain ⟨n3, rfl⟩ := inv_leaf hr2
  obtain ⟨n4, rfl⟩ := inv_leaf hr0
  exact agrees_tree _ (ob18 _ n0 n1 n2 n3 n4) ht (Nat.le_of_ble_eq_true rfl) (.inl rfl) (by kernel_rfl)
theorem wk12 (t : Tr) (ht : t.ok) (h : t.shape = (.node (.node .leaf (.node (.node .leaf .leaf) .leaf)) .leaf)) : WordOk [40, 40, 41, 40, 40, 41, 41, 41, 41] t.names t.code [2, 4, 4, 3, 1] where
  d := by decide +kernel
  w := by decide +kernel
  n0 := by decide
  n1 := by decide
  nn := by rw [t.names_len, h]; decide
  b := by decide +kernel
  bp := by decide +kernel
  ag := vw12 t ht h
  ra := swaps_of (valid := validL) (by decide +kernel) fun row hr hl => valid_all row hr _ (by rw [t.names_len, h]; exact hl) (t.names_ok ht)
  rb := agrees_invalid (row := [2, 4, 4, 3]) (by decide +kernel) _ _
  rc := agrees_invalid (row := [2, 4, 4, 3, 1, 0]) (by decide +kernel) _ _
theorem vw13 (t : Tr) (ht : t.ok) (h : t.shape = (.node (.node .leaf (.node .leaf (.node .leaf .leaf))) .leaf)) : gAgrees [.list [.int 2, .int 3, .int 4, .int 4, .int 1], .v (.str (tx t.code)), .v (.str (tx t.names))] = some (.v (.bool true)) := by
  obtain ⟨c0, l0, r0, rfl, hl0, hr0⟩ := inv_node h
  obtain ⟨c1, l1, r1, rfl, hl1, hr1⟩ := inv_node hl0
  obtain ⟨n0, rfl⟩ := inv_leaf hl1
  obtain ⟨c2, l2, r2, rfl, hl2, hr2⟩ := inv_node hr1
  obtain ⟨n1, rfl⟩ := inv_leaf hl2
  obtain ⟨c3, l3, r3, rfl, hl3, hr3⟩ := inv_node hr2
  obtain ⟨n2, rfl⟩ := inv_leaf hl3
  obtain ⟨n3, rfl⟩ := inv_leaf hr3
  obtain ⟨n4, rfl⟩ := inv_leaf hr0
  exact agrees_tree _ (ob17 _ n0 n1 n2 n3 n4) ht (Nat.le_of_ble_eq_true rfl) (.inl rfl) (by kernel_rfl)
theorem wk13 (t : Tr) (ht : t.ok) (h : t.shape = (.node (.node .leaf (.node .leaf (.node .leaf .leaf))) .leaf)) : WordOk [40, 40, 41, 40, 41, 40, 41, 41, 41] t.names t.code [2, 3, 4, 4, 1] where
  d := by decide +kernel
  w := by decide +kernel
  n0 := by decide
  n1 := by decide
  nn := by rw [t.names_len, h]; decide
  b := by decide +kernel
  bp := by decide +kernel
  ag := vw13 t ht h
  ra := swaps_of (valid := validL) (by decide +kernel) fun row hr hl => valid_all row hr _ (by rw [t.names_len, h]; exact hl) (t.names_ok ht)
  rb := agrees_invalid (row := [2, 3, 4, 4]) (by decide +kernel) _ _
  rc := agrees_invalid (row := [2, 3, 4, 4, 1, 0]) (by decide +kernel) _ _
theorem vw14 (t : Tr) (ht : t.ok) (h : t.shape = (.node (.node .leaf .leaf) (.node (.node .leaf .leaf) .leaf))) : gAgrees [.list [.int 2, .int 2, .int 3, .int 3, .int 2], .v (.str (tx t.code)), .v (.str (tx t.names))] = some (.v (.bool true)) := by
  obtain ⟨c0, l0, r0, rfl, hl0, hr0⟩ := inv_node h
  obtain ⟨c1, l1, r1, rfl, hl1, hr1⟩ := inv_node hl0
  obtain ⟨n0, rfl⟩ := inv_leaf hl1
  obtain ⟨n1, rfl⟩ := inv_leaf hr1
  obtain ⟨c2, l2, r2, rfl, hl2, hr2⟩ := inv_node hr0
  obtain ⟨c3, l3, r3, rfl, hl3, hr3⟩ := inv_node hl2
  obtain ⟨n2, rfl⟩ := inv_leaf hl3
  obtain ⟨n3, rfl⟩ := inv_leaf hr3
  obtain ⟨n4, rfl⟩ := inv_leaf hr2
  exact agrees_tree _ (ob15 _ n0 n1 n2 n3 n4) ht (Nat.le_of_ble_eq_true rfl) (.inl rfl) (by kernel_rfl)
theorem wk14 (t : Tr) (ht : t.ok) (h : t.shape = (.node (.node .leaf .leaf) (.node (.node .leaf .leaf) .leaf))) : WordOk [40, 40, 41, 41, 40, 40, 41, 41, 41] t.names t.code [2, 2, 3, 3, 2] where
  d := by decide +kernel
  w := by decide +kernel
  n0 := by decide
  n1 := by decide
  nn := by rw [t.names_len, h]; decide
  b := by decide +kernel
  bp := by decide +kernel
  ag := vw14 t ht h
  ra := swaps_of (valid := validL) (by decide +kernel) fun row hr hl => valid_all row hr _ (by rw [t.names_len, h]; exact hl) (t.names_ok ht)
  rb := agrees_invalid (row := [2, 2, 3, 3]) (by decide +kernel) _ _
  rc := agrees_invalid (row := [2, 2, 3, 3, 2, 0]) (by decide +kernel) _ _
theorem vw15 (t : Tr) (ht : t.ok) (h : t.shape = (.node .leaf (.node (.node (.node .leaf .leaf) .leaf) .leaf))) : gAgrees [.list [.int 1, .int 4, .int 4, .int 3, .int 2], .v (.str (tx t.code)), .v (.str (tx t.names))] = some (.v (.bool true)) := by
  obtain ⟨c0, l0, r0, rfl, hl0, hr0⟩ := inv_node h
  obtain ⟨n0, rfl⟩ := inv_leaf hl0
  obtain ⟨c1, l1, r1, rfl, hl1, hr1⟩ := inv_node hr0
  obtain ⟨c2, l2, r2, rfl, hl2, hr2⟩ := inv_node hl1
  obtain ⟨c3, l3, r3, rfl, hl3, hr3⟩ := inv_node hl2
  obtain ⟨n1, rfl⟩ := inv_leaf hl3
  obtain ⟨n2, rfl⟩ := inv_leaf hr3
  obtain ⟨n3, rfl⟩ := inv_leaf hr2
  obtain ⟨n4, rfl⟩ := inv_leaf hr1
  exact agrees_tree _ (ob13 _ n0 n1 n2 n3 n4) ht (Nat.le_of_ble_eq_true rfl) (.inl rfl) (by kernel_rfl)
theorem wk15 (t : Tr) (ht : t.ok) (h : t.shape = (.node .leaf (.node (.node (.node .leaf .leaf) .leaf) .leaf))) : WordOk [40, 41, 40, 40, 40, 41, 41, 41, 41] t.names t.code [1, 4, 4, 3, 2] where
  d := by decide +kernel
  w := by decide +kernel
  n0 := by decide
  n1 := by decide
  nn := by rw [t.names_len, h]; decide
  b := by decide +kernel
  bp := by decide +kernel
  ag := vw15 t ht h
  ra := swaps_of (valid := validL) (by decide +kernel) fun row hr hl => valid_all row hr _ (by rw [t.names_len, h]; exact hl) (t.names_ok ht)
  rb := agrees_invalid (row := [1, 4, 4, 3]) (by decide +kernel) _ _
  rc := agrees_invalid (row := [1, 4, 4, 3, 2, 0]) (by decide +kernel) _ _
theorem vw16 (t : Tr) (ht : t.ok) (h : t.shape = (.node .leaf (.node (.node .leaf (.node .leaf .leaf)) .leaf))) : gAgrees [.list [.int 1, .int 3, .int 4, .int 4, .int 2], .v (.str (tx t.code)), .v (.str (tx t.names))] = some (.v (.bool true)) := by
  obtain ⟨c0, l0, r0, rfl, hl0, hr0⟩ := inv_node h
  obtain ⟨n0, rfl⟩ := inv_leaf hl0
  obtain ⟨c1, l1, r1, rfl, hl1, hr1⟩ := inv_node hr0
  obtain ⟨c2, l2, r2, rfl, hl2, hr2⟩ := inv_node hl1
  obtain ⟨n1, rfl⟩ := inv_leaf hl2
  obtain ⟨c3, l3, r3, rfl, hl3, hr3⟩ := inv_node hr2
  obtain ⟨n2, rfl⟩ := inv_leaf hl3
  obtain ⟨n3, rfl⟩ := inv_leaf hr3
  obtain ⟨n4, rfl⟩ := inv_leaf hr1
  exact agrees_tree _ (ob12 _ n0 n1 n2 n3 n4) ht (Nat.le_of_ble_eq_true rfl) (.inl rfl) (by kernel_rfl)
theorem wk16 (t : Tr) (ht : t.ok) (h : t.shape = (.node .leaf (.node (.node .leaf (.node .leaf .leaf)) .leaf))) : WordOk [40, 41, 40, 40, 41, 40, 41, 41, 41] t.names t.code [1, 3, 4, 4, 2] where
  d := by decide +kernel
  w := by decide +kernel
  n0 := by decide
  n1 := by decide
  nn := by rw [t.names_len, h]; decide
  b := by decide +kernel
  bp := by decide +kernel
  ag := vw16 t ht h
  ra := swaps_of (valid := validL) (by decide +kernel) fun row hr hl => valid_all row hr _ (by rw [t.names_len, h]; exact hl) (t.names_ok ht)
  rb := agrees_invalid (row := [1, 3, 4, 4]) (by decide +kernel) _ _
  rc := agrees_invalid (row := [1, 3, 4, 4, 2, 0]) (by decide +kernel) _ _
theorem vw17 (t : Tr) (ht : t.ok) (h : t.shape = (.node .leaf (.node .leaf (.node (.node .leaf .leaf) .leaf)))) : gAgrees [.list [.int 1, .int 2, .int 4, .int 4, .int 3], .v (.str (tx t.code)), .v (.str (tx t.names))] = some (.v (.bool true)) := by
  obtain ⟨c0, l0, r0, rfl, hl0, hr0⟩ := inv_node h
  obtain ⟨n0, rfl⟩ := inv_leaf hl0
  obtain ⟨c1, l1, r1, rfl, hl1, hr1⟩ := inv_node hr0
  obtain ⟨n1, rfl⟩ := inv_leaf hl1
  obtain ⟨c2, l2, r2, rfl, hl2, hr2⟩ := inv_node hr1
  obtain ⟨c3, l3, r3, rfl, hl3, hr3⟩ := inv_node hl2
  obtain ⟨n2, rfl⟩ := inv_leaf hl3
  obtain ⟨n3, rfl⟩ := inv_leaf hr3
  obtain ⟨n4, rfl⟩ := inv_leaf hr2
  exact agrees_tree _ (ob10 _ n0 n1 n2 n3 n4) ht (Nat.le_of_ble_eq_true rfl) (.inl rfl) (by kernel_rfl)
theorem wk17 (t : Tr) (ht : t.ok) (h : t.shape = (.node .leaf (.node .leaf (.node (.node .leaf .leaf) .leaf)))) : WordOk [40, 41, 40, 41, 40, 40, 41, 41, 41] t.names t.code [1, 2, 4, 4, 3] where
  d := by decide +kernel
  w := by decide +kernel
  n0 := by decide
  n1 := by decide
  nn := by rw [t.names_len, h]; decide
  b := by decide +kernel
  bp := by decide +kernel
  ag := vw17 t ht h
  ra := swaps_of (valid := validL) (by decide +kernel) fun row hr hl => valid_all row hr _ (by rw [t.names_len, h]; exact hl) (t.names_ok ht)
  rb := agrees_invalid (row := [1, 2, 4, 4]) (by decide +kernel) _ _
  rc := agrees_invalid (row := [1, 2, 4, 4, 3, 0]) (by decide +kernel) _ _
theorem vw18 (t : Tr) (ht : t.ok) (h : t.shape = (.node (.node (.node (.node (.node .leaf .leaf) .leaf) .leaf) .leaf) .leaf)) : gAgrees [.list [.int 5, .int 5, .int 4, .int 3, .int 2, .int 1], .v (.str (tx t.code)), .v (.str (tx t.names))] = some (.v (.bool true)) := by
  obtain ⟨c0, l0, r0, rfl, hl0, hr0⟩ := inv_node h
  obtain ⟨c1, l1, r1, rfl, hl1, hr1⟩ := inv_node hl0
  obtain ⟨c2, l2, r2, rfl, hl2, hr2⟩ := inv_node hl1
  obtain ⟨c3, l3, r3, rfl, hl3, hr3⟩ := inv_node hl2
  obtain ⟨c4, l4, r4, rfl, hl4, hr4⟩ := inv_node hl3
  obtain ⟨n0, rfl⟩ := inv_leaf hl4
  obtain ⟨n1, rfl⟩ := inv_leaf hr4
  obtain ⟨n2, rfl⟩ := inv_leaf hr3
  obtain ⟨n3, rfl⟩ := inv_leaf hr2
  obtain ⟨n4, rfl⟩ := inv_leaf hr1
  obtain ⟨n5, rfl⟩ := inv_leaf hr0
  exact agrees_tree _ (ob29 _ n0 n1 n2 n3 n4 n5) ht (Nat.le_of_ble_eq_true rfl) (.inl rfl) (by kernel_rfl)
theorem wk18 (t : Tr) (ht : t.ok) (h : t.shape = (.node (.node (.node (.node (.node .leaf .leaf) .leaf) .leaf) .leaf) .leaf)) : WordOk [40, 40, 40, 40, 40, 41, 41, 41, 41, 41, 41] t.names t.code [5, 5, 4, 3, 2, 1] where
  d := by decide +kernel
  w := by decide +kernel
  n0 := by decide
  n1 := by decide
  nn := by rw [t.names_len, h]; decide
  b := by decide +kernel
  bp := by decide +kernel
  ag := vw18 t ht h
  ra := swaps_of (valid := validL) (by decide +kernel) fun row hr hl => valid_all row hr _ (by rw [t.names_len, h]; exact hl) (t.names_ok ht)
  rb := agrees_invalid (row := [5, 5, 4, 3, 2]) (by decide +kernel) _ _
  rc := agrees_invalid (row := [5, 5, 4, 3, 2, 1, 0]) (by decide +kernel) _ _
theorem vw19 (t : Tr) (ht : t.ok) (h : t.shape = (.node (.node (.node (.node .leaf (.node .leaf .leaf)) .leaf) .leaf) .leaf)) : gAgrees [.list [.int 4, .int 5, .int 5, .int 3, .int 2, .int 1], .v (.str (tx t.code)), .v (.str (tx t.names))] = some (.v (.bool true)) := by
  obtain ⟨c0, l0, r0, rfl, hl0, hr0⟩ := inv_node h
  obtain ⟨c1, l1, r1, rfl, hl1, hr1⟩ := inv_node hl0
  obtain ⟨c2, l2, r2, rfl, hl2, hr2⟩ := inv_node hl1
  obtain ⟨c3, l3, r3, rfl, hl3, hr3⟩ := inv_node hl2
  obtain ⟨n0, rfl⟩ := inv_leaf hl3
  obtain ⟨c4, l4, r4, rfl, hl4, hr4⟩ := inv_node hr3
  obtain ⟨n1, rfl⟩ := inv_leaf hl4
  obtain ⟨n2, rfl⟩ := inv_leaf hr4
  obtain ⟨n3, rfl⟩ := inv_leaf hr2
  obtain ⟨n4, rfl⟩ := inv_leaf hr1
  obtain ⟨n5, rfl⟩ := inv_leaf hr0
  exact agrees_tree _ (ob28 _ n0 n1 n2 n3 n4 n5) ht (Nat.le_of_ble_eq_true rfl) (.inl rfl) (by kernel_rfl)
theorem wk19 (t : Tr) (ht : t.ok) (h : t.shape = (.node (.node (.node (.node .leaf (.node .leaf .leaf)) .leaf) .leaf) .leaf)) : WordOk [40, 40, 40, 40, 41, 40, 41, 41, 41, 41, 41] t.names t.code [4, 5, 5, 3, 2, 1] where
  d := by decide +kernel
  w := by decide +kernel
  n0 := by decide
  n1 := by decide
  nn := by rw [t.names_len, h]; decide
  b := by decide +kernel
  bp := by decide +kernel
  ag := vw19 t ht h
  ra := swaps_of (valid := validL) (by decide +kernel) fun row hr hl => valid_all row hr _ (by rw [t.names_len, h]; exact hl) (t.names_ok ht)
  rb := agrees_invalid (row := [4, 5, 5, 3, 2]) (by decide +kernel) _ _
  rc := agrees_invalid (row := [4, 5, 5, 3, 2, 1, 0]) (by decide +kernel) _ _
theorem vw20 (t : Tr) (ht : t.ok) (h : t.shape = (.node (.node (.node .leaf (.node (.node .leaf .leaf) .leaf)) .leaf) .leaf)) : gAgrees [.list [.int 3, .int 5, .int 5, .int 4, .int 2, .int 1], .v (.str (tx t.code)), .v (.str (tx t.names))] = some (.v (.bool true)) := by
  obtain ⟨c0, l0, r0, rfl, hl0, hr0⟩ := inv_node h
  obtain ⟨c1, l1, r1, rfl, hl1, hr1⟩ := inv_node hl0
  obtain ⟨c2, l2, r2, rfl, hl2, hr2⟩ := inv_node hl1
  obtain ⟨n0, rfl⟩ := inv_leaf hl2
  obtain ⟨c3, l3, r3, rfl, hl3, hr3⟩ := inv_node hr2
  obtain ⟨c4, l4, r4, rfl, hl4, hr4⟩ := inv_node hl3
  obtain ⟨n1, rfl⟩ := inv_leaf hl4
  obtain ⟨n2, rfl⟩ := inv_leaf hr4
  obtain ⟨n3, rfl⟩ := inv_leaf hr3
  obtain ⟨n4, rfl⟩ := inv_leaf hr1
  obtain ⟨n5, rfl⟩ := inv_leaf hr0
  exact agrees_tree _ (ob27 _ n0 n1 n2 n3 n4 n5) ht (Nat.le_of_ble_eq_true rfl) (.inl rfl) (by kernel_rfl)
theorem wk20 (t : Tr) (ht : t.ok) (h : t.shape = (.node (.node (.node .leaf (.node (.node .leaf .leaf) .leaf)) .leaf) .leaf)) : WordOk [40, 40, 40, 41, 40, 40, 41, 41, 41, 41, 41] t.names t.code [3, 5, 5, 4, 2, 1] where
  d := by decide +kernel
  w := by decide +kernel
  n0 := by decide
  n1 := by decide
  nn := by rw [t.names_len, h]; decide
  b := by decide +kernel
  bp := by decide +kernel
  ag := vw20 t ht h
  ra := swaps_of (valid := validL) (by decide +kernel) fun row hr hl => valid_all row hr _ (by rw [t.names_len, h]; exact hl) (t.names_ok ht)
  rb := agrees_invalid (row := [3, 5, 5, 4, 2]) (by decide +kernel) _ _
  rc := agrees_invalid (row := [3, 5, 5, 4, 2, 1, 0]) (by decide +kernel) _ _
theorem vw21 (t : Tr) (ht : t.ok) (h : t.shape = (.node (.node .leaf (.node (.node (.node .leaf .leaf) .leaf) .leaf)) .leaf)) : gAgrees [.list [.int 2, .int 5, .int 5, .int 4, .int 3, .int 1], .v (.str (tx t.code)), .v (.str (tx t.names))] = some (.v (.bool true)) := by
  obtain ⟨c0, l0, r0, rfl, hl0, hr0⟩ := inv_node h
  obtain ⟨c1, l1, r1, rfl, hl1, hr1⟩ := inv_node hl0
  obtain ⟨n0, rfl⟩ := inv_leaf hl1
  obtain ⟨c2, l2, r2, rfl, hl2, hr2⟩ := inv_node hr1
  obtain ⟨c3, l3, r3, rfl, hl3, hr3⟩ := inv_node hl2
  obtain ⟨c4, l4, r4, rfl, hl4, hr4⟩ := inv_node hl3
  obtain ⟨n1, rfl⟩ := inv_leaf hl4
  obtain ⟨n2, rfl⟩ := inv_leaf hr4
  obtain ⟨n3, rfl⟩ := inv_leaf hr3
  obtain ⟨n4, rfl⟩ := inv_leaf hr2
  obtain ⟨n5, rfl⟩ := inv_leaf hr0
  exact agrees_tree _ (ob25 _ n0 n1 n2 n3 n4 n5) ht (Nat.le_of_ble_eq_true rfl) (.inl rfl) (by kernel_rfl)
theorem wk21 (t : Tr) (ht : t.ok) (h : t.shape = (.node (.node .leaf (.node (.node (.node .leaf .leaf) .leaf) .leaf)) .leaf)) : WordOk [40, 40, 41, 40, 40, 40, 41, 41, 41, 41, 41] t.names t.code [2, 5, 5, 4, 3, 1] where
  d := by decide +kernel
  w := by decide +kernel
  n0 := by decide
  n1 := by decide
  nn := by rw [t.names_len, h]; decide
  b := by decide +kernel
  bp := by decide +kernel
  ag := vw21 t ht h
  ra := swaps_of (valid := validL) (by decide +kernel) fun row hr hl => valid_all row hr _ (by rw [t.names_len, h]; exact hl) (t.names_ok ht)
  rb := agrees_invalid (row := [2, 5, 5, 4, 3]) (by decide +kernel) _ _
  rc := agrees_invalid (row := [2, 5, 5, 4, 3, 1, 0]) (by decide +kernel) _ _
theorem vw22 (t : Tr) (ht : t.ok) (h : t.shape = (.node .leaf (.node (.node (.node (.node .leaf .leaf) .leaf) .leaf) .leaf))) : gAgrees [.list [.int 1, .int 5, .int 5, .int 4, .int 3, .int 2], .v (.str (tx t.code)), .v (.str (tx t.names))] = some (.v (.bool true)) := by
  obtain ⟨c0, l0, r0, rfl, hl0, hr0⟩ := inv_node h
  obtain ⟨n0, rfl⟩ := inv_leaf hl0
  obtain ⟨c1, l1, r1, rfl, hl1, hr1⟩ := inv_node hr0
  obtain ⟨c2, l2, r2, rfl, hl2, hr2⟩ := inv_node hl1
  obtain ⟨c3, l3, r3, rfl, hl3, hr3⟩ := inv_node hl2
  obtain ⟨c4, l4, r4, rfl, hl4, hr4⟩ := inv_node hl3
  obtain ⟨n1, rfl⟩ := inv_leaf hl4
  obtain ⟨n2, rfl⟩ := inv_leaf hr4
  obtain ⟨n3, rfl⟩ := inv_leaf hr3
  obtain ⟨n4, rfl⟩ := inv_leaf hr2
  obtain ⟨n5, rfl⟩ := inv_leaf hr1
  exact agrees_tree _ (ob23 _ n0 n1 n2 n3 n4 n5) ht (Nat.le_of_ble_eq_true rfl) (.inl rfl) (by kernel_rfl)
theorem wk22 (t : Tr) (ht : t.ok) (h : t.shape = (.node .leaf (.node (.node (.node (.node .leaf .leaf) .leaf) .leaf) .leaf))) : WordOk [40, 41, 40, 40, 40, 40, 41, 41, 41, 41, 41] t.names t.code [1, 5, 5, 4, 3, 2] where
  d := by decide +kernel
  w := by decide +kernel
  n0 := by decide
  n1 := by decide
  nn := by rw [t.names_len, h]; decide
  b := by decide +kernel
  bp := by decide +kernel
  ag := vw22 t ht h
  ra := swaps_of (valid := validL) (by decide +kernel) fun row hr hl => valid_all row hr _ (by rw [t.names_len, h]; exact hl) (t.names_ok ht)
  rb := agrees_invalid (row := [1, 5, 5, 4, 3]) (by decide +kernel) _ _
  rc := agrees_invalid (row := [1, 5, 5, 4, 3, 2, 0]) (by decide +kernel) _ _
theorem vw23 (t : Tr) (ht : t.ok) (h : t.shape = (.node (.node (.node (.node (.node (.node .leaf .leaf) .leaf) .leaf) .leaf) .leaf) .leaf)) : gAgrees [.list [.int 6, .int 6, .int 5, .int 4, .int 3, .int 2, .int 1], .v (.str (tx t.code)), .v (.str (tx t.names))] = some (.v (.bool true)) := by
  obtain ⟨c0, l0, r0, rfl, hl0, hr0⟩ := inv_node h
  obtain ⟨c1, l1, r1, rfl, hl1, hr1⟩ := inv_node hl0
  obtain ⟨c2, l2, r2, rfl, hl2, hr2⟩ := inv_node hl1
  obtain ⟨c3, l3, r3, rfl, hl3, hr3⟩ := inv_node hl2
  obtain ⟨c4, l4, r4, rfl, hl4, hr4⟩ := inv_node hl3
  obtain ⟨c5, l5, r5, rfl, hl5, hr5⟩ := inv_node hl4
  obtain ⟨n0, rfl⟩ := inv_leaf hl5
  obtain ⟨n1, rfl⟩ := inv_leaf hr5
  obtain ⟨n2, rfl⟩ := inv_leaf hr4
  obtain ⟨n3, rfl⟩ := inv_leaf hr3
  obtain ⟨n4, rfl⟩ := inv_leaf hr2
  obtain ⟨n5, rfl⟩ := inv_leaf hr1
  obtain ⟨n6, rfl⟩ := inv_leaf hr0
  exact agrees_tree _ (ob31 _ n0 n1 n2 n3 n4 n5 n6) ht (Nat.le_of_ble_eq_true rfl) (.inl rfl) (by kernel_rfl)
theorem wk23 (t : Tr) (ht : t.ok) (h : t.shape = (.node (.node (.node (.node (.node (.node .leaf .leaf) .leaf) .leaf) .leaf) .leaf) .leaf)) : WordOk [40, 40, 40, 40, 40, 40, 41, 41, 41, 41, 41, 41, 41] t.names t.code [6, 6, 5, 4, 3, 2, 1] where
  d := by decide +kernel
  w := by decide +kernel
  n0 := by decide
  n1 := by decide
  nn := by rw [t.names_len, h]; decide
  b := by decide +kernel
  bp := by decide +kernel
  ag := vw23 t ht h
  ra := swaps_of (valid := validL) (by decide +kernel) fun row hr hl => valid_all row hr _ (by rw [t.names_len, h]; exact hl) (t.names_ok ht)
  rb := agrees_invalid (row := [6, 6, 5, 4, 3, 2]) (by decide +kernel) _ _
  rc := agrees_invalid (row := [6, 6, 5, 4, 3, 2, 1, 0]) (by decide +kernel) _ _
noncomputable def shapesL : List Sh := [.leaf, (.node .leaf .leaf), (.node (.node .leaf .leaf) .leaf), (.node .leaf (.node .leaf .leaf)), (.node (.node (.node .leaf .leaf) .leaf) .leaf), (.node (.node .leaf (.node .leaf .leaf)) .leaf), (.node (.node .leaf .leaf) (.node .leaf .leaf)), (.node .leaf (.node (.node .leaf .leaf) .leaf)), (.node .leaf (.node .leaf (.node .leaf .leaf))), (.node (.node (.node (.node .leaf .leaf) .leaf) .leaf) .leaf), (.node (.node (.node .leaf (.node .leaf .leaf)) .leaf) .leaf), (.node (.node (.node .leaf .leaf) (.node .leaf .leaf)) .leaf), (.node (.node .leaf (.node (.node .leaf .leaf) .leaf)) .leaf), (.node (.node .leaf (.node .leaf (.node .leaf .leaf))) .leaf), (.node (.node .leaf .leaf) (.node (.node .leaf .leaf) .leaf)), (.node .leaf (.node (.node (.node .leaf .leaf) .leaf) .leaf)), (.node .leaf (.node (.node .leaf (.node .leaf .leaf)) .leaf)), (.node .leaf (.node .leaf (.node (.node .leaf .leaf) .leaf))), (.node (.node (.node (.node (.node .leaf .leaf) .leaf) .leaf) .leaf) .leaf), (.node (.node (.node (.node .leaf (.node .leaf .leaf)) .leaf) .leaf) .leaf), (.node (.node (.node .leaf (.node (.node .leaf .leaf) .leaf)) .leaf) .leaf), (.node (.node .leaf (.node (.node (.node .leaf .leaf) .leaf) .leaf)) .leaf), (.node .leaf (.node (.node (.node (.node .leaf .leaf) .leaf) .leaf) .leaf)), (.node (.node (.node (.node (.node (.node .leaf .leaf) .leaf) .leaf) .leaf) .leaf) .leaf)]
theorem words_shapes : ∀ w ∈ wordsL, w ∈ shapesL.map Sh.word := by decide +kernel
theorem word_ok (sh : Sh) (h : sh ∈ shapesL) (t : Tr) (ht : t.ok) (hs : t.shape = sh) : ∃ dl, WordOk sh.word t.names t.code dl := by
  simp only [shapesL, List.mem_cons, List.not_mem_nil, or_false] at h
  rcases h with rfl | rfl | rfl | rfl | rfl | rfl | rfl | rfl | rfl | rfl | rfl | rfl | rfl | rfl | rfl | rfl | rfl | rfl | rfl | rfl | rfl | rfl | rfl | rfl
  · exact ⟨_, wk0 t ht hs⟩
  · exact ⟨_, wk1 t ht hs⟩
  · exact ⟨_, wk2 t ht hs⟩
  · exact ⟨_, wk3 t ht hs⟩
  · exact ⟨_, wk4 t ht hs⟩
  · exact ⟨_, wk5 t ht hs⟩
  · exact ⟨_, wk6 t ht hs⟩
  · exact ⟨_, wk7 t ht hs⟩
  · exact ⟨_, wk8 t ht hs⟩
  · exact ⟨_, wk9 t ht hs⟩
  · exact ⟨_, wk10 t ht hs⟩
  · exact ⟨_, wk11 t ht hs⟩
  · exact ⟨_, wk12 t ht hs⟩
  · exact ⟨_, wk13 t ht hs⟩
  · exact ⟨_, wk14 t ht hs⟩
  · exact ⟨_, wk15 t ht hs⟩
  · exact ⟨_, wk16 t ht hs⟩
  · exact ⟨_, wk17 t ht hs⟩
  · exact ⟨_, wk18 t ht hs⟩
  · exact ⟨_, wk19 t ht hs⟩
  · exact ⟨_, wk20 t ht hs⟩
  · exact ⟨_, wk21 t ht hs⟩
  · exact ⟨_, wk22 t ht hs⟩
  · exact ⟨_, wk23 t ht hs⟩
/-- the plain law: what law's body computes, on any script -/
theorem plain_law (sc : List Int) (hs : sc.length ≤ 1000) : ∃ S', fLaw ⟨.ref 0 :: List.replicate 9 .unb, [.list (sc.map .int)], 1⟩ = some (.ret (.bool true), S') := by
  obtain ⟨text, word, names, hD, hg⟩ := draw_of hs
  obtain ⟨ss, h1, h2, h3, h4⟩ := hD.ex
  obtain ⟨sh, hsh, hw⟩ := List.mem_map.mp (words_shapes word hD.w)
  obtain ⟨t, s2, ht, hts, he, hr⟩ := parse sh ss [] (by rw [List.append_nil, hw, h3]) h4
  have hs2 : s2 = [] := by
    cases s2 with
    | nil => rfl
    | cons a b => cases hr
  subst hs2
  rw [List.append_nil] at he
  subst he
  obtain ⟨dl, hk⟩ := word_ok sh hsh t ht hts
  rw [hw] at hk
  have hn : names = t.names := by rw [h2, t.filter ht]
  subst hn
  have := hD.tl
  exact law_run hs hg (by omega) h1 hk
end Mine
end

section
set_option maxRecDepth 100000
set_option maxHeartbeats 0
set_option linter.unusedVariables false
open PySem PySem.W PyProof.Rows PySem.Calls PySem.Challenge
namespace Mine
noncomputable def kE (P : Params) (x : Str) (t : Nat) (v : Value) : DictEntry := { hash := PyData.keyHash P x, key := .str x t, val := v }
/-- the part of the heap behind the top that the call reads -/
noncomputable def kfrag (P : Params) : Frag := [
  (3, (⟨.type "dict", none, .dict #[kE P "__name__" 165 (.str "law_sh0015_01" 509), kE P "__doc__" 166 (.none), kE P "__package__" 167 (.none), kE P "__loader__" 168 (.builtin "__main__.__loader__#opaque"), kE P "__spec__" 169 (.none), kE P "__annotations__" 170 (.ref 6), kE P "__builtins__" 171 (.ref 4), kE P "__file__" 173 (.str "/claim/cut.py" 172), kE P "__cached__" 174 (.none), kE P "_sre" 275 (.ref 12), kE P "b1_set" 343 (.ref 39), kE P "in_table_b1" 350 (.ref 49), kE P "c7_set" 378 (.ref 51), kE P "in_table_c7" 385 (.ref 61), kE P "_iter_escaped_chars" 397 (.ref 68), kE P "_strip_quoted_realnames" 409 (.ref 75), kE P "_check_parenthesis" 419 (.ref 82), kE P "_twin_re_1" 437 (.ref 87), kE P "_twin_re_2" 479 (.ref 92), kE P "CRLF" 481 (.str "\x0d\n" 480), kE P "quotedata" 488 (.ref 99), kE P "ENDMARKER" 492 (.int 0 491), kE P "NT_OFFSET" 494 (.int 256 493), kE P "ISTERMINAL" 501 (.ref 106), kE P "ISEOF" 508 (.ref 113), kE P "_law_draw" 527 (.ref 120), kE P "_law_depths" 538 (.ref 127), kE P "_law_is_tree" 546 (.ref 134), kE P "_law_word" 558 (.ref 141), kE P "_law_mail" 564 (.ref 146), kE P "_law_agrees" 570 (.ref 151), kE P "law" 576 (.ref 156)] 32, #[]⟩ : Obj)),
  (39, (⟨.type "set", none, .set #[(65024, .int 65024 300), (65025, .int 65025 301), (65026, .int 65026 302), (65027, .int 65027 303), (65028, .int 65028 304), (65029, .int 65029 305), (6150, .int 6150 286), (65030, .int 65030 306), (65031, .int 65031 307), (65032, .int 65032 308), (65033, .int 65033 309), (6155, .int 6155 287), (6156, .int 6156 288), (6157, .int 6157 289), (8203, .int 8203 290), (8204, .int 8204 291), (8205, .int 8205 292), (65034, .int 65034 310), (65035, .int 65035 311), (65036, .int 65036 312), (65037, .int 65037 313), (65038, .int 65038 314), (65039, .int 65039 315), (173, .int 173 284), (847, .int 847 285), (8288, .int 8288 293), (65279, .int 65279 294)] 29 ⟨127, #[0, 1, 2, 3, 4, 5, 6, 7, 8, 9, 10, 11, 12, 13, 14, 15, 16, 17, 18, 19, 20, 21, 22, 45, 79, 96, 127], #[], 0, Bool.not (P.followText "set-order"), 2, true⟩, #[]⟩ : Obj)),
  (48, (⟨.type "code", none, .fields #[.str "in_table_b1" 344, .str "in_table_b1" 345, .str "/claim/cut.py" 346, .int 4 0, .int 1 0, .int 0 0, .int 0 0, .int 3 0, .ref 43, .bool true, .int 276 0, .ref 44, .none, .ref 45, .ref 46, .ref 47, .int 348 0, .int 4 0, .str "/claim/cut.py" 349], #[]⟩ : Obj)),
  (49, (⟨.type "function", none, .func (docDef "in_table_b1" (fParams (stAt 3)) (fBody (stAt 3)) (fScope (stAt 3)) (.str "cpy313.stringprep" 282) (.ref 48) .none), #[]⟩ : Obj)),
  (51, (⟨.type "set", none, .set #[(12272, .int 12272 354), (12273, .int 12273 356), (12274, .int 12274 358), (12275, .int 12275 360), (12276, .int 12276 362), (12277, .int 12277 364), (12278, .int 12278 366), (12279, .int 12279 368), (12280, .int 12280 370), (12281, .int 12281 372), (12282, .int 12282 374), (12283, .int 12283 376)] 13 ⟨31, #[16, 17, 18, 19, 20, 21, 22, 23, 24, 25, 26, 27], #[], 0, Bool.not (P.followText "set-order"), 1, true⟩, #[]⟩ : Obj)),
  (60, (⟨.type "code", none, .fields #[.str "in_table_c7" 379, .str "in_table_c7" 380, .str "/claim/cut.py" 381, .int 7 0, .int 1 0, .int 0 0, .int 0 0, .int 3 0, .ref 55, .bool true, .int 276 0, .ref 56, .none, .ref 57, .ref 58, .ref 59, .int 383 0, .int 7 0, .str "/claim/cut.py" 384], #[]⟩ : Obj)),
  (61, (⟨.type "function", none, .func (docDef "in_table_c7" (fParams (stAt 5)) (fBody (stAt 5)) (fScope (stAt 5)) (.str "cpy313.stringprep" 282) (.ref 60) .none), #[]⟩ : Obj)),
  (67, (⟨.type "code", none, .fields #[.str "_iter_escaped_chars" 388, .str "_iter_escaped_chars" 389, .str "/claim/cut.py" 390, .int 10 0, .int 1 0, .int 0 0, .int 0 0, .int 35 0, .ref 62, .bool true, .int 276 0, .ref 63, .none, .ref 64, .ref 65, .ref 66, .int 395 0, .int 10 0, .str "/claim/cut.py" 396], #[]⟩ : Obj)),
  (68, (⟨.type "function", none, .func (docDef "_iter_escaped_chars" (fParams (stAt 7)) (fBody (stAt 7)) (fScope (stAt 7)) (.str "cpy313.email.utils" 386) (.ref 67) .none), #[]⟩ : Obj)),
  (74, (⟨.type "code", none, .fields #[.str "_strip_quoted_realnames" 398, .str "_strip_quoted_realnames" 399, .str "/claim/cut.py" 400, .int 23 0, .int 1 0, .int 0 0, .int 0 0, .int 3 0, .ref 69, .bool true, .int 276 0, .ref 70, .none, .ref 71, .ref 72, .ref 73, .int 407 0, .int 23 0, .str "/claim/cut.py" 408], #[]⟩ : Obj)),
  (75, (⟨.type "function", none, .func (docDef "_strip_quoted_realnames" (fParams (stAt 8)) (fBody (stAt 8)) (fScope (stAt 8)) (.str "cpy313.email.utils" 386) (.ref 74) .none), #[]⟩ : Obj)),
  (81, (⟨.type "code", none, .fields #[.str "_check_parenthesis" 410, .str "_check_parenthesis" 411, .str "/claim/cut.py" 412, .int 41 0, .int 1 0, .int 0 0, .int 0 0, .int 3 0, .ref 76, .bool true, .int 276 0, .ref 77, .none, .ref 78, .ref 79, .ref 80, .int 417 0, .int 41 0, .str "/claim/cut.py" 418], #[]⟩ : Obj)),
  (82, (⟨.type "function", none, .func (docDef "_check_parenthesis" (fParams (stAt 9)) (fBody (stAt 9)) (fScope (stAt 9)) (.str "cpy313.email.utils" 386) (.ref 81) .none), #[]⟩ : Obj)),
  (86, (⟨.type "tuple", none, .seq #[.int 14 0, .int 4 0, .int 0 0, .int 1 0, .int 1 0, .int 6 0, .int 1 0, .int 16 0, .int 46 0, .int 1 0] 0, #[]⟩ : Obj)),
  (87, (⟨.type "re.Pattern", none, .fields #[.str "(?m)^\\." 423, .int 40 436, .int 0 0, .none, .none, .ref 86, .int 0 0], #[]⟩ : Obj)),
  (91, (⟨.type "tuple", none, .seq #[.int 14 0, .int 9 0, .int 4 0, .int 1 0, .int 2 0, .int 16 0, .int 10 0, .int 16 0, .int 13 0, .int 0 0, .int 7 0, .int 7 0, .int 16 0, .int 13 0, .int 16 0, .int 10 0, .int 15 0, .int 18 0, .int 5 0, .int 16 0, .int 10 0, .int 15 0, .int 13 0, .int 11 0, .int 16 0, .int 13 0, .int 5 0, .int 5 0, .int 0 0, .int 16 0, .int 10 0, .int 1 0, .int 15 0, .int 2 0, .int 0 0, .int 1 0] 0, #[]⟩ : Obj)),
  (92, (⟨.type "re.Pattern", none, .fields #[.str "(?:\\r\\n|\\n|\\r(?!\\n))" 439, .int 32 478, .int 0 0, .none, .none, .ref 91, .int 0 0], #[]⟩ : Obj)),
  (98, (⟨.type "code", none, .fields #[.str "quotedata" 482, .str "quotedata" 483, .str "/claim/cut.py" 484, .int 56 0, .int 1 0, .int 0 0, .int 0 0, .int 3 0, .ref 93, .bool true, .int 276 0, .ref 94, .none, .ref 95, .ref 96, .ref 97, .int 486 0, .int 56 0, .str "/claim/cut.py" 487], #[]⟩ : Obj)),
  (99, (⟨.type "function", none, .func (docDef "quotedata" (fParams (stAt 14)) (fBody (stAt 14)) (fScope (stAt 14)) (.str "cpy313.smtplib" 420) (.ref 98) .none), #[]⟩ : Obj)),
  (105, (⟨.type "code", none, .fields #[.str "ISTERMINAL" 495, .str "ISTERMINAL" 496, .str "/claim/cut.py" 497, .int 61 0, .int 1 0, .int 0 0, .int 0 0, .int 3 0, .ref 100, .bool true, .int 276 0, .ref 101, .none, .ref 102, .ref 103, .ref 104, .int 499 0, .int 61 0, .str "/claim/cut.py" 500], #[]⟩ : Obj)),
  (106, (⟨.type "function", none, .func (docDef "ISTERMINAL" (fParams (stAt 18)) (fBody (stAt 18)) (fScope (stAt 18)) (.str "cpy313.token" 489) (.ref 105) .none), #[]⟩ : Obj)),
  (112, (⟨.type "code", none, .fields #[.str "ISEOF" 502, .str "ISEOF" 503, .str "/claim/cut.py" 504, .int 63 0, .int 1 0, .int 0 0, .int 0 0, .int 3 0, .ref 107, .bool true, .int 276 0, .ref 108, .none, .ref 109, .ref 110, .ref 111, .int 506 0, .int 63 0, .str "/claim/cut.py" 507], #[]⟩ : Obj)),
  (113, (⟨.type "function", none, .func (docDef "ISEOF" (fParams (stAt 19)) (fBody (stAt 19)) (fScope (stAt 19)) (.str "cpy313.token" 489) (.ref 112) .none), #[]⟩ : Obj)),
  (119, (⟨.type "code", none, .fields #[.str "_law_draw" 511, .str "_law_draw" 512, .str "/claim/cut.py" 513, .int 66 0, .int 1 0, .int 0 0, .int 0 0, .int 3 0, .ref 114, .bool true, .int 276 0, .ref 115, .none, .ref 116, .ref 117, .ref 118, .int 525 0, .int 66 0, .str "/claim/cut.py" 526], #[]⟩ : Obj)),
  (120, (⟨.type "function", none, .func (docDef "_law_draw" (fParams (stAt 21)) (fBody (stAt 21)) (fScope (stAt 21)) (.str "law_sh0015_01" 509) (.ref 119) .none), #[]⟩ : Obj)),
  (126, (⟨.type "code", none, .fields #[.str "_law_depths" 528, .str "_law_depths" 529, .str "/claim/cut.py" 530, .int 87 0, .int 1 0, .int 0 0, .int 0 0, .int 3 0, .ref 121, .bool true, .int 276 0, .ref 122, .none, .ref 123, .ref 124, .ref 125, .int 536 0, .int 87 0, .str "/claim/cut.py" 537], #[]⟩ : Obj)),
  (127, (⟨.type "function", none, .func (docDef "_law_depths" (fParams (stAt 22)) (fBody (stAt 22)) (fScope (stAt 22)) (.str "law_sh0015_01" 509) (.ref 126) .none), #[]⟩ : Obj)),
  (133, (⟨.type "code", none, .fields #[.str "_law_is_tree" 539, .str "_law_is_tree" 540, .str "/claim/cut.py" 541, .int 97 0, .int 1 0, .int 0 0, .int 0 0, .int 3 0, .ref 128, .bool true, .int 276 0, .ref 129, .none, .ref 130, .ref 131, .ref 132, .int 544 0, .int 97 0, .str "/claim/cut.py" 545], #[]⟩ : Obj)),
  (134, (⟨.type "function", none, .func (docDef "_law_is_tree" (fParams (stAt 23)) (fBody (stAt 23)) (fScope (stAt 23)) (.str "law_sh0015_01" 509) (.ref 133) .none), #[]⟩ : Obj)),
  (140, (⟨.type "code", none, .fields #[.str "_law_word" 547, .str "_law_word" 548, .str "/claim/cut.py" 549, .int 104 0, .int 1 0, .int 0 0, .int 0 0, .int 3 0, .ref 135, .bool true, .int 276 0, .ref 136, .none, .ref 137, .ref 138, .ref 139, .int 556 0, .int 104 0, .str "/claim/cut.py" 557], #[]⟩ : Obj)),
  (141, (⟨.type "function", none, .func (docDef "_law_word" (fParams (stAt 24)) (fBody (stAt 24)) (fScope (stAt 24)) (.str "law_sh0015_01" 509) (.ref 140) .none), #[]⟩ : Obj)),
  (145, (⟨.type "code", none, .fields #[.str "_law_mail" 559, .str "_law_mail" 560, .str "/claim/cut.py" 561, .int 122 0, .int 1 0, .int 0 0, .int 0 0, .int 3 0, .ref 142, .bool true, .int 276 0, .ref 143, .none, .none, .none, .ref 144, .int 562 0, .int 122 0, .str "/claim/cut.py" 563], #[]⟩ : Obj)),
  (146, (⟨.type "function", none, .func (docDef "_law_mail" (fParams (stAt 25)) (fBody (stAt 25)) (fScope (stAt 25)) (.str "law_sh0015_01" 509) (.ref 145) .none), #[]⟩ : Obj)),
  (150, (⟨.type "code", none, .fields #[.str "_law_agrees" 565, .str "_law_agrees" 566, .str "/claim/cut.py" 567, .int 132 0, .int 3 0, .int 0 0, .int 0 0, .int 3 0, .ref 147, .bool true, .int 276 0, .ref 148, .none, .none, .none, .ref 149, .int 568 0, .int 132 0, .str "/claim/cut.py" 569], #[]⟩ : Obj)),
  (151, (⟨.type "function", none, .func (docDef "_law_agrees" (fParams (stAt 26)) (fBody (stAt 26)) (fScope (stAt 26)) (.str "law_sh0015_01" 509) (.ref 150) .none), #[]⟩ : Obj)),
  (155, (⟨.type "code", none, .fields #[.str "law" 571, .str "law" 572, .str "/claim/cut.py" 573, .int 148 0, .int 1 0, .int 0 0, .int 0 0, .int 3 0, .ref 152, .bool true, .int 276 0, .ref 153, .none, .none, .none, .ref 154, .int 574 0, .int 148 0, .str "/claim/cut.py" 575], #[]⟩ : Obj)),
  (156, (⟨.type "function", none, .func (docDef "law" (fParams (stAt 27)) (fBody (stAt 27)) (fScope (stAt 27)) (.str "law_sh0015_01" 509) (.ref 155) .none), #[]⟩ : Obj))]
noncomputable def asK : List Addr := [3, 39, 48, 49, 51, 60, 61, 67, 68, 74, 75, 81, 82, 86, 87, 91, 92, 98, 99, 105, 106, 112, 113, 119, 120, 126, 127, 133, 134, 140, 141, 145, 146, 150, 151, 155, 156]
theorem asK_eq (P : Params) : asK = (kfrag P).map (·.1) := by rfl
noncomputable def topQ : Program := view pw_sh0015_01 [0, 2, 3, 4, 5, 7, 8, 9, 11, 12, 13, 14, 16, 17, 18, 19, 21, 22, 23, 24, 25, 26, 27]
noncomputable def looseL : List Str := ["b1_set", "c7_set", "_twin_re_1", "_twin_re_2"]
noncomputable abbrev kH : Hook := kHook kfrag asK asK_eq
noncomputable abbrev topX : Shared → Bool := fun s => xlAt topQ [] s && recOk (RowW.records rw_sh0015_01.row.toRowW) s
noncomputable abbrev fw (w : World) (a b : Bool) : World := (w.withFollow "set-order" a).withFollow "special-get-raises" b
noncomputable abbrev topSee (s : Shared) := (openSeen topQ looseL (importedModules rw_sh0015_01.row.prog.main.body) topX true s, Hook.obs kH s)
theorem top_false_false (w : World) : (openEnds treeTable rw_sh0015_01.row.prog (fw w false false) 4200).map topSee = some (openGood topQ looseL, Hook.val kH (fw w false false)) := by
  unfold openEnds fencedOpening topFrom topSee
  rw [Fast.te10274390034422433532, Fast.te14082659384304107361, Fast.te14364793385576792824, Fast.te1435165496053646825, Fast.te14289696077712309145, Fast.te4187177175401517315]
  kernel_rfl
theorem top_false_true (w : World) : (openEnds treeTable rw_sh0015_01.row.prog (fw w false true) 4200).map topSee = some (openGood topQ looseL, Hook.val kH (fw w false true)) := by
  unfold openEnds fencedOpening topFrom topSee
  rw [Fast.te10274390034422433532, Fast.te14082659384304107361, Fast.te14364793385576792824, Fast.te1435165496053646825, Fast.te14289696077712309145, Fast.te4187177175401517315]
  kernel_rfl
theorem top_true_false (w : World) : (openEnds treeTable rw_sh0015_01.row.prog (fw w true false) 4200).map topSee = some (openGood topQ looseL, Hook.val kH (fw w true false)) := by
  unfold openEnds fencedOpening topFrom topSee
  rw [Fast.te10274390034422433532, Fast.te14082659384304107361, Fast.te14364793385576792824, Fast.te1435165496053646825, Fast.te14289696077712309145, Fast.te4187177175401517315]
  kernel_rfl
theorem top_true_true (w : World) : (openEnds treeTable rw_sh0015_01.row.prog (fw w true true) 4200).map topSee = some (openGood topQ looseL, Hook.val kH (fw w true true)) := by
  unfold openEnds fencedOpening topFrom topSee
  rw [Fast.te10274390034422433532, Fast.te14082659384304107361, Fast.te14364793385576792824, Fast.te1435165496053646825, Fast.te14289696077712309145, Fast.te4187177175401517315]
  kernel_rfl
theorem left_all : LeftO rw_sh0015_01.row.prog topQ looseL topX (Hook.obs kH) (Hook.val kH) 4200 := fun w => by
  have e1 := World.withFollow_self w "set-order"
  have e2 := World.withFollow_self w "special-get-raises"
  show (openEnds treeTable rw_sh0015_01.row.prog w 4200).map topSee = some (openGood topQ looseL, Hook.val kH w)
  cases h1 : w.params.followText "set-order" <;> rw [h1] at e1 <;> cases h2 : w.params.followText "special-get-raises" <;> rw [h2] at e2
  · have e : fw w false false = w := by unfold fw; rw [e1, e2]
    rw [← e]; exact top_false_false w
  · have e : fw w false true = w := by unfold fw; rw [e1, e2]
    rw [← e]; exact top_false_true w
  · have e : fw w true false = w := by unfold fw; rw [e1, e2]
    rw [← e]; exact top_true_false w
  · have e : fw w true true = w := by unfold fw; rw [e1, e2]
    rw [← e]; exact top_true_true w
end Mine
end

section
set_option maxRecDepth 100000
set_option maxHeartbeats 4000000
set_option linter.unusedVariables false
open PySem PySem.W PyProof.Rows PySem.Calls PySem.Challenge
namespace Mine
noncomputable def setChk (es : List (Int × Value)) (L : List Int) : Bool :=
  es.all (fun e => match e.2 with | .int i t => (e.1 == hashInt i) && e.2.scannable && L.contains i | _ => false) && L.all (fun i => es.any fun e => match e.2 with | .int j _ => j == i | _ => false)
theorem set_of_chk {prog : Program} {w : World} {h : Heap} {a : Addr} {o : Obj} {es : Array (Int × Value)} {ep : Nat} {t : SetTable} {L : List Int} {n : Nat} (ho : h.get? a = some o) (hx : o.ExactSet) (hd : o.data = .set es ep t) (hc : setChk es.toList L = true) (hb : es.size < scanBound) (hf : t.fits es.size = true) (hn : es.size = n) :
    h.SetOf (intKind prog w) a (fun k => L.contains k) n := by
  unfold setChk at hc
  rw [Bool.and_eq_true] at hc
  obtain ⟨h1, h2⟩ := hc
  have key : ∀ e ∈ es.toList, ∃ i t, e.2 = .int i t ∧ e.1 = hashInt i ∧ e.2.scannable = true ∧ L.contains i = true := fun e he => by
    have := List.all_eq_true.mp h1 e he
    split at this
    · rename_i i t hv
      rw [Bool.and_eq_true, Bool.and_eq_true, beq_iff_eq] at this
      exact ⟨i, t, hv, this.1.1, this.1.2, this.2⟩
    · cases this
  refine ⟨o, es, ep, t, ho, hx, hd, fun e he => ?_, fun k => ⟨fun hk => ?_, fun ⟨e, he, hi⟩ => ?_⟩, hb, hf, hn⟩
  · obtain ⟨i, t, hv, hh, hs, _⟩ := key e he
    exact ⟨⟨i, by rw [hv]; exact beq_self_eq_true i, hh⟩, hs⟩
  · have hm : k ∈ L := by simpa using hk
    obtain ⟨e, he, hv⟩ := List.any_eq_true.mp (List.all_eq_true.mp h2 k hm)
    refine ⟨e, he, ?_⟩
    obtain ⟨i, t, hv', _⟩ := key e he
    rw [hv'] at hv ⊢
    rw [beq_iff_eq.mp hv]
    exact beq_self_eq_true k
  · obtain ⟨i, t, hv, _, _, hc⟩ := key e he
    rw [hv] at hi
    have : i = k := beq_iff_eq.mp hi
    rw [← this]; exact hc
end Mine
end

section
set_option maxRecDepth 100000
set_option maxHeartbeats 4000000
set_option linter.unusedVariables false
open PySem PySem.W PyProof.Rows PySem.Calls PySem.Challenge
namespace Mine
/-- the object of the fragment at an address -/
noncomputable def kAt (P : Params) (a : Addr) : Obj := ((kfrag P).lookup a).getD { cls := .none }
theorem k_has (P : Params) : ∀ a ∈ asK, (kfrag P).lookup a = some (kAt P a) := by
  intro a ha
  unfold kAt
  cases h : (kfrag P).lookup a with
  | some o => rfl
  | none =>
    have e := asK_eq P
    rw [e] at ha
    obtain ⟨p, hp, rfl⟩ := List.mem_map.mp ha
    have := List.lookup_eq_none_iff.mp h p hp
    simp at this
section
variable {w : World} {h : Heap} {mg mb : Str → Option Value}
theorem k_get (KX : (kfrag w.params).In h) {a : Addr} (ha : a ∈ asK) : h.get? a = some (kAt w.params a) := KX _ _ (k_has _ a ha)
theorem k_def (KX : (kfrag w.params).In h) {a : Addr} {name : Str} {st : Stmt} {pm cd : Value} (ha : a ∈ asK) (hd : (kAt w.params a).data = .func (docDef name (fParams st) (fBody st) (fScope st) pm cd .none)) (hc : codeIn (kfrag w.params) cd name = true) : DefAt h a name st :=
  ⟨_, pm, cd, .none, k_get KX ha, hd, codeRec_of KX hc⟩
theorem k_fn (KX : (kfrag w.params).In h) {a : Addr} {fd : FuncData} (ha : a ∈ asK) (hd : (kAt w.params a).data = .func fd) : OfFn h a := ⟨_, fd, k_get KX ha, hd⟩
theorem k_fn_of {a : Addr} {name : Str} {st : Stmt} (D : DefAt h a name st) : OfFn h a := let ⟨o, _, _, _, e, q, _⟩ := D; ⟨o, _, e, q⟩
theorem k_blt {x : Str} {v : Value} (G : h.Ns mainGlobals mg) (B : ∀ x : Str, x ≠ "__name__" → mb x = bootBuiltins x) (KX : (kfrag w.params).In h) (e : nsIn (kfrag w.params) mainGlobals x = some none) (hn : x ≠ "__name__") (hv : bootBuiltins x = some v) : mg x = none ∧ mb x = some v := ⟨mg_none_of KX G e, (B x hn).trans hv⟩
theorem kd_in_table_b1 (KX : (kfrag w.params).In h) : DefAt h 49 "in_table_b1" (stAt 3) := k_def (pm := .str "cpy313.stringprep" 282) (cd := .ref 48) KX (by decide) (by kernel_rfl) (by kernel_rfl)
theorem kd_in_table_c7 (KX : (kfrag w.params).In h) : DefAt h 61 "in_table_c7" (stAt 5) := k_def (pm := .str "cpy313.stringprep" 282) (cd := .ref 60) KX (by decide) (by kernel_rfl) (by kernel_rfl)
theorem kd_iter_escaped_chars (KX : (kfrag w.params).In h) : DefAt h 68 "_iter_escaped_chars" (stAt 7) := k_def (pm := .str "cpy313.email.utils" 386) (cd := .ref 67) KX (by decide) (by kernel_rfl) (by kernel_rfl)
theorem kd_strip_quoted_realnames (KX : (kfrag w.params).In h) : DefAt h 75 "_strip_quoted_realnames" (stAt 8) := k_def (pm := .str "cpy313.email.utils" 386) (cd := .ref 74) KX (by decide) (by kernel_rfl) (by kernel_rfl)
theorem kd_check_parenthesis (KX : (kfrag w.params).In h) : DefAt h 82 "_check_parenthesis" (stAt 9) := k_def (pm := .str "cpy313.email.utils" 386) (cd := .ref 81) KX (by decide) (by kernel_rfl) (by kernel_rfl)
theorem kd_quotedata (KX : (kfrag w.params).In h) : DefAt h 99 "quotedata" (stAt 14) := k_def (pm := .str "cpy313.smtplib" 420) (cd := .ref 98) KX (by decide) (by kernel_rfl) (by kernel_rfl)
theorem kd_ISTERMINAL (KX : (kfrag w.params).In h) : DefAt h 106 "ISTERMINAL" (stAt 18) := k_def (pm := .str "cpy313.token" 489) (cd := .ref 105) KX (by decide) (by kernel_rfl) (by kernel_rfl)
theorem kd_ISEOF (KX : (kfrag w.params).In h) : DefAt h 113 "ISEOF" (stAt 19) := k_def (pm := .str "cpy313.token" 489) (cd := .ref 112) KX (by decide) (by kernel_rfl) (by kernel_rfl)
theorem kd_law_draw (KX : (kfrag w.params).In h) : DefAt h 120 "_law_draw" (stAt 21) := k_def (pm := .str "law_sh0015_01" 509) (cd := .ref 119) KX (by decide) (by kernel_rfl) (by kernel_rfl)
theorem kd_law_depths (KX : (kfrag w.params).In h) : DefAt h 127 "_law_depths" (stAt 22) := k_def (pm := .str "law_sh0015_01" 509) (cd := .ref 126) KX (by decide) (by kernel_rfl) (by kernel_rfl)
theorem kd_law_is_tree (KX : (kfrag w.params).In h) : DefAt h 134 "_law_is_tree" (stAt 23) := k_def (pm := .str "law_sh0015_01" 509) (cd := .ref 133) KX (by decide) (by kernel_rfl) (by kernel_rfl)
theorem kd_law_word (KX : (kfrag w.params).In h) : DefAt h 141 "_law_word" (stAt 24) := k_def (pm := .str "law_sh0015_01" 509) (cd := .ref 140) KX (by decide) (by kernel_rfl) (by kernel_rfl)
theorem kd_law_mail (KX : (kfrag w.params).In h) : DefAt h 146 "_law_mail" (stAt 25) := k_def (pm := .str "law_sh0015_01" 509) (cd := .ref 145) KX (by decide) (by kernel_rfl) (by kernel_rfl)
theorem kd_law_agrees (KX : (kfrag w.params).In h) : DefAt h 151 "_law_agrees" (stAt 26) := k_def (pm := .str "law_sh0015_01" 509) (cd := .ref 150) KX (by decide) (by kernel_rfl) (by kernel_rfl)
theorem kd_law (KX : (kfrag w.params).In h) : DefAt h 156 "law" (stAt 27) := k_def (pm := .str "law_sh0015_01" 509) (cd := .ref 155) KX (by decide) (by kernel_rfl) (by kernel_rfl)
theorem tops_of {loose : List Str} {mean : ExcName → Option Value} {q : Program} (KX : (kfrag w.params).In h) (T : Top q loose mean mg mb h) {prog : Program} : Tops prog w h mg mb where
  ok := ⟨T.g, T.b, T.nolimit⟩
  twin_re_1 := mg_of KX T.g (by kernel_rfl)
  twin_re_2 := mg_of KX T.g (by kernel_rfl)
  CRLF := ⟨_, mg_of (v := .str "\r\n" 480) KX T.g (by kernel_rfl)⟩
  b1_set := mg_of KX T.g (by kernel_rfl)
  c7_set := mg_of KX T.g (by kernel_rfl)
  len := k_blt T.g T.builtins KX (by kernel_rfl) (by decide +kernel) (by decide +kernel)
  sum := k_blt T.g T.builtins KX (by kernel_rfl) (by decide +kernel) (by decide +kernel)
  max := k_blt T.g T.builtins KX (by kernel_rfl) (by decide +kernel) (by decide +kernel)
  chr := k_blt T.g T.builtins KX (by kernel_rfl) (by decide +kernel) (by decide +kernel)
  ord := k_blt T.g T.builtins KX (by kernel_rfl) (by decide +kernel) (by decide +kernel)
  list := k_blt T.g T.builtins KX (by kernel_rfl) (by decide +kernel) (by decide +kernel)
  range := k_blt T.g T.builtins KX (by kernel_rfl) (by decide +kernel) (by decide +kernel)
  enumerate := k_blt T.g T.builtins KX (by kernel_rfl) (by decide +kernel) (by decide +kernel)
  zip := k_blt T.g T.builtins KX (by kernel_rfl) (by decide +kernel) (by decide +kernel)
  NT_OFFSET := ⟨_, mg_of (v := .int 256 493) KX T.g (by kernel_rfl)⟩
  ENDMARKER := ⟨_, mg_of (v := .int 0 491) KX T.g (by kernel_rfl)⟩
  n_in_table_b1 := mg_of KX T.g (by kernel_rfl)
  o_in_table_b1 := k_fn_of (kd_in_table_b1 KX)
  n_in_table_c7 := mg_of KX T.g (by kernel_rfl)
  o_in_table_c7 := k_fn_of (kd_in_table_c7 KX)
  n__iter_escaped_chars := mg_of KX T.g (by kernel_rfl)
  o__iter_escaped_chars := k_fn_of (kd_iter_escaped_chars KX)
  n__strip_quoted_realnames := mg_of KX T.g (by kernel_rfl)
  o__strip_quoted_realnames := k_fn_of (kd_strip_quoted_realnames KX)
  n__check_parenthesis := mg_of KX T.g (by kernel_rfl)
  o__check_parenthesis := k_fn_of (kd_check_parenthesis KX)
  n_quotedata := mg_of KX T.g (by kernel_rfl)
  o_quotedata := k_fn_of (kd_quotedata KX)
  n_ISTERMINAL := mg_of KX T.g (by kernel_rfl)
  o_ISTERMINAL := k_fn_of (kd_ISTERMINAL KX)
  n_ISEOF := mg_of KX T.g (by kernel_rfl)
  o_ISEOF := k_fn_of (kd_ISEOF KX)
  n__law_draw := mg_of KX T.g (by kernel_rfl)
  o__law_draw := k_fn_of (kd_law_draw KX)
  n__law_depths := mg_of KX T.g (by kernel_rfl)
  o__law_depths := k_fn_of (kd_law_depths KX)
  n__law_is_tree := mg_of KX T.g (by kernel_rfl)
  o__law_is_tree := k_fn_of (kd_law_is_tree KX)
  n__law_word := mg_of KX T.g (by kernel_rfl)
  o__law_word := k_fn_of (kd_law_word KX)
  n__law_mail := mg_of KX T.g (by kernel_rfl)
  o__law_mail := k_fn_of (kd_law_mail KX)
  n__law_agrees := mg_of KX T.g (by kernel_rfl)
  o__law_agrees := k_fn_of (kd_law_agrees KX)
  p_1 := ⟨_, _, _, k_get KX (a := 87) (by decide), rfl, rfl, rfl, rfl, rfl, rfl, _, _, _, k_get KX (a := 86) (by decide), rfl, by kernel_rfl⟩
  p_2 := ⟨_, _, _, k_get KX (a := 92) (by decide), rfl, rfl, rfl, rfl, rfl, rfl, _, _, _, k_get KX (a := 91) (by decide), rfl, by kernel_rfl⟩
  s_b1 := set_of_chk (L := setB1) (k_get KX (a := 39) (by decide)) ⟨rfl, rfl, rfl⟩ rfl (by kernel_rfl) (by decide) (by kernel_rfl) (by kernel_rfl)
  s_c7 := set_of_chk (L := setC7) (k_get KX (a := 51) (by decide)) ⟨rfl, rfl, rfl⟩ rfl (by kernel_rfl) (by decide) (by kernel_rfl) (by kernel_rfl)
  f_in_table_b1 := kd_in_table_b1 KX
  f_in_table_c7 := kd_in_table_c7 KX
  f__iter_escaped_chars := kd_iter_escaped_chars KX
  f__strip_quoted_realnames := kd_strip_quoted_realnames KX
  f__check_parenthesis := kd_check_parenthesis KX
  f_quotedata := kd_quotedata KX
  f_ISTERMINAL := kd_ISTERMINAL KX
  f_ISEOF := kd_ISEOF KX
  f__law_draw := kd_law_draw KX
  f__law_depths := kd_law_depths KX
  f__law_is_tree := kd_law_is_tree KX
  f__law_word := kd_law_word KX
  f__law_mail := kd_law_mail KX
  f__law_agrees := kd_law_agrees KX
end
end Mine
end

section
set_option maxRecDepth 100000
set_option maxHeartbeats 4000000
set_option linter.unusedVariables false
open PySem PySem.W PyProof.Rows PySem.Calls PySem.Challenge
namespace Mine
theorem well_ints {P : Params} {h : Heap} : ∀ {ns : List Int} {vs : List Value}, WellAll P h vs (ofPys (ns.map PyData.int)) → VsRel [] (ns.map .int) vs
  | [], vs, x => by
    have x' : WellAll P h vs [] := x
    cases x'
    exact trivial
  | n :: ns, vs, x => by
    have x' : WellAll P h vs (.int n :: ofPys (ns.map PyData.int)) := x
    cases x' with
    | cons hv hr =>
      cases hv
      exact ⟨rfl, well_ints hr⟩
theorem low_caller : Low 7 callerA := ⟨rfl, by decide, by decide⟩
theorem law_good {w : World} {s₀ s₁ : Shared} {mg mb : Str → Option Value} {l : Addr} {ns : List Int} (T : Tops rw_sh0015_01.row.prog w s₁.heap mg mb) (D : DefAt s₁.heap 156 "law" (stAt 27)) (hg : s₁.gens = #[])
    (hW : Well w.params s₁.heap (.ref l) (ofPy (.list (ns.map PyData.int)))) (hn : ¬ (63 : Int) < ns.length) :
    wpAny (model rw_sh0015_01.row.prog w) callerA (call (.ref 156) [.ref l])
      (fun v s' => GoodWG rw_sh0015_01.row.claim (classAt s₀.heap) (ExcName.means s₀.heap) [ofPy (.list (ns.map PyData.int))] s₁ (.ok (.ret v)) s')
      (fun e s' => GoodWG rw_sh0015_01.row.claim (classAt s₀.heap) (ExcName.means s₀.heap) [ofPy (.list (ns.map PyData.int))] s₁ (.error e) s') s₁ := by
  have hW' : Well w.params s₁.heap (.ref l) (.list (ofPys (ns.map PyData.int))) := hW
  cases hW' with
  | list hget hall =>
    rename_i vs
    obtain ⟨S', hP⟩ := plain_law ns (by omega)
    refine law_call (d := 0) (vs := vs) (n := 0) (ns := ns) T D low_caller hget (well_ints hall) hP fun s' hk hx ho => ?_
    refine ⟨.inl ⟨.bool true, .bool true, [], rfl, fun cls => ?_, .bool true, ?_, fun _ => ⟨List.nodup_nil, fun a ha => by cases ha⟩⟩, .of_keep hk, ho, hx.2 (.of_eq hg)⟩
    · rfl
    · wrow_post
end Mine
end

set_option maxRecDepth 100000
set_option linter.unusedVariables false
open PySem PySem.W PyProof.Rows
open Mine
set_option maxHeartbeats 8000000 in
theorem PySem.Challenge.cw_sh0015_01_holds : PySem.Challenge.rw_sh0015_01.Holds := by
  w_on
  refine holds_law (by decide +kernel) fun said => ?_
  refine holds_open (q := topQ) (loose := looseL) (Xt := topX) (XP := XL topQ []) (Yf := Hook.obs kH) (Ya := Hook.val kH) (YP := Hook.says kH) (N := 4200) left_all (Hook.of kH) (Hook.keeps kH) (fun s e => xl_of s (Bool.and_eq_true_iff.mp e).1) XL.keeps (by rfl) (by rfl) (by rfl) (fun s e => recFacts_of (Bool.and_eq_true_iff.mp e).2) (by rfl) (by first | assumption | decide +kernel) (by decide +kernel) ⟨rfl, rfl, rfl, rfl, rfl, by decide +kernel⟩ ?hw ?hc
  case hw => w_witness2
  intro w s₀ s₁ mg mb G Y fa o pm cd doc dV kV ho hd hcd hD hmg hg args vals as hpre hlay hrd hwl hlo
  have KX : (kfrag w.params).In s₁.heap := kIn_of Y
  have D := kd_law KX
  have hfa : some (Value.ref fa) = some (.ref 156) := hmg.symm.trans (mg_of (v := .ref 156) KX (Ground.T G).g (by kernel_rfl))
  cases hfa
  have T := tops_of (prog := PySem.Challenge.rw_sh0015_01.row.prog) KX (Ground.T G)
  clear hD hcd hd ho hmg Y
  wrow_args hpre hlay hrd hwl hlo
  rename_i ns _ _ _ _ _ _ l _ _ _ _ hW _ _ _ hlen _
  exact law_good T D hg hW hlen
