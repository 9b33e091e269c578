import PyProof.Rows.All
import Wide.All
import OpenK.AllK
import Wide.FinOn
import KE.KFmtOwn
import KE.KxDecode
import KE.KItemsList
import PySem.Challenge.RW_wn0050_02
set_option Elab.async false
section
open PySem PySem.W PyProof.Rows
set_option maxRecDepth 100000
set_option maxHeartbeats 8000000
open_top hd02 for PySem.Challenge.rw_wn0050_02
end
section
open PySem PySem.W PyProof.Rows
set_option maxRecDepth 100000
set_option linter.unusedVariables false
namespace Mine

inductive AV where
  | unbound | none | bool (b : Bool) | int (i : Int) | str (s : List Nat) | bytes (b : List UInt8)
  | list (l : List AV) | tup (l : List AV) | dict (l : List (List Nat × AV)) | dicti (l : List (Int × AV)) | cell (n : Nat) | inst (c : Addr)
  | script (l : List Int) | range (a b c : Int) | vals (l : List (List Nat × AV)) | mtch (g : List UInt8) | pat

inductive ACell where
  | dead | list (l : List AV) | dict (l : List (List Nat × AV)) | dicti (l : List (Int × AV))

abbrev St := List ACell

noncomputable def toStr (l : List Nat) : Str := ⟨l.toArray⟩

structure Cx where
  prog : Program
  w : World
  H₀ : Heap
  dep : Nat
  uni : Nat
  exc : Addr
  pat : Addr
  lo : ∃ b o, H₀.get? b = some o ∧ sysModules < b
  patOk : ∃ ob, H₀.get? pat = some ob ∧ ob.cls = .type "re.Pattern" ∧ ob.dict = none

noncomputable def PlainTup (h : Heap) (a : Addr) (items : Array Value) : Prop := ∃ n, h.get? a = some { cls := .type "tuple", data := .seq items n }

noncomputable def MtchIs (pat : Addr) (mo so : Obj) (sp : Addr) (g : List UInt8) : Prop :=
  ∃ text t p1 p2 p3 i0 i1 b e, mo = { cls := .type "re.Match", data := .fields #[.bytes text t, .ref pat, p1, p2, p3, .ref sp] } ∧ so = { cls := .type "tuple", data := .seq #[i0, i1, rawInt b, rawInt e] } ∧
    0 ≤ b ∧ 0 ≤ e ∧ (text.extract b.toNat e.toNat).toList = g ∧ text.size ≤ sizeLine

section
variable (X : Cx) (ρ : List Addr) (Z : Addr → Prop) (h : Heap)
mutual
noncomputable def VRel : AV → Value → Prop
  | .unbound, _ => False
  | .none, v => v = .none
  | .bool b, v => v = .bool b
  | .int i, v => ∃ t, v = .int i t
  | .str s, v => ∃ t, v = .str (toStr s) t
  | .bytes b, v => ∃ t, v = .bytes b.toArray t
  | .list l, v => ∃ a vs, v = .ref a ∧ Z a ∧ h.PlainList a (List.toArray vs) ∧ VRels l vs
  | .tup l, v => ∃ a vs, v = .ref a ∧ Z a ∧ PlainTup h a (List.toArray vs) ∧ VRels l vs
  | .dict l, v => ∃ a es, v = .ref a ∧ Z a ∧ (a == sysModules) = false ∧ h.DictOf (strKind X.prog X.w) a es ∧ VRelD l es
  | .dicti l, v => ∃ a es, v = .ref a ∧ Z a ∧ (a == sysModules) = false ∧ h.DictOf (intKind X.prog X.w) a es ∧ VRelI l es
  | .cell n, v => ∃ a, ρ[n]? = some a ∧ v = .ref a
  | .inst c, v => ∃ a dx od, v = .ref a ∧ Z a ∧ Z dx ∧ h.get? a = some (instObj c dx) ∧ h.get? dx = some od ∧ shadowIn (some od) (Str.ofString "is_suburi") = some false
  | .script l, v => ∃ a vs, v = .ref a ∧ X.H₀.IsList a (List.toArray vs) ∧ IntsAre vs l
  | .range a b c, v => ∃ r t u w, v = .ref r ∧ Z r ∧ IsRange h r a b c t u w
  | .vals l, v => ∃ a d es, v = .ref a ∧ Z a ∧ Z d ∧ h.IsValuesView a d ∧ (d == sysModules) = false ∧ h.DictOf (strKind X.prog X.w) d es ∧ VRelD l es
  | .mtch g, v => ∃ a sp mo so, v = .ref a ∧ Z a ∧ Z sp ∧ h.get? a = some mo ∧ h.get? sp = some so ∧ MtchIs X.pat mo so sp g
  | .pat, v => v = .ref X.pat
noncomputable def VRels : List AV → List Value → Prop
  | [], vs => vs = []
  | x :: xs, vs => ∃ v r, vs = v :: r ∧ VRel x v ∧ VRels xs r
noncomputable def VRelD : List (List Nat × AV) → List (Str × Value) → Prop
  | [], es => es = []
  | (k, x) :: xs, es => ∃ v r, es = (toStr k, v) :: r ∧ VRel x v ∧ VRelD xs r
noncomputable def VRelI : List (Int × AV) → List (Int × Value) → Prop
  | [], es => es = []
  | (k, x) :: xs, es => ∃ v r, es = (k, v) :: r ∧ VRel x v ∧ VRelI xs r
end
end

noncomputable def Kept (P : Addr → Prop) (h h' : Heap) : Prop := ∀ a o, P a → h.get? a = some o → h'.get? a = some o

theorem isList_kept {P : Addr → Prop} {h h' : Heap} {a : Addr} {vs : Array Value} (k : Kept P h h') (p : P a) (x : h.PlainList a vs) : h'.PlainList a vs :=
  x.imp fun _ => k _ _ p
theorem isTuple_kept {P : Addr → Prop} {h h' : Heap} {a : Addr} {vs : Array Value} (k : Kept P h h') (p : P a) (x : PlainTup h a vs) : PlainTup h' a vs :=
  x.imp fun _ => k _ _ p
theorem dictOf_kept {prog : Program} {w : World} {K : Type} [DecidableEq K] {knd : KeyKind prog w K} {P : Addr → Prop} {h h' : Heap} {a : Addr} {es : List (K × Value)} (k : Kept P h h') (p : P a) (x : h.DictOf knd a es) : h'.DictOf knd a es :=
  x.imp fun _ x => x.imp fun _ x => x.imp fun _ x => ⟨k _ _ p x.1, x.2⟩

section
variable {X : Cx} {ρ ρ' : List Addr} {Z Z' : Addr → Prop} {h h' : Heap}
theorem prefix_get {α : Type} {l l' : List α} (p : l <+: l') {n : Nat} {x : α} (e : l[n]? = some x) : l'[n]? = some x := by
  obtain ⟨t, rfl⟩ := p
  rw [List.getElem?_append_left (by exact (List.getElem?_eq_some_iff.mp e).1)]; exact e
mutual
theorem VRel.mono (k : Kept Z h h') (hf : ∀ a, Z a → Z' a) (hp : ρ <+: ρ') : ∀ {x : AV} {v : Value}, VRel X ρ Z h x v → VRel X ρ' Z' h' x v
  | .unbound, _, r => by unfold VRel at r; exact r.elim
  | .none, _, r => by unfold VRel at r ⊢; exact r
  | .bool _, _, r => by unfold VRel at r ⊢; exact r
  | .int _, _, r => by unfold VRel at r ⊢; exact r
  | .str _, _, r => by unfold VRel at r ⊢; exact r
  | .bytes _, _, r => by unfold VRel at r ⊢; exact r
  | .list _, _, r => by
    unfold VRel at r ⊢
    obtain ⟨a, vs, e, f, l, q⟩ := r
    exact ⟨a, vs, e, hf a f, isList_kept k f l, VRels.mono k hf hp q⟩
  | .tup _, _, r => by
    unfold VRel at r ⊢
    obtain ⟨a, vs, e, f, l, q⟩ := r
    exact ⟨a, vs, e, hf a f, isTuple_kept k f l, VRels.mono k hf hp q⟩
  | .dict _, _, r => by
    unfold VRel at r ⊢
    obtain ⟨a, vs, e, f, g, l, q⟩ := r
    exact ⟨a, vs, e, hf a f, g, dictOf_kept k f l, VRelD.mono k hf hp q⟩
  | .dicti _, _, r => by
    unfold VRel at r ⊢
    obtain ⟨a, vs, e, f, g, l, q⟩ := r
    exact ⟨a, vs, e, hf a f, g, dictOf_kept k f l, VRelI.mono k hf hp q⟩
  | .cell _, _, r => by
    unfold VRel at r ⊢
    obtain ⟨a, e, q⟩ := r
    exact ⟨a, prefix_get hp e, q⟩
  | .inst _, _, r => by
    unfold VRel at r ⊢
    obtain ⟨a, dx, od, e, f, f', g, q, q'⟩ := r
    exact ⟨a, dx, od, e, hf a f, hf dx f', k _ _ f g, k _ _ f' q, q'⟩
  | .script _, _, r => by unfold VRel at r ⊢; exact r
  | .range _ _ _, _, r => by
    unfold VRel at r ⊢
    obtain ⟨a, t, u, w, e, f, g⟩ := r
    exact ⟨a, t, u, w, e, hf a f, k _ _ f g⟩
  | .vals _, _, r => by
    unfold VRel at r ⊢
    obtain ⟨a, d, es, e, f, f', ⟨o, ho, q⟩, g, l, q'⟩ := r
    exact ⟨a, d, es, e, hf a f, hf d f', ⟨o, k _ _ f ho, q⟩, g, dictOf_kept k f' l, VRelD.mono k hf hp q'⟩
  | .mtch _, _, r => by
    unfold VRel at r ⊢
    obtain ⟨a, sp, mo, so, e, f, f', g, g', q⟩ := r
    exact ⟨a, sp, mo, so, e, hf a f, hf sp f', k _ _ f g, k _ _ f' g', q⟩
  | .pat, _, r => by unfold VRel at r ⊢; exact r
theorem VRels.mono (k : Kept Z h h') (hf : ∀ a, Z a → Z' a) (hp : ρ <+: ρ') : ∀ {x : List AV} {v : List Value}, VRels X ρ Z h x v → VRels X ρ' Z' h' x v
  | [], _, r => by unfold VRels at r ⊢; exact r
  | _ :: _, _, r => by
    unfold VRels at r ⊢
    obtain ⟨v, l, e, p, q⟩ := r
    exact ⟨v, l, e, VRel.mono k hf hp p, VRels.mono k hf hp q⟩
theorem VRelD.mono (k : Kept Z h h') (hf : ∀ a, Z a → Z' a) (hp : ρ <+: ρ') : ∀ {x : List (List Nat × AV)} {v : List (Str × Value)}, VRelD X ρ Z h x v → VRelD X ρ' Z' h' x v
  | [], _, r => by unfold VRelD at r ⊢; exact r
  | (_, _) :: _, _, r => by
    unfold VRelD at r ⊢
    obtain ⟨v, l, e, p, q⟩ := r
    exact ⟨v, l, e, VRel.mono k hf hp p, VRelD.mono k hf hp q⟩
theorem VRelI.mono (k : Kept Z h h') (hf : ∀ a, Z a → Z' a) (hp : ρ <+: ρ') : ∀ {x : List (Int × AV)} {v : List (Int × Value)}, VRelI X ρ Z h x v → VRelI X ρ' Z' h' x v
  | [], _, r => by unfold VRelI at r ⊢; exact r
  | (_, _) :: _, _, r => by
    unfold VRelI at r ⊢
    obtain ⟨v, l, e, p, q⟩ := r
    exact ⟨v, l, e, VRel.mono k hf hp p, VRelI.mono k hf hp q⟩
end

theorem VRels.nil_iff {vs : List Value} : VRels X ρ Z h [] vs ↔ vs = [] := by unfold VRels; exact Iff.rfl
theorem VRels.cons_iff {x : AV} {xs : List AV} {vs : List Value} : VRels X ρ Z h (x :: xs) vs ↔ ∃ v r, vs = v :: r ∧ VRel X ρ Z h x v ∧ VRels X ρ Z h xs r := by
  conv => lhs; unfold VRels
theorem VRels.cons {x : AV} {xs : List AV} {v : Value} {vs : List Value} (a : VRel X ρ Z h x v) (b : VRels X ρ Z h xs vs) : VRels X ρ Z h (x :: xs) (v :: vs) :=
  VRels.cons_iff.mpr ⟨v, vs, rfl, a, b⟩
theorem VRels.length : ∀ {xs : List AV} {vs : List Value}, VRels X ρ Z h xs vs → xs.length = vs.length
  | [], vs, r => by rw [VRels.nil_iff.mp r]; rfl
  | x :: xs, vs, r => by
    obtain ⟨v, t, rfl, _, q⟩ := VRels.cons_iff.mp r
    simp [VRels.length q]
theorem VRels.get : ∀ {xs : List AV} {vs : List Value}, VRels X ρ Z h xs vs → ∀ {i : Nat} {x : AV}, xs[i]? = some x → ∃ v, vs[i]? = some v ∧ VRel X ρ Z h x v
  | [], _, _, _, _, e => by simp at e
  | x :: xs, vs, r, i, y, e => by
    obtain ⟨v, t, rfl, p, q⟩ := VRels.cons_iff.mp r
    cases i with
    | zero => simp at e; subst e; exact ⟨v, rfl, p⟩
    | succ i => simp at e; simpa using VRels.get q e
theorem VRels.append : ∀ {xs ys : List AV} {vs us : List Value}, VRels X ρ Z h xs vs → VRels X ρ Z h ys us → VRels X ρ Z h (xs ++ ys) (vs ++ us)
  | [], _, vs, _, r, q => by rw [VRels.nil_iff.mp r]; exact q
  | x :: xs, ys, vs, us, r, q => by
    obtain ⟨v, t, rfl, p, r'⟩ := VRels.cons_iff.mp r
    exact VRels.cons p (VRels.append r' q)
theorem VRels.take : ∀ {xs : List AV} {vs : List Value} (n : Nat), VRels X ρ Z h xs vs → VRels X ρ Z h (xs.take n) (vs.take n)
  | [], vs, n, r => by rw [VRels.nil_iff.mp r]; simp; exact VRels.nil_iff.mpr rfl
  | x :: xs, vs, 0, r => by simp; exact VRels.nil_iff.mpr rfl
  | x :: xs, vs, n + 1, r => by
    obtain ⟨v, t, rfl, p, q⟩ := VRels.cons_iff.mp r
    simp; exact VRels.cons p (VRels.take n q)
theorem VRels.drop : ∀ {xs : List AV} {vs : List Value} (n : Nat), VRels X ρ Z h xs vs → VRels X ρ Z h (xs.drop n) (vs.drop n)
  | xs, vs, 0, r => by simpa using r
  | [], vs, n + 1, r => by rw [VRels.nil_iff.mp r]; simp; exact VRels.nil_iff.mpr rfl
  | x :: xs, vs, n + 1, r => by
    obtain ⟨v, t, rfl, p, q⟩ := VRels.cons_iff.mp r
    simp; exact VRels.drop n q
theorem VRels.set : ∀ {xs : List AV} {vs : List Value} (i : Nat) {x : AV} {v : Value}, VRels X ρ Z h xs vs → VRel X ρ Z h x v → VRels X ρ Z h (xs.set i x) (vs.set i v)
  | [], vs, i, x, v, r, q => by rw [VRels.nil_iff.mp r]; simp; exact VRels.nil_iff.mpr rfl
  | y :: xs, vs, 0, x, v, r, q => by
    obtain ⟨v', t, rfl, p, q'⟩ := VRels.cons_iff.mp r
    simp; exact VRels.cons q q'
  | y :: xs, vs, i + 1, x, v, r, q => by
    obtain ⟨v', t, rfl, p, q'⟩ := VRels.cons_iff.mp r
    simp; exact VRels.cons p (VRels.set i q' q)
end

noncomputable def CRel (X : Cx) (ρ : List Addr) (Z : Addr → Prop) (h : Heap) : ACell → Addr → Prop
  | .dead, _ => True
  | .list l, a => ¬ Z a ∧ ∃ vs, h.PlainList a (List.toArray vs) ∧ VRels X ρ Z h l vs
  | .dict l, a => ¬ Z a ∧ ∃ es, h.DictOf (strKind X.prog X.w) a es ∧ VRelD X ρ Z h l es
  | .dicti l, a => ¬ Z a ∧ ∃ es, h.DictOf (intKind X.prog X.w) a es ∧ VRelI X ρ Z h l es

structure Inv (X : Cx) (Z : Addr → Prop) (ρ : List Addr) (σ : St) (s : Shared) : Prop where
  base : ∀ b o, X.H₀.get? b = some o → s.heap.get? b = some o
  fr : ∀ a, Z a → ∃ o, s.heap.get? a = some o
  len : ρ.length = σ.length
  nd : ρ.Nodup
  old : ∀ a ∈ ρ, (∃ o, s.heap.get? a = some o) ∧ X.H₀.get? a = none ∧ (a == sysModules) = false
  cells : ∀ (n : Nat) (a : Addr) (c : ACell), ρ[n]? = some a → σ[n]? = some c → CRel X ρ Z s.heap c a

noncomputable def KeepO (o : Obj) (x : Option Obj) : Prop := x = some o ∨ (o.cls = .type "frame" ∧ ∃ sl, x = some { o with slots := sl })

noncomputable def FCls (h : Heap) (a : Addr) : Prop := ∃ o es ep, h.get? a = some o ∧ o.cls = .type "frame" ∧ o.data = .dict es ep
theorem FCls.kept {h h' : Heap} {a : Addr} (x : FCls h a) (k : ∀ o, h.get? a = some o → h'.get? a = some o) : FCls h' a := x.imp fun _ x => x.imp fun _ x => x.imp fun _ x => ⟨k _ x.1, x.2⟩

structure Ext (T : Addr → Prop) (Z : Addr → Prop) (ρ : List Addr) (s : Shared) (Z' : Addr → Prop) (ρ' : List Addr) (s' : Shared) : Prop where
  keep : ∀ a o, s.heap.get? a = some o → ¬ T a → a ∉ ρ → KeepO o (s'.heap.get? a)
  fkeep : Kept Z s.heap s'.heap
  fmono : ∀ a, Z a → Z' a
  fnew : ∀ a, Z' a → Z a ∨ a ∈ ρ ∨ s.heap.get? a = none
  rho : ρ <+: ρ'
  rnew : ∀ a ∈ ρ', a ∈ ρ ∨ s.heap.get? a = none
  alive : ∀ a o, s.heap.get? a = some o → ∃ o', s'.heap.get? a = some o'
  frm : ∀ a, FCls s.heap a → FCls s'.heap a
  gens : s'.gens = s.gens
  os : s'.os = s.os
  drawn : s'.drawn = s.drawn

noncomputable def T0 : Addr → Prop := fun _ => False

theorem KeepO.trans {o o' : Obj} {x : Option Obj} (a : KeepO o (some o')) (b : KeepO o' x) : KeepO o x := by
  rcases a with e | ⟨hc, sl, e⟩
  · cases e; exact b
  · cases e
    rcases b with e | ⟨_, sl', e⟩
    · exact .inr ⟨hc, sl, e⟩
    · exact .inr ⟨hc, sl', e⟩
theorem KeepO.some {o : Obj} {x : Option Obj} (a : KeepO o x) : ∃ o', x = some o' := by
  rcases a with e | ⟨_, sl, e⟩
  · exact ⟨_, e⟩
  · exact ⟨_, e⟩

theorem Ext.refl (T Z ρ s) : Ext T Z ρ s Z ρ s where
  keep := fun _ _ e _ _ => .inl e
  fkeep := fun _ _ _ e => e
  fmono := fun _ x => x
  fnew := fun _ x => .inl x
  rho := List.prefix_rfl
  rnew := fun _ x => .inl x
  alive := fun _ o e => ⟨o, e⟩
  frm := fun _ f => f
  gens := rfl
  os := rfl
  drawn := rfl

theorem none_of_alive {h h' : Heap} (al : ∀ a o, h.get? a = some o → ∃ o', h'.get? a = some o') {a : Addr} (e : h'.get? a = none) : h.get? a = none := by
  cases q : h.get? a with
  | none => rfl
  | some o => obtain ⟨o', e'⟩ := al a o q; rw [e] at e'; cases e'

theorem Ext.trans {T Z ρ s Z' ρ' s' Z'' ρ'' s''} (x : Ext T Z ρ s Z' ρ' s') (y : Ext T Z' ρ' s' Z'' ρ'' s'') : Ext T Z ρ s Z'' ρ'' s'' where
  keep := fun a o e ht hr => by
    have k := x.keep a o e ht hr
    obtain ⟨o', e'⟩ := k.some
    rw [e'] at k
    refine k.trans (y.keep a o' e' ht fun m => ?_)
    rcases x.rnew a m with m | m
    · exact hr m
    · rw [e] at m; cases m
  fkeep := fun a o f e => y.fkeep a o (x.fmono a f) (x.fkeep a o f e)
  fmono := fun a f => y.fmono a (x.fmono a f)
  fnew := fun a f => by
    rcases y.fnew a f with f | m | m
    · exact x.fnew a f
    · rcases x.rnew a m with m | m
      · exact .inr (.inl m)
      · exact .inr (.inr m)
    · exact .inr (.inr (none_of_alive x.alive m))
  rho := x.rho.trans y.rho
  rnew := fun a m => by
    rcases y.rnew a m with m | m
    · exact x.rnew a m
    · exact .inr (none_of_alive x.alive m)
  alive := fun a o e => by obtain ⟨o', e'⟩ := x.alive a o e; exact y.alive a o' e'
  frm := fun a f => y.frm a (x.frm a f)
  gens := y.gens.trans x.gens
  os := y.os.trans x.os
  drawn := y.drawn.trans x.drawn

theorem Ext.weaken {T T' Z ρ s Z' ρ' s'} (x : Ext T Z ρ s Z' ρ' s') (h : ∀ a, T a → T' a) : Ext T' Z ρ s Z' ρ' s' :=
  { x with keep := fun a o e ht hr => x.keep a o e (fun t => ht (h a t)) hr }

theorem Ext.drop {T T' Z ρ s Z' ρ' s'} (x : Ext T' Z ρ s Z' ρ' s') (h : ∀ a, T' a → T a ∨ s.heap.get? a = none) : Ext T Z ρ s Z' ρ' s' :=
  { x with keep := fun a o e ht hr => x.keep a o e (fun t => by
      rcases h a t with t | t
      · exact ht t
      · rw [e] at t; cases t) hr }

theorem VRel.ext {X : Cx} {T Z ρ s Z' ρ' s'} {x : AV} {v : Value} (y : Ext T Z ρ s Z' ρ' s') (r : VRel X ρ Z s.heap x v) : VRel X ρ' Z' s'.heap x v := r.mono y.fkeep y.fmono y.rho
theorem VRels.ext {X : Cx} {T Z ρ s Z' ρ' s'} {x : List AV} {v : List Value} (y : Ext T Z ρ s Z' ρ' s') (r : VRels X ρ Z s.heap x v) : VRels X ρ' Z' s'.heap x v := r.mono y.fkeep y.fmono y.rho
theorem VRelD.ext {X : Cx} {T Z ρ s Z' ρ' s'} {x : List (List Nat × AV)} {v : List (Str × Value)} (y : Ext T Z ρ s Z' ρ' s') (r : VRelD X ρ Z s.heap x v) : VRelD X ρ' Z' s'.heap x v := r.mono y.fkeep y.fmono y.rho
theorem VRelI.ext {X : Cx} {T Z ρ s Z' ρ' s'} {x : List (Int × AV)} {v : List (Int × Value)} (y : Ext T Z ρ s Z' ρ' s') (r : VRelI X ρ Z s.heap x v) : VRelI X ρ' Z' s'.heap x v := r.mono y.fkeep y.fmono y.rho

theorem ns_keepO {h h' : Heap} {a : Addr} {m : Str → Option Value} (k : ∀ o, h.get? a = some o → KeepO o (h'.get? a)) (x : h.Ns a m) : h'.Ns a m := by
  obtain ⟨o, es, ep, ho, hd, r⟩ := x
  rcases k o ho with e | ⟨_, sl, e⟩
  · exact ⟨o, es, ep, e, hd, r⟩
  · exact ⟨_, es, ep, e, hd, r⟩
theorem isCell_keepO {h h' : Heap} {a : Addr} {m : Option Value} (k : ∀ o, h.get? a = some o → KeepO o (h'.get? a)) (x : h.IsCell a m) : h'.IsCell a m := by
  obtain ⟨o, ho, hd⟩ := x
  rcases k o ho with e | ⟨_, sl, e⟩
  · exact ⟨o, e, hd⟩
  · exact ⟨_, e, hd⟩
theorem ns_there {h : Heap} {a : Addr} {m : Str → Option Value} (x : h.Ns a m) : h.get? a ≠ none := by
  obtain ⟨o, es, ep, ho, _⟩ := x
  rw [ho]; exact fun e => nomatch e
theorem isCell_there {h : Heap} {a : Addr} {m : Option Value} (x : h.IsCell a m) : h.get? a ≠ none := by
  obtain ⟨o, ho, _⟩ := x
  rw [ho]; exact fun e => nomatch e

structure Frames (X : Cx) (Z : Addr → Prop) (ρ : List Addr) (h : Heap) (fs : List Env) : Prop where
  each : ∀ env ∈ fs, env.scope.kind ≠ .module ∧ ∃ L, env.frame = some L ∧ ¬ Z L ∧ L ∉ ρ ∧ X.H₀.get? L = none ∧ FCls h L ∧ ∃ m, h.Ns L m

structure EnvRel (X : Cx) (Z : Addr → Prop) (ρ : List Addr) (h : Heap) (env : Env) (vis : List (Str × Nat)) (η : List AV) : Prop where
  kind : env.scope.kind = .function
  glob : env.globals = mainGlobals
  bltn : env.builtins = builtinsNs
  ns : ∃ m, h.Ns env.locals m ∧ ∀ x i av, vis.lookup x = some i → env.kindOf x = some .local → η[i]? = some av → (av = .unbound ∨ ∃ v, m x = some v ∧ VRel X ρ Z h av v)
  cel : ∀ x i, vis.lookup x = some i → (env.kindOf x = some .cell ∨ env.kindOf x = some .free) → ∃ c w, env.cells.lookup x = some c ∧ h.IsCell c w ∧ ∀ av, η[i]? = some av → (av = .unbound ∨ ∃ v, w = some v ∧ VRel X ρ Z h av v)
  own : ¬ Z env.locals ∧ env.locals ∉ ρ ∧ X.H₀.get? env.locals = none
  ownc : ∀ n c, (n, c) ∈ env.cells → ¬ Z c ∧ c ∉ ρ ∧ X.H₀.get? c = none ∧ c ≠ env.locals ∧ ∃ w, h.IsCell c w
  apart : env.cells.Pairwise fun x y => x.2 ≠ y.2

noncomputable def Own (env : Env) : Addr → Prop := fun a => a = env.locals ∨ ∃ n, (n, a) ∈ env.cells
noncomputable def own1 (vis : List (Str × Nat)) (n : Str) : Bool := (vis.filter fun p => p.1 == n).length == 1
noncomputable def Tur (vis : List (Str × Nat)) (env : Env) : Addr → Prop := fun a => a = env.locals ∨ ∃ n, (n, a) ∈ env.cells ∧ own1 vis n = true
theorem Tur.own {vis env a} (t : Tur vis env a) : Own env a := t.imp id fun h => h.imp fun _ h => h.1

theorem EnvRel.ext {X : Cx} {Z ρ s Z' ρ' s' env vis η} (x : EnvRel X Z ρ s.heap env vis η) (y : Ext T0 Z ρ s Z' ρ' s') : EnvRel X Z' ρ' s'.heap env vis η := by
  have hL : s.heap.get? env.locals ≠ none := by obtain ⟨m, hn, _⟩ := x.ns; exact ns_there hn
  refine ⟨x.kind, x.glob, x.bltn, ?_, ?_, ⟨?_, ?_, x.own.2.2⟩, ?_, x.apart⟩
  · obtain ⟨m, hn, hv⟩ := x.ns
    refine ⟨m, ns_keepO (fun o e => y.keep _ o e (fun t => t) x.own.2.1) hn, fun n i av h1 h2 h3 => ?_⟩
    exact (hv n i av h1 h2 h3).imp id fun h => h.imp fun v z => ⟨z.1, z.2.ext y⟩
  · intro n i h1 h2
    obtain ⟨c, w, hc, hw, hv⟩ := x.cel n i h1 h2
    have hm := mem_of_lookup hc
    exact ⟨c, w, hc, isCell_keepO (fun o e => y.keep _ o e (fun t => t) (x.ownc n c hm).2.1) hw, fun av e => (hv av e).imp id fun h => h.imp fun v z => ⟨z.1, z.2.ext y⟩⟩
  · intro f
    rcases y.fnew _ f with f | f | f
    · exact x.own.1 f
    · exact x.own.2.1 f
    · exact hL f
  · intro f
    rcases y.rnew _ f with f | f
    · exact x.own.2.1 f
    · exact hL f
  · intro n c hm
    obtain ⟨a1, a2, a3, a4, a5⟩ := x.ownc n c hm
    obtain ⟨w, hw⟩ := a5
    refine ⟨fun f => ?_, fun f => ?_, a3, a4, w, isCell_keepO (fun o e => y.keep _ o e (fun t => t) a2) hw⟩
    · rcases y.fnew _ f with f | f | f
      · exact a1 f
      · exact a2 f
      · exact isCell_there hw f
    · rcases y.rnew _ f with f | f
      · exact a2 f
      · exact isCell_there hw f

theorem Frames.ext {X : Cx} {T Z ρ s Z' ρ' s' fs} (x : Frames X Z ρ s.heap fs) (y : Ext T Z ρ s Z' ρ' s') (hT : ∀ env ∈ fs, ∀ L, env.frame = some L → T L → ∃ m, s'.heap.Ns L m) : Frames X Z' ρ' s'.heap fs := by
  refine ⟨fun env he => ?_⟩
  obtain ⟨hk, L, hL, h1, h2, h3, hfc, m, hn⟩ := x.each env he
  have hlt := ns_there hn
  refine ⟨hk, L, hL, fun f => ?_, fun f => ?_, h3, y.frm L hfc, ?_⟩
  · rcases y.fnew _ f with f | f | f
    · exact h1 f
    · exact h2 f
    · exact hlt f
  · rcases y.rnew _ f with f | f
    · exact h2 f
    · exact hlt f
  · by_cases ht : T L
    · exact hT env he L hL ht
    · exact ⟨m, ns_keepO (fun o e => y.keep _ o e ht h2) hn⟩

theorem Inv.tok {X : Cx} {Z ρ σ s} (i : Inv X Z ρ σ s) (tk : Nat) : Inv X Z ρ σ { s with toks := tk } := ⟨i.base, i.fr, i.len, i.nd, i.old, i.cells⟩

theorem CRel.mono {X : Cx} {ρ ρ' : List Addr} {Z Z' : Addr → Prop} {h h' : Heap} {c : ACell} {a : Addr} (r : CRel X ρ Z h c a) (k : Kept Z h h') (hf : ∀ a, Z a → Z' a) (hp : ρ <+: ρ')
    (ka : ∀ o, h.get? a = some o → h'.get? a = some o) (hn : ¬ Z a → ¬ Z' a) : CRel X ρ' Z' h' c a := by
  cases c with
  | dead => trivial
  | list l => obtain ⟨h1, vs, h2, h3⟩ := r; exact ⟨hn h1, vs, h2.at ka, h3.mono k hf hp⟩
  | dict l =>
    obtain ⟨h1, vs, ⟨o, es, ep, ho, h2⟩, h3⟩ := r
    exact ⟨hn h1, vs, ⟨o, es, ep, ka _ ho, h2⟩, h3.mono k hf hp⟩
  | dicti l =>
    obtain ⟨h1, vs, ⟨o, es, ep, ho, h2⟩, h3⟩ := r
    exact ⟨hn h1, vs, ⟨o, es, ep, ka _ ho, h2⟩, h3.mono k hf hp⟩

theorem Inv.grow {X : Cx} {Z ρ σ s} (i : Inv X Z ρ σ s) {h' : Heap} {tk : Nat} {P : Addr → Prop} (hk : ∀ b o, s.heap.get? b = some o → h'.get? b = some o)
    (hP : ∀ a, P a → s.heap.get? a = none ∧ h'.get? a ≠ none) : Inv X (fun a => Z a ∨ P a) ρ σ { s with heap := h', toks := tk } where
  base := fun b o e => hk _ _ (i.base b o e)
  fr := fun a f => by
    rcases f with f | f
    · obtain ⟨o, e⟩ := i.fr a f; exact ⟨o, hk _ _ e⟩
    · have := (hP a f).2
      cases q : h'.get? a with
      | none => exact absurd q this
      | some o => exact ⟨o, rfl⟩
  len := i.len
  nd := i.nd
  old := fun a m => by
    obtain ⟨⟨o, e⟩, r⟩ := i.old a m
    exact ⟨⟨o, hk _ _ e⟩, r⟩
  cells := fun n a c h1 h2 => by
    have ha := (i.old a (List.mem_of_getElem? h1)).1
    obtain ⟨o, e⟩ := ha
    exact (i.cells n a c h1 h2).mono (fun b o _ e => hk b o e) (fun _ f => .inl f) List.prefix_rfl (fun o e => hk a o e) fun nf f => by
      rcases f with f | f
      · exact nf f
      · have := (hP a f).1
        rw [e] at this; cases this
theorem Ext.grow {Z ρ s} {h' : Heap} {tk : Nat} {P : Addr → Prop} (hk : ∀ b o, s.heap.get? b = some o → h'.get? b = some o)
    (hP : ∀ a, P a → s.heap.get? a = none) : Ext T0 Z ρ s (fun a => Z a ∨ P a) ρ { s with heap := h', toks := tk } where
  keep := fun a o e _ _ => .inl (hk a o e)
  fkeep := fun a o _ e => hk a o e
  fmono := fun a f => .inl f
  fnew := fun a f => f.imp id fun f => .inr (hP a f)
  rho := List.prefix_rfl
  rnew := fun _ m => .inl m
  alive := fun a o e => ⟨o, hk a o e⟩
  frm := fun a f => f.kept (hk a)
  gens := rfl
  os := rfl
  drawn := rfl
theorem Ext.tok {T Z ρ s} (tk : Nat) : Ext T Z ρ s Z ρ { s with toks := tk } where
  keep := fun a o e _ _ => .inl e
  fkeep := fun a o _ e => e
  fmono := fun a f => f
  fnew := fun a f => .inl f
  rho := List.prefix_rfl
  rnew := fun _ m => .inl m
  alive := fun a o e => ⟨o, e⟩
  frm := fun _ f => f
  gens := rfl
  os := rfl
  drawn := rfl

noncomputable def Post (X : Cx) (Z : Addr → Prop) (ρ : List Addr) (s : Shared) (av : AV) (σ' : St) (Q : Value → Shared → Prop) : Prop :=
  ∀ Z' ρ' v s', Inv X Z' ρ' σ' s' → Ext T0 Z ρ s Z' ρ' s' → VRel X ρ' Z' s'.heap av v → Q v s'

theorem Post.tok {X : Cx} {Z ρ s av σ Q} (p : Post X Z ρ s av σ Q) (i : Inv X Z ρ σ s) {v : Value} (r : VRel X ρ Z s.heap av v) (tk : Nat) : Q v { s with toks := tk } :=
  p _ _ _ _ (i.tok tk) (Ext.tok tk) r
theorem Post.here {X : Cx} {Z ρ s av σ Q} (p : Post X Z ρ s av σ Q) (i : Inv X Z ρ σ s) {v : Value} (r : VRel X ρ Z s.heap av v) : Q v s :=
  p _ _ _ _ i (Ext.refl ..) r
theorem Post.grow {X : Cx} {Z ρ s av σ Q} (p : Post X Z ρ s av σ Q) (i : Inv X Z ρ σ s) {h' : Heap} {tk : Nat} {P : Addr → Prop} {v : Value} (hk : ∀ b o, s.heap.get? b = some o → h'.get? b = some o)
    (hP : ∀ a, P a → s.heap.get? a = none ∧ h'.get? a ≠ none) (r : VRel X ρ (fun a => Z a ∨ P a) h' av v) : Q v { s with heap := h', toks := tk } :=
  p _ _ _ _ (i.grow hk hP) (Ext.grow hk fun a f => (hP a f).1) r

theorem none_size (h : Heap) : h.get? h.objs.size = none := by
  cases q : h.get? h.objs.size with
  | none => rfl
  | some o => exact absurd (Heap.lt_size q) (Nat.lt_irrefl _)

theorem size_sys {X : Cx} {Z ρ σ s} (i : Inv X Z ρ σ s) : (s.heap.objs.size == sysModules) = false := by
  obtain ⟨b, o, e, h⟩ := X.lo
  have := Heap.lt_size (i.base b o e)
  rw [beq_eq_false_iff_ne]
  intro q
  have h' : sysModules < s.heap.objs.size := Nat.lt_trans h this
  rw [q] at h'
  exact absurd h' (Nat.lt_irrefl _)

theorem Post.push {X : Cx} {Z ρ s av σ Q} (p : Post X Z ρ s av σ Q) (i : Inv X Z ρ σ s) {o : Obj} {tk : Nat} (hf : o.isFreed = false)
    (r : VRel X ρ (fun a => Z a ∨ a = s.heap.objs.size) (s.heap.push o) av (.ref s.heap.objs.size)) : Q (.ref s.heap.objs.size) { s with heap := s.heap.push o, toks := tk } :=
  p.grow i (P := fun a => a = s.heap.objs.size) (fun _ _ e => Heap.get?_push_of_some _ e) (fun a e => by
    subst e
    exact ⟨none_size _, by rw [Heap.get?_push_size _ hf]; exact fun e => nomatch e⟩) r
theorem Post.trans {X : Cx} {Z ρ s av σ Q Z' ρ' s'} (p : Post X Z ρ s av σ Q) (y : Ext T0 Z ρ s Z' ρ' s') : Post X Z' ρ' s' av σ Q :=
  fun Z'' ρ'' v s'' i e r => p Z'' ρ'' v s'' i (y.trans e) r

structure VC (X : Cx) (k : Nat) (A : Around) (Z : Addr → Prop) (ρ : List Addr) (σ : St) (s : Shared) : Prop where
  hnd : A.handled = none
  dep : A.depth ≤ X.dep + k
  uni : A.units ≤ X.uni + 8 * k
  frs : ∃ fs, A.frames = some fs ∧ Frames X Z ρ s.heap fs
  inv : Inv X Z ρ σ s

theorem VC.next {X : Cx} {k A Z ρ σ s Z' ρ' σ' s'} (c : VC X k A Z ρ σ s) (i : Inv X Z' ρ' σ' s') (y : Ext T0 Z ρ s Z' ρ' s') : VC X k A Z' ρ' σ' s' :=
  ⟨c.hnd, c.dep, c.uni, c.frs.imp fun fs h => ⟨h.1, h.2.ext y fun _ _ _ _ t => t.elim⟩, i⟩

noncomputable def OpOk (X : Cx) (A : Around) (Z : Addr → Prop) (ρ : List Addr) (s : Shared) (t : Sem Value) (r : Option (AV × St)) : Prop :=
  ∀ av σ', r = some (av, σ') → ∀ Q E, Post X Z ρ s av σ' Q → wpAny (model X.prog X.w) A t Q E s

abbrev Eta := List AV
abbrev ME := Eta → St → Option (AV × St)

section
variable {α β γ : Type} {r : β} {P : Prop}
theorem oN (e : (none : Option β) = some r) : P := nomatch e
noncomputable def oB (x : Option (α × γ)) (f : α → γ → Option β) : Option β := match x with
  | some (a, s) => f a s
  | none => none
theorem oB_inv {x : Option (α × γ)} {f : α → γ → Option β} (e : oB x f = some r) (k : ∀ a s, x = some (a, s) → f a s = some r → P) : P := by
  cases x with
  | none => exact oN e
  | some p => exact k p.1 p.2 rfl e
noncomputable def o1 (x : Option α) (f : α → Option β) : Option β := match x with
  | some a => f a
  | none => none
theorem o1_inv {x : Option α} {f : α → Option β} (e : o1 x f = some r) (k : ∀ a, x = some a → f a = some r → P) : P := by
  cases x with
  | none => exact oN e
  | some p => exact k p rfl e
noncomputable def oT (x : Option (Bool × γ)) (f g : γ → Option β) : Option β := match x with
  | some (b, s) => match b with
    | true => f s
    | false => g s
  | none => none
theorem oT_inv {x : Option (Bool × γ)} {f g : γ → Option β} (e : oT x f g = some r) (k : ∀ s, x = some (true, s) → f s = some r → P) (k' : ∀ s, x = some (false, s) → g s = some r → P) : P := by
  cases x with
  | none => exact oN e
  | some p => obtain ⟨b, s⟩ := p; cases b with
    | true => exact k s rfl e
    | false => exact k' s rfl e
theorem ifN {c : Prop} [Decidable c] {x : Option β} (e : (if c then x else none) = some r) (k : c → x = some r → P) : P := by
  by_cases h : c
  · rw [if_pos h] at e; exact k h e
  · rw [if_neg h] at e; exact oN e
theorem ifB {c : Prop} [Decidable c] {x y : Option β} (e : (if c then x else y) = some r) (k : c → x = some r → P) (k' : ¬ c → y = some r → P) : P := by
  by_cases h : c
  · rw [if_pos h] at e; exact k h e
  · rw [if_neg h] at e; exact k' h e
theorem oE {a : β} (e : some a = some r) : a = r := Option.some.inj e
end
theorem Post.of {X : Cx} {Z ρ s Q} {a b : AV} {σ σ' : St} (p : Post X Z ρ s a σ Q) (e : some (b, σ') = some (a, σ)) : Post X Z ρ s b σ' Q := by
  have h := Option.some.inj e
  rw [show a = b from congrArg Prod.fst h.symm, show σ = σ' from congrArg Prod.snd h.symm] at p; exact p

noncomputable def sel {β : Type} (a : AV) (fn : Option β) (fb : Bool → Option β) (fi : Int → Option β) (fs : List Nat → Option β) (fy : List UInt8 → Option β) (fl ft : List AV → Option β) : Option β := match a with
  | .none => fn
  | .bool b => fb b
  | .int i => fi i
  | .str x => fs x
  | .bytes x => fy x
  | .list l => fl l
  | .tup l => ft l
  | _ => none
abbrev oNo {α β : Type} : α → Option β := fun _ => none
section
variable {X : Cx} {ρ : List Addr} {Z : Addr → Prop} {h : Heap} {β : Type} {r : β} {v : Value} {P : Value → Prop}
@[elab_as_elim] theorem sel_inv {a : AV} {fn : Option β} {fb : Bool → Option β} {fi : Int → Option β} {fs : List Nat → Option β} {fy : List UInt8 → Option β} {fl ft : List AV → Option β}
    (e : sel a fn fb fi fs fy fl ft = some r) (q : VRel X ρ Z h a v) (kn : fn = some r → P .none) (kb : ∀ b, fb b = some r → P (.bool b)) (ki : ∀ i t, fi i = some r → P (.int i t)) (ks : ∀ x t, fs x = some r → P (.str (toStr x) t))
    (ky : ∀ x t, fy x = some r → P (.bytes (List.toArray x) t)) (kl : ∀ l a vs, Z a → h.PlainList a (List.toArray vs) → VRels X ρ Z h l vs → fl l = some r → P (.ref a))
    (kt : ∀ l a vs, Z a → PlainTup h a (List.toArray vs) → VRels X ρ Z h l vs → ft l = some r → P (.ref a)) : P v := by
  cases a with
  | none => unfold VRel at q; rw [q]; exact kn e
  | bool b => unfold VRel at q; rw [q]; exact kb b e
  | int i => unfold VRel at q; obtain ⟨t, q⟩ := q; rw [q]; exact ki i t e
  | str x => unfold VRel at q; obtain ⟨t, q⟩ := q; rw [q]; exact ks x t e
  | bytes x => unfold VRel at q; obtain ⟨t, q⟩ := q; rw [q]; exact ky x t e
  | list l => unfold VRel at q; obtain ⟨a, vs, q, f, p, rl⟩ := q; rw [q]; exact kl l a vs f p rl e
  | tup l => unfold VRel at q; obtain ⟨a, vs, q, f, p, rl⟩ := q; rw [q]; exact kt l a vs f p rl e
  | _ => exact oN e
end
noncomputable def asI {β : Type} (a : AV) (f : Int → Option β) : Option β := match a with
  | .int i => f i
  | _ => none
noncomputable def asS {β : Type} (a : AV) (f : List Nat → Option β) : Option β := match a with
  | .str i => f i
  | _ => none
noncomputable def asB {β : Type} (a : AV) (f : Bool → Option β) : Option β := match a with
  | .bool i => f i
  | _ => none
noncomputable def asY {β : Type} (a : AV) (f : List UInt8 → Option β) : Option β := match a with
  | .bytes i => f i
  | _ => none
noncomputable def asL {β : Type} (a : AV) (f : List AV → Option β) : Option β := match a with
  | .list i => f i
  | _ => none
noncomputable def asT {β : Type} (a : AV) (f : List AV → Option β) : Option β := match a with
  | .tup i => f i
  | _ => none
section
variable {β : Type} {r : β} {P : AV → Prop} {a : AV}
@[elab_as_elim] theorem asI_is {f : Int → Option β} (e : asI a f = some r) (k : ∀ i, f i = some r → P (.int i)) : P a := by
  cases a with
  | int i => exact k i e
  | _ => exact oN e
@[elab_as_elim] theorem asS_is {f : List Nat → Option β} (e : asS a f = some r) (k : ∀ i, f i = some r → P (.str i)) : P a := by
  cases a with
  | str i => exact k i e
  | _ => exact oN e
@[elab_as_elim] theorem asB_is {f : Bool → Option β} (e : asB a f = some r) (k : ∀ i, f i = some r → P (.bool i)) : P a := by
  cases a with
  | bool i => exact k i e
  | _ => exact oN e
@[elab_as_elim] theorem asY_is {f : List UInt8 → Option β} (e : asY a f = some r) (k : ∀ i, f i = some r → P (.bytes i)) : P a := by
  cases a with
  | bytes i => exact k i e
  | _ => exact oN e
@[elab_as_elim] theorem asL_is {f : List AV → Option β} (e : asL a f = some r) (k : ∀ i, f i = some r → P (.list i)) : P a := by
  cases a with
  | list i => exact k i e
  | _ => exact oN e
@[elab_as_elim] theorem asT_is {f : List AV → Option β} (e : asT a f = some r) (k : ∀ i, f i = some r → P (.tup i)) : P a := by
  cases a with
  | tup i => exact k i e
  | _ => exact oN e
end
section
variable {X : Cx} {ρ : List Addr} {Z : Addr → Prop} {h : Heap} {β : Type} {r : β} {v : Value} {P : Value → Prop} {a : AV}
@[elab_as_elim] theorem asI_inv {f : Int → Option β} (e : asI a f = some r) (q : VRel X ρ Z h a v) (k : ∀ i t, f i = some r → P (.int i t)) : P v := by
  refine asI_is (P := fun a => VRel X ρ Z h a v → P v) e (fun i e q => ?_) q
  unfold VRel at q; obtain ⟨t, q⟩ := q; rw [q]; exact k i t e
@[elab_as_elim] theorem asS_inv {f : List Nat → Option β} (e : asS a f = some r) (q : VRel X ρ Z h a v) (k : ∀ i t, f i = some r → P (.str (toStr i) t)) : P v := by
  refine asS_is (P := fun a => VRel X ρ Z h a v → P v) e (fun i e q => ?_) q
  unfold VRel at q; obtain ⟨t, q⟩ := q; rw [q]; exact k i t e
@[elab_as_elim] theorem asB_inv {f : Bool → Option β} (e : asB a f = some r) (q : VRel X ρ Z h a v) (k : ∀ i, f i = some r → P (.bool i)) : P v := by
  refine asB_is (P := fun a => VRel X ρ Z h a v → P v) e (fun i e q => ?_) q
  unfold VRel at q; rw [q]; exact k i e
@[elab_as_elim] theorem asY_inv {f : List UInt8 → Option β} (e : asY a f = some r) (q : VRel X ρ Z h a v) (k : ∀ i t, f i = some r → P (.bytes (List.toArray i) t)) : P v := by
  refine asY_is (P := fun a => VRel X ρ Z h a v → P v) e (fun i e q => ?_) q
  unfold VRel at q; obtain ⟨t, q⟩ := q; rw [q]; exact k i t e
@[elab_as_elim] theorem asL_inv {f : List AV → Option β} (e : asL a f = some r) (q : VRel X ρ Z h a v) (k : ∀ l a vs, Z a → h.PlainList a (List.toArray vs) → VRels X ρ Z h l vs → f l = some r → P (.ref a)) : P v := by
  refine asL_is (P := fun a => VRel X ρ Z h a v → P v) e (fun i e q => ?_) q
  unfold VRel at q; obtain ⟨a, vs, q, f, p, rl⟩ := q; rw [q]; exact k i a vs f p rl e
@[elab_as_elim] theorem asT_inv {f : List AV → Option β} (e : asT a f = some r) (q : VRel X ρ Z h a v) (k : ∀ l a vs, Z a → PlainTup h a (List.toArray vs) → VRels X ρ Z h l vs → f l = some r → P (.ref a)) : P v := by
  refine asT_is (P := fun a => VRel X ρ Z h a v → P v) e (fun i e q => ?_) q
  unfold VRel at q; obtain ⟨a, vs, q, f, p, rl⟩ := q; rw [q]; exact k i a vs f p rl e
end

end Mine
end
section
open PySem PySem.W PyProof.Rows
set_option maxRecDepth 100000
set_option linter.unusedVariables false
namespace Mine

noncomputable def okI (x : Int) : Bool := decide (x.natAbs.log2 < 8000)
theorem okI_small {x : Int} (h : x.natAbs < 2 ^ 64) : okI x = true := decide_eq_true (by
  rcases Nat.eq_zero_or_pos x.natAbs with e | e
  · rw [e]; decide +kernel
  · exact Nat.lt_of_lt_of_le ((Nat.log2_lt (by (first | lia | omega))).mpr h) (by decide))
theorem okI_log {x : Int} (h : okI x = true) : x.natAbs.log2 < 9000 := by
  have h := of_decide_eq_true h
  (first | lia | omega)
theorem okI_bits {x : Int} (h : okI x = true) : Builtin.Int.intBits x ≤ 9000 := by
  have := okI_log h
  unfold Builtin.Int.intBits
  split
  · (first | lia | omega)
  · (first | lia | omega)
noncomputable def okS (n : Nat) : Bool := decide (n ≤ 16777216)
theorem okS_le {n : Nat} (h : okS n = true) : n ≤ sizeLine := by rw [sizeLine_eq]; exact of_decide_eq_true h
theorem okS_le' {n : Nat} (h : okS n = true) : n ≤ 16777216 := of_decide_eq_true h

noncomputable def vint (i : Int) (σ : St) : Option (AV × St) := some (.int i, σ)
noncomputable def vstr (s : List Nat) (σ : St) : Option (AV × St) := if okS s.length then some (.str s, σ) else none
noncomputable def vlist (l : List AV) (σ : St) : Option (AV × St) := if okS l.length then some (.list l, σ) else none
noncomputable def vtup (l : List AV) (σ : St) : Option (AV × St) := if okS l.length then some (.tup l, σ) else none

noncomputable def cellL : ACell → Option (List AV)
  | .list l => some l
  | _ => none
noncomputable def cellD : ACell → Option (List (List Nat × AV))
  | .dict l => some l
  | _ => none
noncomputable def cellI : ACell → Option (List (Int × AV))
  | .dicti l => some l
  | _ => none
noncomputable def viewL (σ : St) : AV → Option (List AV)
  | .list l => some l
  | .cell n => o1 σ[n]? cellL
  | _ => none
noncomputable def viewD (σ : St) : AV → Option (List (List Nat × AV))
  | .dict l => some l
  | .cell n => o1 σ[n]? cellD
  | _ => none
noncomputable def viewI (σ : St) : AV → Option (List (Int × AV))
  | .dicti l => some l
  | .cell n => o1 σ[n]? cellI
  | _ => none

section
variable {X : Cx} {k : Nat} {A : Around} {Z : Addr → Prop} {ρ : List Addr} {σ : St} {s : Shared} {Q : Value → Shared → Prop} {E : Value → Shared → Prop}

theorem cellL_is {c : ACell} {l : List AV} (e : cellL c = some l) : c = .list l := by
  cases c with
  | list l' => rw [oE e]
  | _ => exact oN e
theorem cellD_is {c : ACell} {l : List (List Nat × AV)} (e : cellD c = some l) : c = .dict l := by
  cases c with
  | dict l' => rw [oE e]
  | _ => exact oN e
theorem cellI_is {c : ACell} {l : List (Int × AV)} (e : cellI c = some l) : c = .dicti l := by
  cases c with
  | dicti l' => rw [oE e]
  | _ => exact oN e
theorem view_list (i : Inv X Z ρ σ s) {av : AV} {v : Value} {l : List AV} (r : VRel X ρ Z s.heap av v) (e : viewL σ av = some l) :
    ∃ a vs, v = .ref a ∧ s.heap.PlainList a (List.toArray vs) ∧ VRels X ρ Z s.heap l vs := by
  cases av with
  | list l' =>
    have := oE e; subst this
    unfold VRel at r; obtain ⟨a, vs, h1, h2, h3, h4⟩ := r; exact ⟨a, vs, h1, h3, h4⟩
  | cell n =>
    refine o1_inv e fun c hc e => ?_
    unfold VRel at r
    obtain ⟨a, ha, q⟩ := r
    obtain ⟨_, vs, h1, h2⟩ := i.cells n a _ ha (hc.trans (congrArg some (cellL_is e)))
    exact ⟨a, vs, q, h1, h2⟩
  | _ => exact oN e
theorem view_dict (i : Inv X Z ρ σ s) {av : AV} {v : Value} {l : List (List Nat × AV)} (r : VRel X ρ Z s.heap av v) (e : viewD σ av = some l) :
    ∃ a vs, v = .ref a ∧ (a == sysModules) = false ∧ s.heap.DictOf (strKind X.prog X.w) a vs ∧ VRelD X ρ Z s.heap l vs := by
  cases av with
  | dict l' =>
    have := oE e; subst this
    unfold VRel at r; obtain ⟨a, vs, h1, h2, h3, h4⟩ := r; exact ⟨a, vs, h1, h3, h4⟩
  | cell n =>
    refine o1_inv e fun c hc e => ?_
    unfold VRel at r
    obtain ⟨a, ha, q⟩ := r
    obtain ⟨_, vs, h1, h2⟩ := i.cells n a _ ha (hc.trans (congrArg some (cellD_is e)))
    exact ⟨a, vs, q, (i.old a (List.mem_of_getElem? ha)).2.2, h1, h2⟩
  | _ => exact oN e
theorem view_dicti (i : Inv X Z ρ σ s) {av : AV} {v : Value} {l : List (Int × AV)} (r : VRel X ρ Z s.heap av v) (e : viewI σ av = some l) :
    ∃ a vs, v = .ref a ∧ (a == sysModules) = false ∧ s.heap.DictOf (intKind X.prog X.w) a vs ∧ VRelI X ρ Z s.heap l vs := by
  cases av with
  | dicti l' =>
    have := oE e; subst this
    unfold VRel at r; obtain ⟨a, vs, h1, h2, h3, h4⟩ := r; exact ⟨a, vs, h1, h3, h4⟩
  | cell n =>
    refine o1_inv e fun c hc e => ?_
    unfold VRel at r
    obtain ⟨a, ha, q⟩ := r
    obtain ⟨_, vs, h1, h2⟩ := i.cells n a _ ha (hc.trans (congrArg some (cellI_is e)))
    exact ⟨a, vs, q, (i.old a (List.mem_of_getElem? ha)).2.2, h1, h2⟩
  | _ => exact oN e

theorem vrel_int {h : Heap} (i : Int) (t : Tok) : VRel X ρ Z h (.int i) (.int i t) := by unfold VRel; exact ⟨t, rfl⟩
theorem vrel_str {h : Heap} (x : List Nat) (t : Tok) : VRel X ρ Z h (.str x) (.str (toStr x) t) := by unfold VRel; exact ⟨t, rfl⟩
theorem vrel_str' {h : Heap} {y : Str} {x : List Nat} (e : y = toStr x) (t : Tok) : VRel X ρ Z h (.str x) (.str y t) := by unfold VRel; exact ⟨t, by rw [e]⟩
theorem vrel_bool {h : Heap} (b : Bool) : VRel X ρ Z h (.bool b) (.bool b) := by unfold VRel; rfl
theorem vrel_none {h : Heap} : VRel X ρ Z h .none .none := by unfold VRel; rfl
theorem vrel_list {h : Heap} {a : Addr} {l : List AV} {vs : List Value} (f : Z a) (p : h.PlainList a (List.toArray vs)) (r : VRels X ρ Z h l vs) : VRel X ρ Z h (.list l) (.ref a) := by
  unfold VRel; exact ⟨a, vs, rfl, f, p, r⟩
theorem vrel_tup {h : Heap} {a : Addr} {l : List AV} {vs : List Value} (f : Z a) (p : PlainTup h a (List.toArray vs)) (r : VRels X ρ Z h l vs) : VRel X ρ Z h (.tup l) (.ref a) := by
  unfold VRel; exact ⟨a, vs, rfl, f, p, r⟩

theorem Post.newList {l : List AV} {vs : List Value} (p : Post X Z ρ s (.list l) σ Q) (i : Inv X Z ρ σ s) (r : VRels X ρ Z s.heap l vs) {tk : Nat} :
    Q (.ref s.heap.objs.size) { s with heap := s.heap.push { cls := .type "list", data := .seq vs.toArray }, toks := tk } :=
  p.push i rfl (vrel_list (.inr rfl) ⟨_, Heap.get?_push_size _ rfl⟩ (r.mono (fun _ _ _ e => Heap.get?_push_of_some _ e) (fun _ f => .inl f) List.prefix_rfl))
theorem Post.newTup {l : List AV} {vs : List Value} (p : Post X Z ρ s (.tup l) σ Q) (i : Inv X Z ρ σ s) (r : VRels X ρ Z s.heap l vs) {tk : Nat} :
    Q (.ref s.heap.objs.size) { s with heap := s.heap.push { cls := .type "tuple", data := .seq vs.toArray }, toks := tk } :=
  p.push i rfl (vrel_tup (.inr rfl) ⟨_, Heap.get?_push_size _ rfl⟩ (r.mono (fun _ _ _ e => Heap.get?_push_of_some _ e) (fun _ f => .inl f) List.prefix_rfl))

theorem toStr_append (x y : List Nat) : toStr x ++ toStr y = toStr (x ++ y) := by
  show Str.mk (x.toArray ++ y.toArray) = Str.mk (x ++ y).toArray
  simp
theorem toStr_length (x : List Nat) : (toStr x).length = x.length := by simp [toStr, Str.length]

noncomputable def opAdd (a b : AV) (σ : St) : Option (AV × St) := sel a none oNo (fun x => asI b fun y => vint (x + y) σ) (fun x => asS b fun y => vstr (x ++ y) σ) oNo (fun x => asL b fun y => vlist (x ++ y) σ) oNo
noncomputable def opSub (a b : AV) (σ : St) : Option (AV × St) := asI a fun x => asI b fun y => vint (x - y) σ
noncomputable def opMul (a b : AV) (σ : St) : Option (AV × St) := asI b fun y =>
  sel a none oNo (fun x => if okI x && okI y then vint (x * y) σ else none) (fun x => if okI y && decide (y < 1048576) && decide (-1048576 < y) then vstr (List.replicate y.toNat x).flatten σ else none) oNo
    (fun x => if okI y && decide (y < 1048576) && decide (-1048576 < y) then vlist (List.replicate y.toNat x).flatten σ else none) oNo
noncomputable def opDiv (a b : AV) (σ : St) : Option (AV × St) := asI a fun x => asI b fun y => if ¬ y = 0 then if okI y then vint (x.fdiv y) σ else none else none
noncomputable def opMod (a b : AV) (σ : St) : Option (AV × St) := asI a fun x => asI b fun y => if ¬ y = 0 then vint (x.fmod y) σ else none
noncomputable def opPow (a b : AV) (σ : St) : Option (AV × St) := asI a fun x => asI b fun y => if decide (0 ≤ y) && decide (y ≤ 1000000) && decide (x.natAbs < 2 ^ 64) then vint (x ^ y.toNat) σ else none

theorem opAdd_ok (c : VC X k A Z ρ σ s) {a b : AV} {va vb : Value} (ra : VRel X ρ Z s.heap a va) (rb : VRel X ρ Z s.heap b vb) : OpOk X A Z ρ s (binaryOp .Add va vb) (opAdd a b σ) := by
  intro av σ' e Q E p
  refine sel_inv e ra oN (fun _ => oN) (fun x t e => ?_) (fun x t e => ?_) (fun _ _ => oN) (fun x a vs fa pa ra e => ?_) (fun _ _ _ _ _ _ => oN)
  · refine asI_inv e rb fun y u e => ?_
    exact PyProof.Rows.add_int ((p.of e).tok c.inv (vrel_int ..) _)
  · refine asS_inv e rb fun y u e => ?_
    refine ifN e fun h e => ?_
    refine PyProof.Rows.add_str (fun t' tk => (p.of e).tok c.inv (vrel_str' (toStr_append ..) _) _) ?_
    have := okS_le h
    rw [List.length_append] at this
    rw [toStr_length, toStr_length]; exact this
  · refine asL_inv e rb fun y b us fb pb rb e => ?_
    refine ifN e fun h e => ?_
    obtain ⟨n, pa⟩ := pa
    obtain ⟨m, pb⟩ := pb
    have := okS_le h
    rw [List.length_append, ra.length, rb.length] at this
    refine PySem.P.add_list (n := n) (n2 := m) (items := vs.toArray) (items2 := us.toArray) pa pb ?_ (by simpa using this)
    have z := (p.of e).newList c.inv (ra.append rb) (tk := s.toks)
    simpa using z

theorem foldl_app_toList {α : Type} (n : Nat) (xs : List α) : ∀ (acc : Array α), (List.foldl (fun x1 x2 => x1 ++ x2) acc (List.replicate n xs.toArray)) = (acc.toList ++ (List.replicate n xs).flatten).toArray := by
  induction n with
  | zero => intro acc; simp
  | succ n ih =>
    intro acc
    rw [List.replicate_succ, List.foldl_cons, ih, List.replicate_succ, List.flatten_cons]
    simp
theorem VRels.rep {h : Heap} {l : List AV} {vs : List Value} (r : VRels X ρ Z h l vs) (n : Nat) : VRels X ρ Z h (List.replicate n l).flatten (List.replicate n vs).flatten := by
  induction n with
  | zero => simp; exact VRels.nil_iff.mpr rfl
  | succ n ih => rw [List.replicate_succ, List.replicate_succ, List.flatten_cons, List.flatten_cons]; exact r.append ih
theorem flatten_rep_length {α : Type} (n : Nat) (l : List α) : (List.replicate n l).flatten.length = l.length * n := by
  induction n with
  | zero => simp
  | succ n ih => rw [List.replicate_succ, List.flatten_cons, List.length_append, ih, Nat.mul_succ, Nat.add_comm]

theorem opSub_ok (c : VC X k A Z ρ σ s) {a b : AV} {va vb : Value} (ra : VRel X ρ Z s.heap a va) (rb : VRel X ρ Z s.heap b vb) : OpOk X A Z ρ s (binaryOp .Sub va vb) (opSub a b σ) := by
  intro av σ' e Q E p
  refine asI_inv e ra fun x t e => ?_
  refine asI_inv e rb fun y u e => ?_
  exact PyProof.Rows.sub_int ((p.of e).tok c.inv (vrel_int ..) _)

theorem rep_long {x : List Nat} {y : Int} (h1 : y < 1048576) (hl : x.length * y.toNat ≤ 16777216) : (0 : Int) < y → (x.length : Int) ≤ (2 ^ 63 - 1) / y := by
  intro hy
  have : (x.length : Int) * y ≤ 16777216 := by
    have e1 : ((x.length * y.toNat : Nat) : Int) = (x.length : Int) * y := by rw [Int.natCast_mul, Int.toNat_of_nonneg (by (first | lia | omega))]
    rw [← e1]; (first | lia | omega)
  rw [Int.le_ediv_iff_mul_le hy]; (first | lia | omega)
theorem mul_str_ok (c : VC X k A Z ρ σ s) {x : List Nat} {y : Int} {t u : Tok} (h1 : y < 1048576) (h2 : -1048576 < y) (hl : x.length * y.toNat ≤ 16777216) (p : Post X Z ρ s (.str (List.replicate y.toNat x).flatten) σ Q) :
    wpAny (model X.prog X.w) A (binaryOp .Mult (.str (toStr x) t) (.int y u)) Q E s := by
  refine PySem.P.mul_str (by simp; (first | lia | omega)) (fun h1 h2 => ?_) (fun h1 h2 => ?_) ?_
  · rw [toStr_length]
    have := rep_long (by (first | lia | omega)) hl (y := y) (by (first | lia | omega))
    (first | lia | omega)
  · rw [toStr_length]
    unfold Builtin.Str.tooLong
    rw [sizeLine_eq]
    exact decide_eq_false (by (first | lia | omega))
  · split
    · rename_i h1
      have : y.toNat = 0 := by (first | lia | omega)
      rw [this] at p
      exact p.tok c.inv (vrel_str' (by simp [toStr, Str.empty]) _) _ |> fun z => ⟨by simp [Str.empty, Str.length], z⟩
    · split
      · rename_i h1 h2
        have hx : (List.replicate y.toNat x).flatten = x := by
          rcases Bool.or_eq_true_iff.mp h2 with q | q
          · have : y = 1 := by simpa using q
            subst this; simp
          · rw [toStr_length] at q
            have : x = [] := by simpa using q
            subst this
            exact List.eq_nil_of_length_eq_zero (by rw [flatten_rep_length]; simp)
        rw [hx] at p
        exact p.here c.inv (vrel_str ..)
      · refine ⟨?_, p.tok c.inv (vrel_str' ?_ _) _⟩
        · show (Array.size _) ≤ sizeLine
          rw [show (toStr x).cps = x.toArray from rfl, foldl_app_toList, sizeLine_eq]
          simp only [List.nil_append, List.size_toArray, flatten_rep_length]
          exact hl
        · rw [show (toStr x).cps = x.toArray from rfl, foldl_app_toList]; rfl
theorem mul_list_ok (c : VC X k A Z ρ σ s) {x : List AV} {vs : List Value} {a : Addr} {y : Int} {u : Tok} (h1 : y < 1048576) (h2 : -1048576 < y) (hl : vs.length * y.toNat ≤ 16777216) (pa : s.heap.PlainList a (List.toArray vs)) (ra : VRels X ρ Z s.heap x vs) (p : Post X Z ρ s (.list (List.replicate y.toNat x).flatten) σ Q) :
    wpAny (model X.prog X.w) A (binaryOp .Mult (.ref a) (.int y u)) Q E s := by
  obtain ⟨n, pa⟩ := pa
  refine wpAny_binaryOp_repeat_ref (T := "list") (U := "int") (by decide) ⟨_, pa, rfl⟩ (fun s' => typeIs_int s' y u) noFill_list_mul F.fills_int_mul F.slot_int_rmul repeat_list F.slot_int_index.lookup
    (call_meets F.slot_int_rmul (typeIs_int s y u) F.entry_int_rmul (F.args_int_rmul_2 _ _) (int___rmul___int_list y u a vs.toArray n)
      ⟨pa, rfl, ⟨_, pa, rfl⟩, call_meets F.slot_list_mul ⟨_, pa, rfl⟩ F.entry_list_mul (F.args_list_mul_2 _ _)
        (AutoListH.list___mul___list_int_3 a vs.toArray n y u (by simp [Builtin.List.listFitsIndex]; (first | lia | omega)) (by simp; (first | lia | omega)) (by simp [Builtin.List.listTooLong, sizeLine]; (first | lia | omega)))
        ⟨pa, ?_⟩⟩)
  have hv : (List.foldl (fun x1 x2 => x1 ++ x2) #[] (List.replicate (if vs.toArray.isEmpty = true then 0 else y.toNat) vs.toArray)) = (List.replicate y.toNat vs).flatten.toArray := by
    split
    · rename_i h1
      have : vs = [] := by simpa using h1
      subst this
      rw [List.eq_nil_of_length_eq_zero (l := (List.replicate y.toNat ([] : List Value)).flatten) (by rw [flatten_rep_length]; simp)]
      rfl
    · rw [foldl_app_toList]; simp
  rw [hv]
  exact p.newList c.inv (ra.rep y.toNat)
theorem opMul_ok (c : VC X k A Z ρ σ s) {a b : AV} {va vb : Value} (ra : VRel X ρ Z s.heap a va) (rb : VRel X ρ Z s.heap b vb) : OpOk X A Z ρ s (binaryOp .Mult va vb) (opMul a b σ) := by
  intro av σ' e Q E p
  refine asI_inv e rb fun y u e => ?_
  refine sel_inv e ra oN (fun _ => oN) (fun x t e => ?_) (fun x t e => ?_) (fun _ _ => oN) (fun x a vs fa pa ra e => ?_) (fun _ _ _ _ _ _ => oN)
  · refine ifN e fun h e => ?_
    rw [Bool.and_eq_true] at h
    exact PyProof.Rows.mul_int ((p.of e).tok c.inv (vrel_int ..) _) (IntMulOk.of_le (okI_bits h.1) (okI_bits h.2) (by decide))
  · refine ifN e fun h e => ?_
    refine ifN e fun hs e => ?_
    have h := Bool.and_eq_true_iff.mp h
    have hl := okS_le' hs
    rw [flatten_rep_length] at hl
    exact mul_str_ok c (of_decide_eq_true (Bool.and_eq_true_iff.mp h.1).2) (of_decide_eq_true h.2) hl (p.of e)
  · refine ifN e fun h e => ?_
    refine ifN e fun hs e => ?_
    have h := Bool.and_eq_true_iff.mp h
    have hl := okS_le' hs
    rw [flatten_rep_length, ra.length] at hl
    exact mul_list_ok c (of_decide_eq_true (Bool.and_eq_true_iff.mp h.1).2) (of_decide_eq_true h.2) hl pa ra (p.of e)

theorem opDiv_ok (c : VC X k A Z ρ σ s) {a b : AV} {va vb : Value} (ra : VRel X ρ Z s.heap a va) (rb : VRel X ρ Z s.heap b vb) : OpOk X A Z ρ s (binaryOp .FloorDiv va vb) (opDiv a b σ) := by
  intro av σ' e Q E p
  refine asI_inv e ra fun x t e => ?_
  refine asI_inv e rb fun y u e => ?_
  refine ifN e fun hy e => ?_
  refine ifN e fun h e => ?_
  exact PyProof.Rows.floordiv_int hy ((p.of e).tok c.inv (vrel_int ..) _) (.inl (PyProof.noPylong_of_log2 (okI_log h)))
theorem opMod_ok (c : VC X k A Z ρ σ s) {a b : AV} {va vb : Value} (ra : VRel X ρ Z s.heap a va) (rb : VRel X ρ Z s.heap b vb) : OpOk X A Z ρ s (binaryOp .Mod va vb) (opMod a b σ) := by
  intro av σ' e Q E p
  refine asI_inv e ra fun x t e => ?_
  refine asI_inv e rb fun y u e => ?_
  refine ifN e fun hy e => ?_
  exact PyProof.Rows.mod_int' hy ((p.of e).tok c.inv (vrel_int ..) _)
theorem opPow_ok (c : VC X k A Z ρ σ s) {a b : AV} {va vb : Value} (ra : VRel X ρ Z s.heap a va) (rb : VRel X ρ Z s.heap b vb) : OpOk X A Z ρ s (binaryOp .Pow va vb) (opPow a b σ) := by
  intro av σ' e Q E p
  refine asI_inv e ra fun x t e => ?_
  refine asI_inv e rb fun y u e => ?_
  refine ifN e fun h e => ?_
  have h := Bool.and_eq_true_iff.mp h
  have h1 := Bool.and_eq_true_iff.mp h.1
  exact PyProof.Rows.pow_int_small (of_decide_eq_true h1.1) (of_decide_eq_true h1.2) (of_decide_eq_true h.2) ((p.of e).tok c.inv (vrel_int ..) _)
end
end Mine
end
section
open PySem PySem.W PyProof.Rows
set_option maxRecDepth 100000
set_option linter.unusedVariables false
namespace Mine

noncomputable def allEq (f : AV → AV → Option Bool) : List AV → List AV → Option Bool
  | [], _ => some true
  | x :: xs, ys => match ys with
    | [] => some true
    | y :: ys => o1 (f x y) fun a => o1 (allEq f xs ys) fun b => some (a && b)
noncomputable def lookD {α : Type} (k : List Nat) : List (List Nat × α) → Option α
  | [] => none
  | (j, x) :: r => if j = k then some x else lookD k r
noncomputable def lookI {α : Type} (k : Int) : List (Int × α) → Option α
  | [] => none
  | (j, x) :: r => if j = k then some x else lookI k r
noncomputable def dictEq (f : AV → AV → Option Bool) (ys : List (List Nat × AV)) : List (List Nat × AV) → Option Bool
  | [] => some true
  | (k, x) :: r => match lookD k ys with
    | none => some false
    | some y => o1 (f x y) fun a => o1 (dictEq f ys r) fun b => some (a && b)
noncomputable def eqV : Nat → AV → AV → Option Bool
  | 0, _, _ => none
  | n + 1, a, b => sel a none (fun x => asB b fun y => some (x == y)) (fun x => asI b fun y => some (x == y)) (fun x => asS b fun y => some (x == y)) (fun x => asY b fun y => some (x == y))
    (fun xs => asL b fun ys => if xs.length = ys.length then allEq (eqV n) xs ys else some false)
    (fun xs => asT b fun ys => o1 (allEq (eqV n) xs ys) fun r => some (r && xs.length == ys.length))

section
variable {X : Cx} {ρ : List Addr} {Z : Addr → Prop} {h : Heap}

theorem toStr_inj {x y : List Nat} (e : toStr x = toStr y) : x = y := by
  unfold toStr at e
  injection e with e
  simpa using congrArg Array.toList e

theorem tob_inj {x y : List UInt8} {t u : Tok} (e : Value.bytes x.toArray t = .bytes y.toArray u) : x = y := by
  injection e with e
  exact congrArg Array.toList e
theorem ts_inj {x y : List Nat} {t u : Tok} (e : Value.str (toStr x) t = .str (toStr y) u) : x = y := by
  injection e with e
  exact toStr_inj e
theorem lists_one {a : Addr} {vs vs' : List Value} : h.PlainList a vs.toArray → h.PlainList a vs'.toArray → vs = vs' := by
  rintro ⟨k1, p1⟩ ⟨k2, p2⟩
  rw [p1] at p2
  have := congrArg Obj.data (Option.some.inj p2)
  injection this with this _
  exact congrArg Array.toList this
theorem tups_one {a : Addr} {vs vs' : List Value} : PlainTup h a vs.toArray → PlainTup h a vs'.toArray → vs = vs' := by
  rintro ⟨k1, p1⟩ ⟨k2, p2⟩
  rw [p1] at p2
  have := congrArg Obj.data (Option.some.inj p2)
  injection this with this _
  exact congrArg Array.toList this
theorem listRef {l : List AV} {a : Addr} {vs : List Value} (p : h.PlainList a vs.toArray) (r : VRel X ρ Z h (.list l) (.ref a)) : VRels X ρ Z h l vs := by
  unfold VRel at r
  obtain ⟨a', vs', e, _, p', q⟩ := r
  cases e
  rw [lists_one p p']; exact q
theorem tupRef {l : List AV} {a : Addr} {vs : List Value} (p : PlainTup h a vs.toArray) (r : VRel X ρ Z h (.tup l) (.ref a)) : VRels X ρ Z h l vs := by
  unfold VRel at r
  obtain ⟨a', vs', e, _, p', q⟩ := r
  cases e
  rw [tups_one p p']; exact q
theorem allEq_same {f : AV → AV → Option Bool} (ih : ∀ {a b : AV} {v : Value} {r : Bool}, VRel X ρ Z h a v → VRel X ρ Z h b v → f a b = some r → r = true) :
    ∀ (xs ys : List AV) (vs : List Value) (r : Bool), VRels X ρ Z h xs vs → VRels X ρ Z h ys vs → allEq f xs ys = some r → r = true := by
  intro xs
  induction xs with
  | nil => intro ys vs r _ _ e; exact (oE e).symm
  | cons x xs hi =>
    intro ys vs r r1 r2 e
    cases ys with
    | nil => exact (oE e).symm
    | cons y ys =>
      refine o1_inv e fun a ha e => o1_inv e fun b hb e => ?_
      obtain ⟨v, t, q, p1, q1⟩ := VRels.cons_iff.mp r1
      rw [q] at r2
      obtain ⟨v', t', e', p2, q2⟩ := VRels.cons_iff.mp r2
      injection e' with e1 e2
      rw [← e1] at p2; rw [← e2] at q2
      rw [← oE e, ih p1 p2 ha, hi _ _ _ q1 q2 hb]; rfl
theorem eqV_same : ∀ (n : Nat) {a b : AV} {v : Value} {r : Bool}, VRel X ρ Z h a v → VRel X ρ Z h b v → eqV n a b = some r → r = true := by
  intro n
  induction n with
  | zero => intro a b v r _ _ e; exact oN e
  | succ n ih =>
    intro a b v r ra rb e
    refine sel_inv (P := fun v => VRel X ρ Z h b v → r = true) e ra oN (fun x e rb => ?_) (fun x t e rb => ?_) (fun x t e rb => ?_) (fun x t e rb => ?_) (fun l a vs _ p q e rb => ?_) (fun l a vs _ p q e rb => ?_) rb
    · refine asB_inv (P := fun v => v = .bool x → r = true) e rb (fun y e q => ?_) rfl
      cases q; rw [← oE e]; exact beq_self_eq_true _
    · refine asI_inv (P := fun v => v = .int x t → r = true) e rb (fun y u e q => ?_) rfl
      cases q; rw [← oE e]; exact beq_self_eq_true _
    · refine asS_inv (P := fun v => v = .str (toStr x) t → r = true) e rb (fun y u e q => ?_) rfl
      rw [← oE e, ts_inj q]; exact beq_self_eq_true _
    · refine asY_inv (P := fun v => v = .bytes x.toArray t → r = true) e rb (fun y u e q => ?_) rfl
      rw [← oE e, tob_inj q]; exact beq_self_eq_true _
    · refine asL_is (P := fun b => VRel X ρ Z h b (.ref a) → r = true) e (fun ys e rb => ?_) rb
      have q2 := listRef p rb
      rw [if_pos (q.length.trans q2.length.symm)] at e
      exact allEq_same ih _ _ _ _ q q2 e
    · refine asT_is (P := fun b => VRel X ρ Z h b (.ref a) → r = true) e (fun ys e rb => ?_) rb
      have q2 := tupRef p rb
      refine o1_inv e fun r' h' e => ?_
      rw [← oE e, allEq_same ih _ _ _ _ q q2 h', q.length, q2.length]; exact beq_self_eq_true _
end

section
open SeqAt
variable {X : Cx} {ρ : List Addr} {Z : Addr → Prop} {s : Shared} {A : Around}

theorem PlainTup.isTuple {h : Heap} {a : Addr} {items : Array Value} (x : PlainTup h a items) : h.IsTuple a items := x.elim fun n e => ⟨_, e, rfl, n, rfl⟩

theorem allEq_at (n : Nat) (A : Around) (s : Shared) (ih : ∀ {a b : AV} {va vb : Value} {r : Bool}, VRel X ρ Z s.heap a va → VRel X ρ Z s.heap b vb → eqV n a b = some r → EqAt A s va vb r) :
    ∀ (xs ys : List AV) (vs us : List Value) (r : Bool), VRels X ρ Z s.heap xs vs → VRels X ρ Z s.heap ys us → allEq (eqV n) xs ys = some r →
      ∃ e : Nat → Bool, (∀ j (h1 : j < vs.length) (h2 : j < us.length), EqAt A s vs[j] us[j] (e j)) ∧ (List.range (min vs.length us.length)).all e = r := by
  intro xs
  induction xs with
  | nil =>
    intro ys vs us r r1 r2 e
    rw [VRels.nil_iff.mp r1, ← oE e]
    exact ⟨fun _ => true, fun j h1 => absurd h1 (Nat.not_lt_zero _), by simp⟩
  | cons x xs hi =>
    intro ys vs us r r1 r2 e
    obtain ⟨v, t, q, p1, q1⟩ := VRels.cons_iff.mp r1
    cases ys with
    | nil =>
      rw [VRels.nil_iff.mp r2, ← oE e]
      exact ⟨fun _ => true, fun j h1 h2 => absurd h2 (Nat.not_lt_zero _), by simp⟩
    | cons y ys =>
      obtain ⟨u, t', q', p2, q2⟩ := VRels.cons_iff.mp r2
      rw [q, q']
      refine o1_inv e fun a ha e => o1_inv e fun b hb e => ?_
      obtain ⟨f, hf, hr⟩ := hi ys t t' b q1 q2 hb
      refine ⟨fun j => j.rec a fun j _ => f j, ?_, ?_⟩
      · intro j h1 h2
        cases j with
        | zero => exact ih p1 p2 ha
        | succ j => exact hf j (Nat.lt_of_succ_lt_succ h1) (Nat.lt_of_succ_lt_succ h2)
      · rw [List.length_cons, List.length_cons, Nat.add_min_add_right, List.range_succ_eq_map, List.all_cons, List.all_map, ← oE e, ← hr]; rfl

theorem toStr_beq (x y : List Nat) : (toStr x == toStr y) = (x == y) := by
  by_cases hxy : x = y
  · rw [hxy, beq_self_eq_true, beq_self_eq_true]
  · rw [beq_eq_false_iff_ne.mpr hxy, beq_eq_false_iff_ne.mpr fun q => hxy (toStr_inj q)]
theorem eqAt_bytes {x y : List UInt8} {t u : Tok} : EqAt A s (.bytes x.toArray t) (.bytes y.toArray u) (x == y) := by
  intro prog w E Q hq
  unfold eqBool
  refine wpAny_holding ?_
  refine wpAny_ite_split (fun hab => ?_) (fun _ => ?_)
  · rw [tob_inj (eq_of_beq hab), beq_self_eq_true] at hq
    exact wpAny_bind (wpAny_rule (wpAny_pure hq))
  · refine wpAny_bind ?_
    show wpAny _ _ (compareOp .Eq _ _) _ _ _
    refine W.eq_bytes (wpAny_truthy_bool ?_)
    simpa using hq
theorem rc_lists {A : Around} {s : Shared} {n : Nat} {a b : Addr} {xs ys : List AV} {vs us : List Value} {r : Bool} (hu : A.units + (n + 1) < cLine) (ih : ∀ {a b : AV} {va vb : Value} {r : Bool}, VRel X ρ Z s.heap a va → VRel X ρ Z s.heap b vb → eqV n a b = some r → EqAt A.in1 s va vb r)
    (pa : s.heap.PlainList a vs.toArray) (pb : s.heap.PlainList b us.toArray) (qa : VRels X ρ Z s.heap xs vs) (qb : VRels X ρ Z s.heap ys us) (hl : xs.length = ys.length) (e : allEq (eqV n) xs ys = some r) :
    RcAt A s (.ref a) (.ref b) r ∧ RcNeAt A s (.ref a) (.ref b) (!r) := by
  obtain ⟨f, hf, hr⟩ := allEq_at n A.in1 s ih xs ys vs us r qa qb e
  have hl' : vs.length = us.length := by rw [← qa.length, ← qb.length]; exact hl
  have hr' : (List.range vs.toArray.size).all f = r := by rw [← hr, ← hl', Nat.min_self]; rfl
  rw [← hr']
  exact ⟨RcAt.lists pa.isList pb.isList hl' (by (first | lia | omega)) (fun j h1 h2 => hf j h1 h2), RcNeAt.lists pa.isList pb.isList hl' (by (first | lia | omega)) (fun j h1 h2 => hf j h1 h2)⟩
theorem rc_tuples {A : Around} {s : Shared} {n : Nat} {a b : Addr} {xs ys : List AV} {vs us : List Value} {r : Bool} (hu : A.units + (n + 1) < cLine) (ih : ∀ {a b : AV} {va vb : Value} {r : Bool}, VRel X ρ Z s.heap a va → VRel X ρ Z s.heap b vb → eqV n a b = some r → EqAt A.in1 s va vb r)
    (pa : PlainTup s.heap a vs.toArray) (pb : PlainTup s.heap b us.toArray) (qa : VRels X ρ Z s.heap xs vs) (qb : VRels X ρ Z s.heap ys us) (e : allEq (eqV n) xs ys = some r) :
    RcAt A s (.ref a) (.ref b) (r && xs.length == ys.length) ∧ RcNeAt A s (.ref a) (.ref b) (!(r && xs.length == ys.length)) := by
  obtain ⟨f, hf, hr⟩ := allEq_at n A.in1 s ih xs ys vs us r qa qb e
  rw [qa.length, qb.length, ← hr]
  exact ⟨RcAt.tuples pa.isTuple pb.isTuple (by (first | lia | omega)) (fun j h1 h2 => hf j h1 h2), RcNeAt.tuples pa.isTuple pb.isTuple (by (first | lia | omega)) (fun j h1 h2 => hf j h1 h2)⟩
theorem rc_lens {A : Around} {s : Shared} {a b : Addr} {xs ys : List AV} {vs us : List Value} (hu : A.units + 1 < cLine)
    (pa : s.heap.PlainList a vs.toArray) (pb : s.heap.PlainList b us.toArray) (qa : VRels X ρ Z s.heap xs vs) (qb : VRels X ρ Z s.heap ys us) (hl : ¬ xs.length = ys.length) :
    RcAt A s (.ref a) (.ref b) false ∧ RcNeAt A s (.ref a) (.ref b) true := by
  have hn : (vs.toArray.size != us.toArray.size) = true := by simpa using fun q => hl (qa.length.trans (q.trans qb.length.symm))
  exact ⟨RcAt.lists_lengths (A := A) pa.isList pb.isList hn (by (first | lia | omega)), RcNeAt.lists_lengths (A := A) pa.isList pb.isList hn (by (first | lia | omega))⟩

theorem eqV_at : ∀ (n : Nat) (A : Around) (s : Shared) {a b : AV} {va vb : Value} {r : Bool}, A.units + n < cLine → VRel X ρ Z s.heap a va → VRel X ρ Z s.heap b vb → eqV n a b = some r → EqAt A s va vb r := by
  intro n
  induction n with
  | zero => intro A s a b va vb r _ _ _ e; exact oN e
  | succ n ih =>
    intro A s a b va vb r hu ra rb e
    have sm := @eqV_same X ρ Z s.heap (n + 1) a b
    have ih' : ∀ {a b : AV} {va vb : Value} {r : Bool}, VRel X ρ Z s.heap a va → VRel X ρ Z s.heap b vb → eqV n a b = some r → EqAt A.in1 s va vb r := fun p q e => ih A.in1 s (by show A.units + 1 + n < cLine; (first | lia | omega)) p q e
    have e0 := e
    refine sel_inv (P := fun va => (∀ {v r}, VRel X ρ Z s.heap a v → VRel X ρ Z s.heap b v → eqV (n + 1) a b = some r → r = true) → VRel X ρ Z s.heap a va → EqAt A s va vb r) e ra oN (fun x e _ _ => ?_) (fun x t e _ _ => ?_) (fun x t e _ _ => ?_) (fun x t e _ _ => ?_)
      (fun l a vs _ p q e sm ra => ?_) (fun l a vs _ p q e sm ra => ?_) sm ra
    · refine asB_inv e rb fun y e => ?_
      rw [← oE e]; exact EqAt.bool_bool _ _
    · refine asI_inv e rb fun y u e => ?_
      rw [← oE e]; exact EqAt.int_int _ _ _ _
    · refine asS_inv e rb fun y u e => ?_
      rw [← oE e, ← toStr_beq]; exact EqAt.str_str (A := A) (s := s) (toStr x) t (toStr y) u
    · refine asY_inv e rb fun y u e => ?_
      rw [← oE e]; exact eqAt_bytes
    · refine asL_inv (P := fun vb => VRel X ρ Z s.heap b vb → EqAt A s (.ref a) vb r) e rb (fun ys b us _ p' q' e rb => ?_) rb
      by_cases hab : a = b
      · rw [← hab] at rb; rw [← hab, sm ra rb e0]; exact EqAt.same _
      · refine EqAt.of_refs hab ?_
        refine ifB e (fun hl e => ?_) fun hl e => ?_
        · exact (rc_lists hu ih' p p' q q' hl e).1
        · rw [← oE e]; exact (rc_lens (by (first | lia | omega)) p p' q q' hl).1
    · refine asT_inv (P := fun vb => VRel X ρ Z s.heap b vb → EqAt A s (.ref a) vb r) e rb (fun ys b us _ p' q' e rb => ?_) rb
      by_cases hab : a = b
      · rw [← hab] at rb; rw [← hab, sm ra rb e0]; exact EqAt.same _
      · refine EqAt.of_refs hab ?_
        refine o1_inv e fun r' h' e => ?_
        rw [← oE e]; exact (rc_tuples hu ih' p p' q q' h').1
end
end Mine
end
section
open PySem PySem.W PyProof.Rows
set_option maxRecDepth 100000
set_option linter.unusedVariables false
namespace Mine
open SeqAt

section
variable {X : Cx} {ρ : List Addr} {Z : Addr → Prop} {h : Heap}

theorem allEq_det {f : AV → AV → Option Bool} (ih : ∀ {a a' b : AV} {v : Value} {r r' : Bool}, VRel X ρ Z h a v → VRel X ρ Z h a' v → f a b = some r → f a' b = some r' → r = r') :
    ∀ (xs xs' ys : List AV) (vs : List Value) (r r' : Bool), VRels X ρ Z h xs vs → VRels X ρ Z h xs' vs → allEq f xs ys = some r → allEq f xs' ys = some r' → r = r' := by
  intro xs
  induction xs with
  | nil =>
    intro xs' ys vs r r' r1 r2 e e'
    rw [VRels.nil_iff.mp r1] at r2
    rw [List.eq_nil_of_length_eq_zero r2.length] at e'
    rw [← oE e, ← oE e']
  | cons x xs hi =>
    intro xs' ys vs r r' r1 r2 e e'
    obtain ⟨v, t, q, p1, q1⟩ := VRels.cons_iff.mp r1
    rw [q] at r2
    cases xs' with
    | nil => exact nomatch VRels.nil_iff.mp r2
    | cons x' xs' =>
      obtain ⟨v', t', ee, p2, q2⟩ := VRels.cons_iff.mp r2
      injection ee with e1 e2
      rw [← e1] at p2; rw [← e2] at q2
      cases ys with
      | nil => rw [← oE e, ← oE e']
      | cons y ys =>
        refine o1_inv e fun a ha e => o1_inv e fun b hb e => o1_inv e' fun a' ha' e' => o1_inv e' fun b' hb' e' => ?_
        rw [← oE e, ← oE e', ih p1 p2 ha ha', hi _ _ _ _ _ q1 q2 hb hb']
theorem eqV_det : ∀ (n : Nat) {a a' b : AV} {v : Value} {r r' : Bool}, VRel X ρ Z h a v → VRel X ρ Z h a' v → eqV n a b = some r → eqV n a' b = some r' → r = r' := by
  intro n
  induction n with
  | zero => intro a a' b v r r' _ _ e; exact oN e
  | succ n ih =>
    intro a a' b v r r' ra rb e e'
    refine sel_inv (P := fun v => VRel X ρ Z h a' v → r = r') e ra oN (fun x e rb => ?_) (fun x t e rb => ?_) (fun x t e rb => ?_) (fun x t e rb => ?_) (fun l a vs _ p q e rb => ?_) (fun l a vs _ p q e rb => ?_) rb
    · refine asB_is (P := fun b => eqV (n + 1) a' b = some r' → r = r') e (fun y e e' => ?_) e'
      refine sel_inv (P := fun v => v = .bool x → r = r') e' rb oN (fun z e' q => ?_) (fun _ _ => oN) (fun _ _ => oN) (fun _ _ => oN) (fun _ _ _ _ _ _ => oN) (fun _ _ _ _ _ _ => oN) rfl
      cases q; rw [← oE e, ← oE e']
    · refine asI_is (P := fun b => eqV (n + 1) a' b = some r' → r = r') e (fun y e e' => ?_) e'
      refine sel_inv (P := fun v => v = .int x t → r = r') e' rb oN (fun _ => oN) (fun z u e' q => ?_) (fun _ _ => oN) (fun _ _ => oN) (fun _ _ _ _ _ _ => oN) (fun _ _ _ _ _ _ => oN) rfl
      cases q; rw [← oE e, ← oE e']
    · refine asS_is (P := fun b => eqV (n + 1) a' b = some r' → r = r') e (fun y e e' => ?_) e'
      refine sel_inv (P := fun v => v = .str (toStr x) t → r = r') e' rb oN (fun _ => oN) (fun _ _ => oN) (fun z u e' q => ?_) (fun _ _ => oN) (fun _ _ _ _ _ _ => oN) (fun _ _ _ _ _ _ => oN) rfl
      rw [← oE e, ← oE e', ts_inj q]
    · refine asY_is (P := fun b => eqV (n + 1) a' b = some r' → r = r') e (fun y e e' => ?_) e'
      refine sel_inv (P := fun v => v = .bytes x.toArray t → r = r') e' rb oN (fun _ => oN) (fun _ _ => oN) (fun _ _ => oN) (fun z u e' q => ?_) (fun _ _ _ _ _ _ => oN) (fun _ _ _ _ _ _ => oN) rfl
      rw [← oE e, ← oE e', tob_inj q]
    · refine asL_is (P := fun b => eqV (n + 1) a' b = some r' → r = r') e (fun ys e e' => ?_) e'
      refine sel_inv (P := fun v => v = .ref a → r = r') e' rb oN (fun _ => oN) (fun _ _ => oN) (fun _ _ => oN) (fun _ _ => oN) (fun l' a' vs' _ p' q' e' ee => ?_) (fun _ _ _ _ _ _ => oN) rfl
      injection ee with ee
      rw [ee] at p'
      rw [lists_one p' p] at q'
      have hl := q.length.trans q'.length.symm
      refine ifB e (fun h3 e => ?_) fun h3 e => ?_
      · exact ifB e' (fun _ e' => allEq_det (f := eqV n) ih _ _ _ _ _ _ q q' e e') fun h4 => absurd (hl.symm.trans h3) h4
      · refine ifB e' (fun h4 => absurd (hl.trans h4) h3) fun _ e' => ?_
        rw [← oE e, ← oE e']
    · refine asT_is (P := fun b => eqV (n + 1) a' b = some r' → r = r') e (fun ys e e' => ?_) e'
      refine sel_inv (P := fun v => v = .ref a → r = r') e' rb oN (fun _ => oN) (fun _ _ => oN) (fun _ _ => oN) (fun _ _ => oN) (fun _ _ _ _ _ _ => oN) (fun l' a' vs' _ p' q' e' ee => ?_) rfl
      injection ee with ee
      rw [ee] at p'
      rw [tups_one p' p] at q'
      refine o1_inv e fun r1 h1 e => o1_inv e' fun r2 h2 e' => ?_
      rw [← oE e, ← oE e', allEq_det (f := eqV n) ih _ _ _ _ _ _ q q' h1 h2, q.length.trans q'.length.symm]
end

noncomputable def anyEq (f : AV → AV → Option Bool) (x : AV) : List AV → Option Bool
  | [] => some false
  | y :: ys => o1 (f y x) fun a => o1 (anyEq f x ys) fun b => some (a || b)

noncomputable def vbool (r : Option Bool) (σ : St) : Option (AV × St) := o1 r fun b => some (.bool b, σ)

noncomputable def eqTop (σ : St) (a b : AV) : Option Bool := match viewD σ a with
  | some xs => match viewD σ b with
    | some ys => if xs.length = ys.length then dictEq (eqV 8) ys xs else some false
    | none => eqV 9 a b
  | none => eqV 9 a b

noncomputable def inD (k : List Nat) (l : List (List Nat × AV)) : Option Bool := some (lookD k l).isSome
noncomputable def inI (k : Int) (l : List (Int × AV)) : Option Bool := some (lookI k l).isSome
noncomputable def opIn (σ : St) (x c : AV) : Option Bool := match viewL σ c with
  | some l => anyEq (eqV 8) x l
  | none => match viewD σ c with
    | some l => asS x fun k => inD k l
    | none => match viewI σ c with
      | some l => asI x fun k => inI k l
      | none => asT c fun l => anyEq (eqV 8) x l

noncomputable def cmpOp (op : CmpOp) (a b : AV) (σ : St) : Option (AV × St) := match op with
  | .Eq => vbool (eqTop σ a b) σ
  | .NotEq => vbool ((eqTop σ a b).map (!·)) σ
  | .In => vbool (opIn σ a b) σ
  | .NotIn => vbool ((opIn σ a b).map (!·)) σ
  | .Lt => asI a fun x => asI b fun y => some (.bool (decide (x < y)), σ)
  | .LtE => asI a fun x => asI b fun y => some (.bool (decide (x ≤ y)), σ)
  | .Gt => asI a fun x => asI b fun y => some (.bool (decide (y < x)), σ)
  | .GtE => asI a fun x => asI b fun y => some (.bool (decide (y ≤ x)), σ)
  | .Is => asB a fun x => asB b fun y => some (.bool (x == y), σ)
  | .IsNot => asB a fun x => asB b fun y => some (.bool (!(x == y)), σ)

section
variable {X : Cx} {k : Nat} {A : Around} {Z : Addr → Prop} {ρ : List Addr} {σ : St} {s : Shared} {Q : Value → Shared → Prop} {E : Value → Shared → Prop}

theorem VRelD.length {h : Heap} : ∀ {xs : List (List Nat × AV)} {vs : List (Str × Value)}, VRelD X ρ Z h xs vs → xs.length = vs.length
  | [], vs, r => by unfold VRelD at r; subst r; rfl
  | (k, x) :: xs, vs, r => by
    unfold VRelD at r
    obtain ⟨v, t, rfl, _, q⟩ := r
    simp [VRelD.length q]
theorem VRelI.length {h : Heap} : ∀ {xs : List (Int × AV)} {vs : List (Int × Value)}, VRelI X ρ Z h xs vs → xs.length = vs.length
  | [], vs, r => by unfold VRelI at r; subst r; rfl
  | (k, x) :: xs, vs, r => by
    unfold VRelI at r
    obtain ⟨v, t, rfl, _, q⟩ := r
    simp [VRelI.length q]
theorem VRelD.look {h : Heap} : ∀ {xs : List (List Nat × AV)} {vs : List (Str × Value)} (k : List Nat), VRelD X ρ Z h xs vs →
    (lookD k xs = none ∧ valueAt vs (toStr k) = none) ∨ ∃ x v, lookD k xs = some x ∧ valueAt vs (toStr k) = some v ∧ VRel X ρ Z h x v
  | [], vs, k, r => by unfold VRelD at r; subst r; exact .inl ⟨rfl, rfl⟩
  | (j, x) :: xs, vs, k, r => by
    unfold VRelD at r
    obtain ⟨v, t, rfl, p, q⟩ := r
    have ih := VRelD.look k q
    unfold lookD valueAt
    by_cases hk : j = k
    · subst hk
      exact .inr ⟨x, v, by rw [if_pos rfl], by simp, p⟩
    · have hk' : ¬ toStr j = toStr k := fun e => hk (toStr_inj e)
      rw [if_neg hk]
      simpa [List.find?_cons, hk', valueAt] using ih
theorem VRelI.look {h : Heap} : ∀ {xs : List (Int × AV)} {vs : List (Int × Value)} (k : Int), VRelI X ρ Z h xs vs →
    (lookI k xs = none ∧ valueAt vs k = none) ∨ ∃ x v, lookI k xs = some x ∧ valueAt vs k = some v ∧ VRel X ρ Z h x v
  | [], vs, k, r => by unfold VRelI at r; subst r; exact .inl ⟨rfl, rfl⟩
  | (j, x) :: xs, vs, k, r => by
    unfold VRelI at r
    obtain ⟨v, t, rfl, p, q⟩ := r
    have ih := VRelI.look k q
    unfold lookI valueAt
    by_cases hk : j = k
    · subst hk
      exact .inr ⟨x, v, by rw [if_pos rfl], by simp, p⟩
    · rw [if_neg hk]
      simpa [List.find?_cons, hk, valueAt] using ih

open Classical in
theorem anyEq_at (n : Nat) (hu : A.units + n < cLine) {x : AV} {v : Value} (rx : VRel X ρ Z s.heap x v) : ∀ (l : List AV) (vs : List Value) (r : Bool), VRels X ρ Z s.heap l vs → anyEq (eqV n) x l = some r →
    ∃ e : Value → Bool, (∀ y, y ∈ vs → EqAt A s y v (e y)) ∧ vs.any e = r := by
  intro l vs r rl e
  refine ⟨fun y => if ∃ a, VRel X ρ Z s.heap a y ∧ eqV n a x = some true then true else false, ?_, ?_⟩
  · have : ∀ (l : List AV) (vs : List Value) (r : Bool), VRels X ρ Z s.heap l vs → anyEq (eqV n) x l = some r → ∀ y ∈ vs, ∃ a r, VRel X ρ Z s.heap a y ∧ eqV n a x = some r := by
      intro l
      induction l with
      | nil => intro vs r rl _ y hy; rw [VRels.nil_iff.mp rl] at hy; cases hy
      | cons z l ih =>
        intro vs r rl e y hy
        obtain ⟨u, t, rfl, p, q⟩ := VRels.cons_iff.mp rl
        refine o1_inv e fun a ha e => o1_inv e fun b hb e => ?_
        rcases List.mem_cons.mp hy with hy | hy
        · rw [hy]; exact ⟨z, a, p, ha⟩
        · exact ih t b q hb y hy
    intro y hy
    obtain ⟨a, r', ra, er⟩ := this l vs r rl e y hy
    have z := eqV_at n A s hu ra rx er
    have : (if ∃ a, VRel X ρ Z s.heap a y ∧ eqV n a x = some true then true else false) = r' := by
      cases r' with
      | true => exact if_pos ⟨a, ra, er⟩
      | false => exact if_neg fun ⟨a', ra', er'⟩ => nomatch eqV_det n ra ra' er er'
    show EqAt A s y v (if ∃ a, VRel X ρ Z s.heap a y ∧ eqV n a x = some true then true else false)
    rw [this]; exact z
  · revert vs r
    induction l with
    | nil => intro vs r rl e; rw [VRels.nil_iff.mp rl]; exact oE e
    | cons z l ih =>
      intro vs r rl e
      obtain ⟨u, t, rfl, p, q⟩ := VRels.cons_iff.mp rl
      refine o1_inv e fun a ha e => o1_inv e fun b hb e => ?_
      rw [List.any_cons, ih t b q hb, ← oE e]
      refine congrArg (· || b) ?_
      cases a with
      | true => exact if_pos ⟨z, p, ha⟩
      | false => exact if_neg fun ⟨a', ra', er'⟩ => nomatch eqV_det n p ra' ha er'

noncomputable def UOk (X : Cx) (k : Nat) : Prop := X.uni + 8 * k + 64 < cLine ∧ X.dep + k + 100 < recursionLimit

theorem opIn_ok (U : UOk X k) (c : VC X k A Z ρ σ s) {x l : AV} {vx vl : Value} (rx : VRel X ρ Z s.heap x vx) (rl : VRel X ρ Z s.heap l vl) {b : Bool} (e : opIn σ x l = some b) :
    (∀ Q E, (∀ tk, Q (.bool b) { s with toks := tk }) → wpAny (model X.prog X.w) A (compareOp .In vx vl) Q E s) ∧ (∀ Q E, (∀ tk, Q (.bool !b) { s with toks := tk }) → wpAny (model X.prog X.w) A (compareOp .NotIn vx vl) Q E s) := by
  have hu : A.in1.units + 8 < cLine := by have := c.uni; have := U.1; show A.units + 1 + 8 < cLine; (first | lia | omega)
  unfold opIn at e
  cases hl : viewL σ l with
  | some l' =>
    rw [hl] at e
    obtain ⟨a, vs, q, pl, ql⟩ := view_list c.inv rl hl
    obtain ⟨f, hf, hr⟩ := anyEq_at (A := A.in1) 8 hu rx l' vs b ql e
    rw [q, ← hr]
    exact ⟨fun Q E h => in_listAt f pl.isList (fun y hy => hf y (List.mem_toArray.mp hy)) (by simpa using h s.toks),
      fun Q E h => notIn_listAt f pl.isList (fun y hy => hf y (List.mem_toArray.mp hy)) (by simpa using h s.toks)⟩
  | none =>
    rw [hl] at e
    cases hl : viewD σ l with
    | some l' =>
      rw [hl] at e
      obtain ⟨a, vs, q, hs, hd, ql⟩ := view_dict c.inv rl hl
      rw [q]
      refine asS_inv e rx fun k' t e => ?_
      have : (valueAt vs (toStr k')).isSome = b := by
        rw [← oE e]
        rcases ql.look k' with ⟨h1, h2⟩ | ⟨x, v, h1, h2, _⟩ <;> (rw [h1, h2]; rfl)
      exact ⟨fun Q E h => wpAny_in_of (strKind_is ..) hs hd.mapOf (by rw [this]; exact h _), fun Q E h => wpAny_notIn_of (strKind_is ..) hs hd.mapOf (by rw [this]; exact h _)⟩
    | none =>
      rw [hl] at e
      cases hl : viewI σ l with
      | some l' =>
        rw [hl] at e
        obtain ⟨a, vs, q, hs, hd, ql⟩ := view_dicti c.inv rl hl
        rw [q]
        refine asI_inv e rx fun k' t e => ?_
        have : (valueAt vs k').isSome = b := by
          rw [← oE e]
          rcases ql.look k' with ⟨h1, h2⟩ | ⟨x, v, h1, h2, _⟩ <;> (rw [h1, h2]; rfl)
        exact ⟨fun Q E h => wpAny_in_of (intKind_is ..) hs hd.mapOf (by rw [this]; exact h _), fun Q E h => wpAny_notIn_of (intKind_is ..) hs hd.mapOf (by rw [this]; exact h _)⟩
      | none =>
        rw [hl] at e
        refine asT_inv e rl fun l' a vs _ pl ql e => ?_
        obtain ⟨f, hf, hr⟩ := anyEq_at (A := A.in1) 8 hu rx l' vs b ql e
        rw [← hr]
        exact ⟨fun Q E h => in_tupleAt f pl.isTuple (fun y hy => hf y (List.mem_toArray.mp hy)) (by simpa using h s.toks),
          fun Q E h => notIn_tupleAt f pl.isTuple (fun y hy => hf y (List.mem_toArray.mp hy)) (by simpa using h s.toks)⟩

theorem VRelD.hits {h : Heap} (n : Nat) (A : Around) (s : Shared) (hu : A.units + n < cLine) {ys : List (List Nat × AV)} {us : List (Str × Value)} (ry : VRelD X ρ Z s.heap ys us) :
    ∀ (xs : List (List Nat × AV)) (vs : List (Str × Value)) (r : Bool), VRelD X ρ Z s.heap xs vs → dictEq (eqV n) ys xs = some r → KeqHits A s us vs r := by
  intro xs
  induction xs with
  | nil =>
    intro vs r rx e
    unfold VRelD at rx; rw [rx, ← oE e]; exact .nil
  | cons kx xs ih =>
    obtain ⟨k, x⟩ := kx
    intro vs r rx e
    unfold VRelD at rx
    obtain ⟨v, t, q', p, q⟩ := rx
    rw [q']
    unfold dictEq at e
    rcases ry.look k with ⟨h1, h2⟩ | ⟨y, u, h1, h2, py⟩
    · rw [h1] at e; rw [← oE e]
      exact .miss h2
    · rw [h1] at e
      refine o1_inv e fun a ha e => o1_inv e fun b hb e => ?_
      rw [← oE e]
      exact .hit h2 (eqV_at n A s hu p py ha) (ih t b q hb)

theorem eqTop_val (hu0 : A.units + 20 < cLine) {a b : AV} {va vb : Value} (ra : VRel X ρ Z s.heap a va) (rb : VRel X ρ Z s.heap b vb) {r : Bool} (e : eqV 9 a b = some r) :
    (∀ Q E, Q (.bool r) s → wpAny (model X.prog X.w) A (compareOp .Eq va vb) Q E s) ∧ (∀ Q E, Q (.bool !r) s → wpAny (model X.prog X.w) A (compareOp .NotEq va vb) Q E s) := by
  have ih : ∀ {a b : AV} {va vb : Value} {r : Bool}, VRel X ρ Z s.heap a va → VRel X ρ Z s.heap b vb → eqV 8 a b = some r → EqAt A.in1 s va vb r := fun p q e => eqV_at 8 A.in1 s (by show A.units + 1 + 8 < cLine; (first | lia | omega)) p q e
  refine sel_inv e ra oN (fun x e => ?_) (fun x t e => ?_) (fun x t e => ?_) (fun x t e => ?_) (fun l a vs _ p q e => ?_) (fun l a vs _ p q e => ?_)
  · refine asB_inv e rb fun y e => ?_
    rw [← oE e]
    exact ⟨fun Q E h => PyProof.Rows.eq_bool h, fun Q E h => RcNeAt.bool_bool _ _ X.prog X.w E Q h⟩
  · refine asI_inv e rb fun y u e => ?_
    rw [← oE e]
    exact ⟨fun Q E h => PyProof.Rows.eq_int h, fun Q E h => PyProof.Rows.ne_int h⟩
  · refine asS_inv e rb fun y u e => ?_
    rw [← oE e, ← toStr_beq]
    exact ⟨fun Q E h => PyProof.Rows.eq_str h, fun Q E h => RcNeAt.str_str _ _ _ _ X.prog X.w E Q h⟩
  · refine asY_inv e rb fun y u e => ?_
    rw [← oE e]
    exact ⟨fun Q E h => W.eq_bytes (by simpa using h), fun Q E h => W.ne_bytes (by simpa [bne] using h)⟩
  · refine asL_inv e rb fun ys b us _ p' q' e => ?_
    refine ifB e (fun hl e => ?_) fun hl e => ?_
    · have z := rc_lists (A := A) (n := 8) (by (first | lia | omega)) ih p p' q q' hl e
      exact ⟨fun Q E h => z.1 X.prog X.w E Q h, fun Q E h => z.2 X.prog X.w E Q h⟩
    · have z := rc_lens (A := A) (by (first | lia | omega)) p p' q q' hl
      rw [← oE e]
      exact ⟨fun Q E h => z.1 X.prog X.w E Q h, fun Q E h => z.2 X.prog X.w E Q h⟩
  · refine asT_inv e rb fun ys b us _ p' q' e => ?_
    refine o1_inv e fun r' h' e => ?_
    have z := rc_tuples (A := A) (n := 8) (by (first | lia | omega)) ih p p' q q' h'
    rw [← oE e]
    exact ⟨fun Q E h => z.1 X.prog X.w E Q h, fun Q E h => z.2 X.prog X.w E Q h⟩

theorem eqTop_ok (U : UOk X k) (c : VC X k A Z ρ σ s) {a b : AV} {va vb : Value} (ra : VRel X ρ Z s.heap a va) (rb : VRel X ρ Z s.heap b vb) {r : Bool} (e : eqTop σ a b = some r) :
    (∀ Q E, Q (.bool r) s → wpAny (model X.prog X.w) A (compareOp .Eq va vb) Q E s) ∧ (∀ Q E, Q (.bool !r) s → wpAny (model X.prog X.w) A (compareOp .NotEq va vb) Q E s) := by
  have hu0 : A.units + 20 < cLine := by have := c.uni; have := U.1; (first | lia | omega)
  unfold eqTop at e
  cases h1 : viewD σ a with
  | none => rw [h1] at e; exact eqTop_val hu0 ra rb e
  | some xs =>
    rw [h1] at e
    cases h2 : viewD σ b with
    | none => rw [h2] at e; exact eqTop_val hu0 ra rb e
    | some ys =>
      rw [h2] at e
      obtain ⟨a, vs, q, hs, hd, ql⟩ := view_dict c.inv ra h1
      obtain ⟨b, us, q', hs', hd', ql'⟩ := view_dict c.inv rb h2
      rw [q, q']
      refine ifB e (fun hl e => ?_) fun hl e => ?_
      · have hits := VRelD.hits (h := s.heap) 8 A.in1 s (by show A.units + 1 + 8 < cLine; (first | lia | omega)) ql' xs vs r ql e
        have hl' : (vs.length == us.length) = true := by rw [← ql.length, ← ql'.length, hl]; exact beq_self_eq_true _
        exact ⟨fun Q E h => keq_eq hs hs' hd hd' (by (first | lia | omega)) (fun _ => hits) (by rw [hl', Bool.true_and]; exact h), fun Q E h => keq_ne hs hs' hd hd' (by (first | lia | omega)) (fun _ => hits) (by rw [hl', Bool.true_and]; exact h)⟩
      · have hl' : (vs.length == us.length) = false := by rw [← ql.length, ← ql'.length]; exact beq_eq_false_iff_ne.mpr hl
        have no : vs.length = us.length → KeqHits A.in1 s us vs false := fun q => absurd ((ql.length.trans q).trans ql'.length.symm) hl
        rw [← oE e]
        exact ⟨fun Q E h => keq_eq hs hs' hd hd' (by (first | lia | omega)) no (by rw [hl', Bool.false_and]; exact h), fun Q E h => keq_ne hs hs' hd hd' (by (first | lia | omega)) no (by rw [hl', Bool.false_and]; exact h)⟩

theorem vbool_inv {r : Option Bool} {av : AV} {σ' : St} {P : Prop} (e : vbool r σ = some (av, σ')) (k : ∀ b, r = some b → some (.bool b, σ) = some (av, σ') → P) : P := o1_inv e k
theorem vnot_inv {r : Option Bool} {av : AV} {σ' : St} {P : Prop} (e : vbool (r.map (!·)) σ = some (av, σ')) (k : ∀ b, r = some b → some (.bool !b, σ) = some (av, σ') → P) : P := by
  cases r with
  | none => exact oN e
  | some b => exact k b rfl e
theorem is_bools {x y : Bool} : isSame (.bool x) (.bool y) = pure (x == y) := by cases x <;> cases y <;> rfl
theorem cmpOp_ok (U : UOk X k) (c : VC X k A Z ρ σ s) (op : CmpOp) {a b : AV} {va vb : Value} (ra : VRel X ρ Z s.heap a va) (rb : VRel X ρ Z s.heap b vb) : OpOk X A Z ρ s (compareOp op va vb) (cmpOp op a b σ) := by
  intro av σ' e Q E p
  cases op
  case Eq => exact vbool_inv e fun r hr e => (eqTop_ok U c ra rb hr).1 _ _ ((p.of e).here c.inv (vrel_bool _))
  case NotEq => exact vnot_inv e fun r hr e => (eqTop_ok U c ra rb hr).2 _ _ ((p.of e).here c.inv (vrel_bool _))
  case In => exact vbool_inv e fun r hr e => (opIn_ok U c ra rb hr).1 _ _ fun tk => (p.of e).tok c.inv (vrel_bool _) tk
  case NotIn => exact vnot_inv e fun r hr e => (opIn_ok U c ra rb hr).2 _ _ fun tk => (p.of e).tok c.inv (vrel_bool _) tk
  case Is =>
    refine asB_inv e ra fun x e => asB_inv e rb fun y e => ?_
    exact wpAny_bind (m := isSame (.bool x) (.bool y)) (wpAny_of_eq (a := x == y) is_bools (wpAny_pure ((p.of e).here c.inv (vrel_bool _))))
  case IsNot =>
    refine asB_inv e ra fun x e => asB_inv e rb fun y e => ?_
    exact wpAny_bind (m := isSame (.bool x) (.bool y)) (wpAny_of_eq (a := x == y) is_bools (wpAny_pure ((p.of e).here c.inv (vrel_bool _))))
  case Lt =>
    refine asI_inv e ra fun x _ e => asI_inv e rb fun y _ e => ?_
    exact PyProof.Rows.lt_int ((p.of e).here c.inv (vrel_bool _))
  case LtE =>
    refine asI_inv e ra fun x _ e => asI_inv e rb fun y _ e => ?_
    exact PyProof.Rows.le_int ((p.of e).here c.inv (vrel_bool _))
  case Gt =>
    refine asI_inv e ra fun x _ e => asI_inv e rb fun y _ e => ?_
    exact PyProof.Rows.gt_int ((p.of e).here c.inv (vrel_bool _))
  case GtE =>
    refine asI_inv e ra fun x _ e => asI_inv e rb fun y _ e => ?_
    exact PyProof.Rows.ge_int ((p.of e).here c.inv (vrel_bool _))
end
end Mine
end
section
open PySem PySem.W PyProof.Rows
set_option maxRecDepth 100000
set_option linter.unusedVariables false
namespace Mine
open SeqAt

noncomputable def idx (k : Int) (n : Nat) : Option Nat :=
  if 0 ≤ k then (if k < n ∧ k < 4611686018427387904 then some k.toNat else none)
  else (if 0 ≤ k + n ∧ -4611686018427387904 < k then some (k + n).toNat else none)

noncomputable def atL (l : List AV) (k : Int) (σ : St) : Option (AV × St) := o1 (idx k l.length) fun j => o1 l[j]? fun x => some (x, σ)
noncomputable def atS (l : List Nat) (k : Int) (σ : St) : Option (AV × St) := o1 (idx k l.length) fun j => o1 l[j]? fun x => some (.str [x], σ)
noncomputable def opItem (c i : AV) (σ : St) : Option (AV × St) :=
  match viewL σ c with
  | some l => asI i fun k => atL l k σ
  | none => match viewD σ c with
    | some l => asS i fun k => o1 (lookD k l) fun x => some (x, σ)
    | none => match viewI σ c with
      | some l => asI i fun k => o1 (lookI k l) fun x => some (x, σ)
      | none => sel c none oNo oNo (fun l => asI i fun k => atS l k σ) oNo oNo (fun l => asI i fun k => atL l k σ)

noncomputable def slc {α : Type} (l : List α) (lo hi : Option Int) : List α :=
  (l.drop (lo.elim 0 (clipAt l.length))).take (hi.elim l.length (clipAt l.length) - lo.elim 0 (clipAt l.length))
noncomputable def partOf : AV → Option (Option Int)
  | .none => some none
  | .int i => some (some i)
  | _ => none
noncomputable def orScr {β : Type} (c : AV) (f : List Int → Option β) (g : Option β) : Option β := match c with
  | .script ns => f ns
  | _ => g
theorem orScr_inv {β : Type} {r : β} {c : AV} {f : List Int → Option β} {g : Option β} {P : AV → Prop} (e : orScr c f g = some r) (k : ∀ ns, f ns = some r → P (.script ns)) (k' : g = some r → P c) : P c := by
  cases c with
  | script ns => exact k ns e
  | _ => exact k' e
noncomputable def opSlice (c lo hi st : AV) (σ : St) : Option (AV × St) := o1 (partOf lo) fun l => o1 (partOf hi) fun h => o1 (partOf st) fun s =>
  match viewL σ c with
  | some xs => if s = none && okS xs.length then some (.list (slc xs l h), σ) else none
  | none => orScr c (fun ns => if ¬ s = some 0 then if okS ns.length then some (.list ((pickNums ns l h s).map .int), σ) else none else none)
    (asS c fun x => if s = none && okS x.length then some (.str (slc x l h), σ) else none)

section
variable {X : Cx} {k : Nat} {A : Around} {Z : Addr → Prop} {ρ : List Addr} {σ : St} {s : Shared} {Q : Value → Shared → Prop} {E : Value → Shared → Prop}

theorem idx_inv {k : Int} {n j : Nat} {P : Prop} (e : idx k n = some j) (h1 : 0 ≤ k → k < n → k < 4611686018427387904 → k.toNat = j → P) (h2 : ¬ 0 ≤ k → 0 ≤ k + n → -4611686018427387904 < k → (k + n).toNat = j → P) : P :=
  ifB e (fun h0 e => ifN e fun h e => h1 h0 h.1 h.2 (oE e)) fun h0 e => ifN e fun h e => h2 h0 h.1 h.2 (oE e)
theorem idx_seq {k : Int} {n j : Nat} (e : idx k n = some j) : seqIndex? k n = some j ∧ -4611686018427387904 < k ∧ k < 4611686018427387904 := by
  refine idx_inv e (fun h0 h1 h2 h3 => ?_) fun h0 h1 h2 h3 => ?_
  · unfold seqIndex?
    dsimp only
    rw [if_neg (show ¬ k < 0 by (first | lia | omega)), if_pos (by simp; (first | lia | omega)), h3]
    exact ⟨rfl, by (first | lia | omega), h2⟩
  · unfold seqIndex?
    dsimp only
    rw [if_pos (show k < 0 by (first | lia | omega)), if_pos (by simp; (first | lia | omega)), h3]
    exact ⟨rfl, h2, by (first | lia | omega)⟩

noncomputable def ItemOk (X : Cx) (A : Around) (Z : Addr → Prop) (ρ : List Addr) (s : Shared) (va vi : Value) (av : AV) (σ' : St) : Prop :=
  (∃ T id, s.TypeIs va T ∧ typeLookup (.type T) "__getitem__" = pure (some (.builtin id))) ∧ ∀ Q E, Post X Z ρ s av σ' Q → wpAny (model X.prog X.w) A (getItem va vi) Q E s
theorem opItem_ok (c : VC X k A Z ρ σ s) {a i : AV} {va vi : Value} (ra : VRel X ρ Z s.heap a va) (ri : VRel X ρ Z s.heap i vi) : ∀ av σ', opItem a i σ = some (av, σ') → ItemOk X A Z ρ s va vi av σ' := by
  intro av σ' e
  unfold opItem at e
  cases hl : viewL σ a with
  | some l =>
    rw [hl] at e
    obtain ⟨a, vs, q, pl, ql⟩ := view_list c.inv ra hl
    rw [q]
    refine asI_inv e ri fun k' t e => o1_inv e fun j hj e => o1_inv e fun x hx e => ?_
    obtain ⟨v, hv, rv⟩ := ql.get hx
    rw [ql.length] at hj
    refine ⟨⟨"list", _, pl.isList.typeIs, slot_list_getitem.lookup⟩, fun Q E p => ?_⟩
    refine idx_inv hj (fun h0 h1 h2 h3 => ?_) fun h0 h1 h2 h3 => ?_
    · rw [← h3] at hv
      exact wpAny_getItem_list pl.isList h0 (by (first | lia | omega)) (by simpa using hv) ((p.of e).here c.inv rv)
    · rw [← h3] at hv
      exact wpAny_getItem_list_neg pl.isList (by (first | lia | omega)) (by simp; (first | lia | omega)) (by (first | lia | omega)) (by simpa using hv) ((p.of e).here c.inv rv)
  | none =>
    rw [hl] at e
    cases hl : viewD σ a with
    | some l =>
      rw [hl] at e
      obtain ⟨a, vs, q, hs, hd, ql⟩ := view_dict c.inv ra hl
      rw [q]
      refine asS_inv e ri fun k' t e => o1_inv e fun x hx e => ?_
      rcases ql.look k' with ⟨h1, h2⟩ | ⟨x', v, h1, h2, rv⟩
      · rw [hx] at h1; cases h1
      · rw [← oE (hx.symm.trans h1)] at rv
        exact ⟨⟨"dict", _, hd.typeIs, slot_dict_getitem.lookup⟩, fun Q E p => wpAny_getItem_of (strKind_is ..) hd.mapOf h2 ((p.of e).tok c.inv rv _)⟩
    | none =>
      rw [hl] at e
      cases hl : viewI σ a with
      | some l =>
        rw [hl] at e
        obtain ⟨a, vs, q, hs, hd, ql⟩ := view_dicti c.inv ra hl
        rw [q]
        refine asI_inv e ri fun k' t e => o1_inv e fun x hx e => ?_
        rcases ql.look k' with ⟨h1, h2⟩ | ⟨x', v, h1, h2, rv⟩
        · rw [hx] at h1; cases h1
        · rw [← oE (hx.symm.trans h1)] at rv
          exact ⟨⟨"dict", _, hd.typeIs, slot_dict_getitem.lookup⟩, fun Q E p => wpAny_getItem_of (intKind_is ..) hd.mapOf h2 ((p.of e).tok c.inv rv _)⟩
      | none =>
        rw [hl] at e
        refine sel_inv e ra oN (fun _ => oN) (fun _ _ => oN) (fun l u e => ?_) (fun _ _ => oN) (fun _ _ _ _ _ _ => oN) (fun l a vs _ pl ql e => ?_)
        · refine asI_inv e ri fun k' t e => o1_inv e fun j hj e => o1_inv e fun x hx e => ?_
          obtain ⟨h1, h2, h3⟩ := idx_seq hj
          refine ⟨⟨"str", _, typeIs_str .., PyProof.Rows.slot_str_getitem.lookup⟩, fun Q E p => PyProof.Rows.getItem_str (c := x) (by simp; (first | lia | omega)) ?_ ((p.of e).tok c.inv (vrel_str' rfl _) _)⟩
          rw [toStr_length, h1]
          simpa [toStr] using hx
        · refine asI_inv e ri fun k' t e => o1_inv e fun j hj e => o1_inv e fun x hx e => ?_
          obtain ⟨v, hv, rv⟩ := ql.get hx
          rw [ql.length] at hj
          obtain ⟨h1, h2, h3⟩ := idx_seq hj
          exact ⟨⟨"tuple", _, pl.isTuple.typeIs, PyProof.Rows.slot_tuple_getitem.lookup⟩, fun Q E p => PyProof.Rows.getItem_tuple pl.isTuple (by (first | lia | omega)) (by (first | lia | omega)) h1 (by simpa using hv) ((p.of e).here c.inv rv)⟩

theorem part_ok {a : AV} {v : Value} {x : Option Int} (r : VRel X ρ Z s.heap a v) (e : partOf a = some x) : IsPart v x ∧ ∃ p : Option (Int × Tok), v = partValue p ∧ p.map (·.1) = x := by
  cases a with
  | none => unfold VRel at r; rw [r, ← oE e]; exact ⟨.none, none, rfl, rfl⟩
  | int i => unfold VRel at r; obtain ⟨t, r⟩ := r; rw [r, ← oE e]; exact ⟨.int _ _, some (_, t), rfl, rfl⟩
  | _ => exact oN e

theorem strSlice_idx (n : Nat) (lo hi : Option Int) : Builtin.Str.strSliceIndices lo hi 1 n = (List.range (hi.elim n (clipAt n) - lo.elim 0 (clipAt n))).map (lo.elim 0 (clipAt n) + ·) := by
  have e : Builtin.Str.strSliceIndices lo hi 1 n = sliceRange (sliceBounds lo hi none n).1 (sliceBounds lo hi none n).2.1 1 := by
    cases lo <;> cases hi <;> simp [Builtin.Str.strSliceIndices, sliceBounds]
  rw [e, sliceBounds_plain]
  dsimp only
  rw [sliceRange_one]

theorem strSlice_plain (x : List Nat) (lo hi : Option Int) : (Builtin.Str.strSliceIndices lo hi 1 x.length).filterMap (x[·]?) = slc x lo hi := by
  have e : Builtin.Str.strSliceIndices lo hi 1 x.length = sliceRange (sliceBounds lo hi none x.length).1 (sliceBounds lo hi none x.length).2.1 1 := by
    cases lo <;> cases hi <;> simp [Builtin.Str.strSliceIndices, sliceBounds]
  rw [e, sliceBounds_plain]
  dsimp only
  rw [sliceRange_one]
  unfold slc
  generalize lo.elim 0 (clipAt x.length) = a
  generalize hi.elim x.length (clipAt x.length) = b
  rw [List.filterMap_map]
  clear e lo hi
  show List.filterMap (fun j => x[a + j]?) (List.range (b - a)) = _
  generalize b - a = n
  rw [show (fun j => x[a + j]?) = fun j => (x.drop a)[j]? from by funext j; rw [List.getElem?_drop]]
  generalize x.drop a = y
  clear x
  induction n with
  | zero => simp
  | succ n ih =>
    rw [List.range_succ, List.filterMap_append, ih]
    rw [List.take_add_one]
    congr 1

theorem slc_length_le {α : Type} (l : List α) (lo hi : Option Int) : (slc l lo hi).length ≤ l.length := by
  unfold slc; rw [List.length_take, List.length_drop]; (first | lia | omega)
theorem VRels.slc {h : Heap} {l : List AV} {vs : List Value} (r : VRels X ρ Z h l vs) (lo hi : Option Int) : VRels X ρ Z h (slc l lo hi) (Mine.slc vs lo hi) := by
  unfold Mine.slc; rw [r.length]; exact (r.drop _).take _
theorem vrels_ints {h : Heap} : ∀ {vs : List Value} {ns : List Int}, IntsAre vs ns → VRels X ρ Z h (ns.map .int) vs
  | _, _, .nil => VRels.nil_iff.mpr rfl
  | _, _, .cons n t r => VRels.cons (vrel_int ..) (vrels_ints r)

theorem slc_all {x : List Nat} {l h : Option Int} (h2 : x.length = h.elim x.length (clipAt x.length) - l.elim 0 (clipAt x.length)) : slc x l h = x := by
  unfold slc
  have e1 : h.elim x.length (clipAt x.length) ≤ x.length := by
    cases h with
    | none => exact Nat.le_refl _
    | some i => show clipAt x.length i ≤ _; unfold clipAt; (first | lia | omega)
  rw [← h2]
  have q : l.elim 0 (clipAt x.length) = 0 ∨ x.length = 0 := by (first | lia | omega)
  rcases q with q | q
  · rw [q]; simp
  · rw [List.eq_nil_of_length_eq_zero q]; simp
theorem slice_str (c : VC X k A Z ρ σ s) {x : List Nat} {t : Tok} {sl : Addr} {l h : Option Int} {xl xu xs : Option (Int × Tok)} (hsz : okS x.length = true) (hsl : s.heap.IsSlice sl xl xu xs) (ml : xl.map (·.1) = l) (mu : xu.map (·.1) = h) (ms : xs.map (·.1) = none)
    (p : Post X Z ρ s (.str (slc x l h)) σ Q) : wpAny (model X.prog X.w) A (getItem (.str (toStr x) t) (.ref sl)) Q E s := by
  refine wpAny_getItem_str_slice hsl (by rw [ms]; rfl) ?_
  have hp : slicePicked (toStr x) xl xu xs = Builtin.Str.strSliceIndices l h 1 x.length := by
    unfold slicePicked
    rw [ml, mu, ms, toStr_length]; rfl
  have hq : (slicePicked (toStr x) xl xu xs).filterMap ((toStr x).cps[·]?) = slc x l h := by
    rw [hp, ← strSlice_plain]
    simp [toStr]
  unfold sliceMade
  split
  · rename_i hw
    have h2 := (Bool.and_eq_true_iff.mp hw).2
    rw [hp, toStr_length, strSlice_idx, List.length_map, List.length_range] at h2
    rw [slc_all (eq_of_beq h2).symm] at p
    exact p.here c.inv (vrel_str ..)
  · rw [hq]
    refine ⟨?_, p.tok c.inv (vrel_str' rfl _) _⟩
    show (List.toArray _).size ≤ sizeLine
    rw [List.size_toArray]
    exact Nat.le_trans (slc_length_le ..) (okS_le hsz)
theorem and_none {s : Option Int} {b : Bool} (h : (decide (s = none) && b) = true) : s = none ∧ b = true := ⟨of_decide_eq_true (Bool.and_eq_true_iff.mp h).1, (Bool.and_eq_true_iff.mp h).2⟩
theorem opSlice_ok (c : VC X k A Z ρ σ s) {a lo hi st : AV} {va vl vu vs : Value} (ra : VRel X ρ Z s.heap a va) (rl : VRel X ρ Z s.heap lo vl) (ru : VRel X ρ Z s.heap hi vu) (rs : VRel X ρ Z s.heap st vs)
    {sl : Addr} (hsl : s.heap.IsSliceOf sl vl vu vs) : ∀ av σ', opSlice a lo hi st σ = some (av, σ') → ItemOk X A Z ρ s va (.ref sl) av σ' := by
  intro av σ' e
  refine o1_inv e fun l hl e => o1_inv e fun h hh e => o1_inv e fun s' hs e => ?_
  obtain ⟨pl, xl, el, ml⟩ := part_ok rl hl
  obtain ⟨pu, xu, eu, mu⟩ := part_ok ru hh
  obtain ⟨ps, xs, es, ms⟩ := part_ok rs hs
  cases hy : viewL σ a with
  | some ys =>
    rw [hy] at e
    refine ifN e fun h0 e => ?_
    obtain ⟨h0, hsz⟩ := and_none h0
    rw [h0] at ps
    obtain ⟨a, ws, q, pl', ql⟩ := view_list c.inv ra hy
    rw [q]
    refine ⟨⟨"list", _, pl'.isList.typeIs, slot_list_getitem.lookup⟩, fun Q E p => ?_⟩
    refine wpAny_getItem_list_slice pl'.isList hsl pl pu ps (fun q => nomatch q) ?_ (by rw [List.size_toArray, ← ql.length]; exact okS_le hsz)
    rw [slicePick_plain]
    have z := (p.of e).newList c.inv (vs := slc ws l h) (ql.slc l h) (tk := s.toks)
    simpa [slc] using z
  | none =>
    rw [hy] at e
    refine orScr_inv (P := fun a => VRel X ρ Z s.heap a va → ItemOk X A Z ρ s va (.ref sl) av σ') e (fun ns e ra => ?_) (fun e ra => ?_) ra
    · refine ifN e fun h0 e => ifN e fun hsz e => ?_
      unfold VRel at ra
      obtain ⟨a, ws, q, hli, hi⟩ := ra
      rw [q]
      have hli' : s.heap.IsList a ws.toArray := by obtain ⟨o, ho, r⟩ := hli; exact ⟨o, c.inv.base _ _ ho, r⟩
      refine ⟨⟨"list", _, hli'.typeIs, slot_list_getitem.lookup⟩, fun Q E p => ?_⟩
      refine wpAny_getItem_list_slice hli' hsl pl pu ps h0 ?_ (by rw [List.size_toArray, hi.length]; exact okS_le hsz)
      exact (p.of e).newList c.inv (vs := (slicePick ws.toArray l h s').toList) (vrels_ints (hi.pick l h s')) (tk := s.toks)
    · refine asS_inv e ra fun x t e => ?_
      refine ifN e fun h0 e => ?_
      obtain ⟨h0, hsz⟩ := and_none h0
      rw [el, eu, es] at hsl
      exact ⟨⟨"str", _, typeIs_str .., PyProof.Rows.slot_str_getitem.lookup⟩, fun Q E p => slice_str c hsz hsl ml mu (ms.trans h0) (p.of e)⟩
end
end Mine
end
section
open PySem PySem.W PyProof.Rows
set_option maxRecDepth 100000
set_option linter.unusedVariables false
namespace Mine
open SeqAt

abbrev MT := Eta → St → Option (Bool × St)
abbrev ML := Eta → St → Option (List AV × St)

noncomputable def PostB (X : Cx) (Z : Addr → Prop) (ρ : List Addr) (s : Shared) (σ' : St) (Q : Shared → Prop) : Prop :=
  ∀ Z' ρ' s', Inv X Z' ρ' σ' s' → Ext T0 Z ρ s Z' ρ' s' → Q s'
noncomputable def PostL (X : Cx) (Z : Addr → Prop) (ρ : List Addr) (s : Shared) (l : List AV) (σ' : St) (Q : List Value → Shared → Prop) : Prop :=
  ∀ Z' ρ' vs s', Inv X Z' ρ' σ' s' → Ext T0 Z ρ s Z' ρ' s' → VRels X ρ' Z' s'.heap l vs → Q vs s'

structure EC (X : Cx) (k : Nat) (sc : Scope) (vis : List (Str × Nat)) (A : Around) (env : Env) (Z : Addr → Prop) (ρ : List Addr) (σ : St) (η : Eta) (s : Shared) : Prop where
  c : VC X k A Z ρ σ s
  sc : env.scope = sc
  e : EnvRel X Z ρ s.heap env vis η
  top : env.scope.names.lookup (".0" : Str) = none → ∃ outer, A.frames = some (env :: outer)

theorem EC.next {X k sc vis A env Z ρ σ η s Z' ρ' σ' s'} (c : EC X k sc vis A env Z ρ σ η s) (i : Inv X Z' ρ' σ' s') (y : Ext T0 Z ρ s Z' ρ' s') : EC X k sc vis A env Z' ρ' σ' η s' :=
  ⟨c.c.next i y, c.sc, c.e.ext y, c.top⟩

structure SimX (X : Cx) (k : Nat) (sc : Scope) (vis : List (Str × Nat)) (e : Expr) (m : ME) : Prop where
  run : ∀ A env Z ρ σ η s, EC X k sc vis A env Z ρ σ η s → ∀ av σ', m η σ = some (av, σ') → ∀ Q E, Post X Z ρ s av σ' Q → wpAny (model X.prog X.w) A (eval e env) Q E s
structure SimT (X : Cx) (k : Nat) (sc : Scope) (vis : List (Str × Nat)) (e : Expr) (m : MT) : Prop where
  run : ∀ A env Z ρ σ η s, EC X k sc vis A env Z ρ σ η s → ∀ b σ', m η σ = some (b, σ') → ∀ Q E, PostB X Z ρ s σ' (Q b) → wpAny (model X.prog X.w) A (isTrue e env (eval e env)) Q E s
structure SimAll (X : Cx) (k : Nat) (sc : Scope) (vis : List (Str × Nat)) (op : BoolOp) (es : List Expr) (m : MT) : Prop where
  run : ∀ A env Z ρ σ η s, EC X k sc vis A env Z ρ σ η s → ∀ b σ', m η σ = some (b, σ') → ∀ Q E, PostB X Z ρ s σ' (Q b) → wpAny (model X.prog X.w) A (allTrue op es env) Q E s
structure SimL (X : Cx) (k : Nat) (sc : Scope) (vis : List (Str × Nat)) (es : List Expr) (m : ML) : Prop where
  run : ∀ A env Z ρ σ η s pos, EC X k sc vis A env Z ρ σ η s → ∀ l σ', m η σ = some (l, σ') → ∀ Q E, PostL X Z ρ s l σ' Q → wpAny (model X.prog X.w) A (spliced (backTo pos (starEach es env))) Q E s

theorem Post.pass {X Z ρ s av σ' Q Z' ρ' s'} (p : Post X Z ρ s av σ' Q) (y : Ext T0 Z ρ s Z' ρ' s') : Post X Z' ρ' s' av σ' Q := p.trans y
theorem PostB.pass {X Z ρ s σ' Q Z' ρ' s'} (p : PostB X Z ρ s σ' Q) (y : Ext T0 Z ρ s Z' ρ' s') : PostB X Z' ρ' s' σ' Q := fun Z'' ρ'' s'' i e => p Z'' ρ'' s'' i (y.trans e)
theorem PostB.of {X Z ρ s} {Q : Bool → Shared → Prop} {a b : Bool} {σ σ' : St} (p : PostB X Z ρ s σ (Q a)) (e : some (b, σ') = some (a, σ)) : PostB X Z ρ s σ' (Q b) := by
  have h := Option.some.inj e
  rw [show a = b from congrArg Prod.fst h.symm, show σ = σ' from congrArg Prod.snd h.symm] at p; exact p
theorem PostL.of {X Z ρ s Q} {a b : List AV} {σ σ' : St} (p : PostL X Z ρ s a σ Q) (e : some (b, σ') = some (a, σ)) : PostL X Z ρ s b σ' Q := by
  have h := Option.some.inj e
  rw [show a = b from congrArg Prod.fst h.symm, show σ = σ' from congrArg Prod.snd h.symm] at p; exact p
noncomputable def mK (a : AV) : ME := fun _ σ => some (a, σ)
noncomputable def isUb : AV → Bool
  | .unbound => true
  | _ => false
noncomputable def bnd (v : AV) (σ : St) : Option (AV × St) := cond (isUb v) none (some (v, σ))
noncomputable def mV (i : Nat) : ME := fun η σ => o1 η[i]? fun v => bnd v σ

section
variable {X : Cx} {k : Nat} {sc : Scope} {vis : List (Str × Nat)}

theorem s_int (i : Int) (kd pos) : SimX X k sc vis (.Constant (.int i) kd pos) (mK (.int i)) := by
  refine ⟨?_⟩
  intro A env Z ρ σ η s c av σ' e Q E p
  replace p := p.of e
  exact wpAny_Constant_int (p.tok c.c.inv (vrel_int ..) _)
theorem s_str (x : Str) (l : List Nat) (kd pos) (e : x = toStr l := by decide +kernel) : SimX X k sc vis (.Constant (.str x) kd pos) (mK (.str l)) := by
  refine ⟨?_⟩
  intro A env Z ρ σ η s c av σ' e' Q E p
  replace p := p.of e'
  exact wpAny_Constant_str (p.tok c.c.inv (vrel_str' e _) _)
theorem s_bool (b : Bool) (kd pos) : SimX X k sc vis (.Constant (.bool b) kd pos) (mK (.bool b)) := by
  refine ⟨?_⟩
  intro A env Z ρ σ η s c av σ' e' Q E p
  replace p := p.of e'
  exact wpAny_Constant_bool (p.here c.c.inv (vrel_bool b))

theorem bnd_is {v av : AV} {σ σ' : St} (e : bnd v σ = some (av, σ')) : v = av ∧ av ≠ .unbound ∧ σ' = σ := by
  unfold bnd at e
  cases h : isUb v with
  | true => rw [h] at e; exact oN e
  | false =>
    rw [h] at e
    have e := Option.some.inj e
    have e1 : v = av := congrArg Prod.fst e
    exact ⟨e1, fun q => by rw [e1, q] at h; exact Bool.noConfusion h, (congrArg Prod.snd e).symm⟩
theorem mV_some {i : Nat} {η : Eta} {σ σ' : St} {av : AV} (e : mV i η σ = some (av, σ')) : η[i]? = some av ∧ av ≠ .unbound ∧ σ' = σ :=
  o1_inv e fun v hv e => have h := bnd_is e; ⟨h.1 ▸ hv, h.2⟩

theorem s_loc (x : Str) (pos) (i : Nat) (hv : vis.lookup x = some i := by decide +kernel) (hk : sc.names.lookup x = some .local := by decide +kernel) (hd : (x == ("__debug__" : Str)) = false := by decide +kernel) :
    SimX X k sc vis (.Name x pos) (mV i) := by
  refine ⟨?_⟩
  intro A env Z ρ σ η s c av σ' e Q E p
  obtain ⟨h1, h2, h3⟩ := mV_some e
  rw [h3] at p
  obtain ⟨m, hn, hm⟩ := c.e.ns
  have hk' : env.kindOf x = some .local := by unfold Env.kindOf; rw [c.sc]; exact hk
  rcases hm x i av hv hk' h1 with q | ⟨v, e1, r⟩
  · exact absurd q h2
  · exact wpAny_Name (wpAny_loadName_local c.e.kind hk' hn e1 (p.here c.c.inv r)) hd
theorem s_cell (x : Str) (pos) (i : Nat) (hv : vis.lookup x = some i := by decide +kernel) (hk : sc.names.lookup x = some .cell := by decide +kernel) (hd : (x == ("__debug__" : Str)) = false := by decide +kernel) :
    SimX X k sc vis (.Name x pos) (mV i) := by
  refine ⟨?_⟩
  intro A env Z ρ σ η s c av σ' e Q E p
  obtain ⟨h1, h2, h3⟩ := mV_some e
  rw [h3] at p
  have hk' : env.kindOf x = some .cell := by unfold Env.kindOf; rw [c.sc]; exact hk
  obtain ⟨a, w, ha, hw, hm⟩ := c.e.cel x i hv (.inl hk')
  rcases hm av h1 with q | ⟨v, hv, r⟩
  · exact absurd q h2
  rw [hv] at hw
  exact wpAny_Name (wpAny_loadName_cell c.e.kind hk' ha hw (p.here c.c.inv r)) hd
noncomputable def binOp (op : Operator) (a b : AV) (σ : St) : Option (AV × St) := match op with
  | .Add => opAdd a b σ
  | .Sub => opSub a b σ
  | .Mult => opMul a b σ
  | .FloorDiv => opDiv a b σ
  | .Mod => opMod a b σ
  | .Pow => opPow a b σ
  | _ => none
theorem binOp_ok {k A Z ρ σ s} (c : VC X k A Z ρ σ s) (op : Operator) {a b : AV} {va vb : Value} (ra : VRel X ρ Z s.heap a va) (rb : VRel X ρ Z s.heap b vb) : OpOk X A Z ρ s (binaryOp op va vb) (binOp op a b σ) := by
  cases op <;> unfold binOp <;> dsimp only
  case Add => exact opAdd_ok c ra rb
  case Sub => exact opSub_ok c ra rb
  case Mult => exact opMul_ok c ra rb
  case FloorDiv => exact opDiv_ok c ra rb
  case Mod => exact opMod_ok c ra rb
  case Pow => exact opPow_ok c ra rb
  all_goals (intro av σ' e; cases e)

noncomputable def mBin (op : Operator) (m n : ME) : ME := fun η σ => oB (m η σ) fun a σ => oB (n η σ) fun b σ => binOp op a b σ
noncomputable def mCmp (op : CmpOp) (m n : ME) : ME := fun η σ => oB (m η σ) fun a σ => oB (n η σ) fun b σ => cmpOp op a b σ

theorem s_bin {op : Operator} {l r : Expr} {pos} {m n : ME} (hl : SimX X k sc vis l m) (hr : SimX X k sc vis r n) : SimX X k sc vis (.BinOp l op r pos) (mBin op m n) := by
  refine ⟨?_⟩
  intro A env Z ρ σ η s c av σ' e Q E p
  refine oB_inv e fun a σ₁ h1 e => ?_
  refine oB_inv e fun b σ₂ h2 e => ?_
  refine wpAny_BinOp (hl.run A env Z ρ σ η s c _ _ h1 _ _ fun Z₁ ρ₁ v₁ s₁ i₁ y₁ r₁ => hr.run A env Z₁ ρ₁ σ₁ η s₁ (c.next i₁ y₁) _ _ h2 _ _ fun Z₂ ρ₂ v₂ s₂ i₂ y₂ r₂ => ?_)
  exact binOp_ok ((c.next i₁ y₁).next i₂ y₂).c op (r₁.ext y₂) r₂ _ _ e _ _ ((p.pass y₁).pass y₂)
theorem s_cmp (U : UOk X k) {op : CmpOp} {l r : Expr} {pos} {m n : ME} (hl : SimX X k sc vis l m) (hr : SimX X k sc vis r n) (hm : behindInMarks op r = false := by rfl) : SimX X k sc vis (.Compare l [op] [r] pos) (mCmp op m n) := by
  refine ⟨?_⟩
  intro A env Z ρ σ η s c av σ' e Q E p
  refine oB_inv e fun a σ₁ h1 e => ?_
  refine oB_inv e fun b σ₂ h2 e => ?_
  refine wpAny_Compare1 (hl.run A env Z ρ σ η s c _ _ h1 _ _ fun Z₁ ρ₁ v₁ s₁ i₁ y₁ r₁ => hr.run A env Z₁ ρ₁ σ₁ η s₁ (c.next i₁ y₁) _ _ h2 _ _ fun Z₂ ρ₂ v₂ s₂ i₂ y₂ r₂ => ?_) hm
  exact cmpOp_ok U ((c.next i₁ y₁).next i₂ y₂).c op (r₁.ext y₂) r₂ _ _ e _ _ ((p.pass y₁).pass y₂)

noncomputable def truthA (σ : St) (a : AV) : Option Bool := match viewL σ a with
  | some l => if okS l.length then some (!l.isEmpty) else none
  | none => match a with
    | .mtch _ => some true
    | _ => sel a (some false) some (fun i => some (i != 0)) (fun x => if okS x.length then some (!x.isEmpty) else none) oNo oNo (fun l => if okS l.length then some (!l.isEmpty) else none)
theorem mtch_noBool : typeLookup (.type "re.Match") "__bool__" = pure none := by rw [typeLookup_type, builtinLookup_eq_fast]; kernel_rfl
theorem mtch_noLen : typeLookup (.type "re.Match") "__len__" = pure none := by rw [typeLookup_type, builtinLookup_eq_fast]; kernel_rfl
theorem truthy_mtch {prog : Program} {w : World} {A : Around} {E : Value → Shared → Prop} {s : Shared} {a : Addr} {Q : Bool → Shared → Prop} (hT : s.TypeIs (.ref a) "re.Match") (h : Q true s) : wpAny (model prog w) A (truthy (.ref a)) Q E s := by
  unfold truthy
  first
    | refine wpAny_bind (wpAny_callSpecial?_none (name := Str.ofString "__bool__") hT mtch_noBool ?_)
    | refine wpAny_bind (wpAny_pure (wpAny_bind (wpAny_callSpecial?_none (name := Str.ofString "__bool__") hT mtch_noBool ?_)))
  first
    | refine wpAny_bind (wpAny_specialOf (name := Str.ofString "__len__") hT mtch_noLen ?_)
    | refine wpAny_bind (wpAny_pure (wpAny_bind (wpAny_specialOf (name := Str.ofString "__len__") hT mtch_noLen ?_)))
  exact wpAny_pure h
theorem empty_of {l : List AV} {vs : List Value} {Z ρ h} (r : VRels X ρ Z h l vs) : vs.toArray.isEmpty = l.isEmpty := by
  cases l with
  | nil => rw [VRels.nil_iff.mp r]; rfl
  | cons x l => obtain ⟨v, t, q, _⟩ := VRels.cons_iff.mp r; rw [q]; rfl
theorem truth_sel {k A Z ρ σ s} (c : VC X k A Z ρ σ s) {a : AV} {va : Value} (ra : VRel X ρ Z s.heap a va) {b : Bool}
    (e : sel a (some false) some (fun i => some (i != 0)) (fun x => if okS x.length then some (!x.isEmpty) else none) oNo oNo (fun l => if okS l.length then some (!l.isEmpty) else none) = some b) {Q E} (h : ∀ tk, Q b { s with toks := tk }) :
    wpAny (model X.prog X.w) A (truthy va) Q E s := by
  refine sel_inv e ra (fun e => ?_) (fun x e => ?_) (fun x t e => ?_) (fun x t e => ?_) (fun _ _ => oN) (fun _ _ _ _ _ _ => oN) (fun l a vs _ pl ql e => ?_)
  · rw [← oE e] at h; exact PyProof.Rows.truthy_none (h s.toks)
  · rw [← oE e] at h; exact wpAny_truthy_bool (h s.toks)
  · rw [← oE e] at h; exact PyProof.Rows.truthy_int (h s.toks)
  · refine ifN e fun hz e => ?_
    have := okS_le' hz
    refine PySem.P.truthy_str (by rw [toStr_length]; (first | lia | omega)) ?_
    rw [toStr_length]
    have : ((x.length : Int) != 0) = !x.isEmpty := by
      cases x with
      | nil => rfl
      | cons => simp; (first | lia | omega)
    rw [this, oE e]; exact h _
  · refine ifN e fun hz e => ?_
    have := okS_le' hz
    refine PyProof.Rows.truthy_tuple pl.isTuple (by simp [← ql.length]; (first | lia | omega)) ?_
    rw [empty_of ql, oE e]; exact h _
theorem truthA_ok {k A Z ρ σ s} (c : VC X k A Z ρ σ s) {a : AV} {va : Value} (ra : VRel X ρ Z s.heap a va) {b : Bool} (e : truthA σ a = some b) {Q E} (h : ∀ tk, Q b { s with toks := tk }) :
    wpAny (model X.prog X.w) A (truthy va) Q E s := by
  unfold truthA at e
  cases hl : viewL σ a with
  | some l =>
    rw [hl] at e
    refine ifN e fun hz e => ?_
    obtain ⟨a, vs, q, pl, ql⟩ := view_list c.inv ra hl
    have := okS_le' hz
    rw [q]
    refine wpAny_truthy_list pl.isList (by simp [← ql.length]; (first | lia | omega)) ?_
    rw [empty_of ql, oE e]; exact h _
  | none =>
    rw [hl] at e
    cases a with
    | mtch g =>
      rw [← oE e] at h
      unfold VRel at ra
      obtain ⟨b, sp, mo, so, q, _, _, ho, _, hm⟩ := ra
      obtain ⟨_, _, _, _, _, _, _, _, _, hq, _⟩ := hm
      rw [q]; rw [hq] at ho
      exact truthy_mtch ⟨_, ho, rfl⟩ (h _)
    | _ => exact truth_sel c ra e h

noncomputable def tCmp (op : CmpOp) (m n : ME) : MT := fun η σ => oB (mCmp op m n η σ) fun a σ => asB a fun b => some (b, σ)
noncomputable def tVal (m : ME) : MT := fun η σ => oB (m η σ) fun a σ => o1 (truthA σ a) fun b => some (b, σ)
noncomputable def tNot (t : MT) : MT := fun η σ => oB (t η σ) fun b σ => some (!b, σ)
noncomputable def tAnd (t u : MT) : MT := fun η σ => oT (t η σ) (fun σ => u η σ) (fun σ => some (false, σ))
noncomputable def tOr (t u : MT) : MT := fun η σ => oT (t η σ) (fun σ => some (true, σ)) (fun σ => u η σ)
noncomputable def tK (b : Bool) : MT := fun _ σ => some (b, σ)
noncomputable def mIte (t : MT) (m n : ME) : ME := fun η σ => oT (t η σ) (fun σ => m η σ) (fun σ => n η σ)

theorem t_cmp (U : UOk X k) {op : CmpOp} {l r : Expr} {pos} {m n : ME} (hl : SimX X k sc vis l m) (hr : SimX X k sc vis r n) (hm : behindInMarks op r = false := by rfl) : SimT X k sc vis (.Compare l [op] [r] pos) (tCmp op m n) := by
  refine ⟨?_⟩
  intro A env Z ρ σ η s c b σ' e Q E p
  refine oB_inv e fun b' σ₃ h3 e => ?_
  refine oB_inv h3 fun a σ₁ h1 h3 => ?_
  refine oB_inv h3 fun b σ₂ h2 h3 => ?_
  refine wpAny_isTrue_Compare1 (hl.run A env Z ρ σ η s c _ _ h1 _ _ fun Z₁ ρ₁ v₁ s₁ i₁ y₁ r₁ => hr.run A env Z₁ ρ₁ σ₁ η s₁ (c.next i₁ y₁) _ _ h2 _ _ fun Z₂ ρ₂ v₂ s₂ i₂ y₂ r₂ => ?_) hm
  refine cmpOp_ok U ((c.next i₁ y₁).next i₂ y₂).c op (r₁.ext y₂) r₂ _ _ h3 _ _ fun Z₃ ρ₃ v₃ s₃ i₃ y₃ r₃ => ?_
  refine asB_inv e r₃ fun b'' e => ?_
  exact wpAny_truthy_bool (p.of e _ _ _ i₃ ((y₁.trans y₂).trans y₃))
theorem t_val {x : Expr} {m : ME} (hl : SimX X k sc vis x m) (he : ∀ env, isTrue x env (eval x env) = (do let v ← eval x env; standAt x.pos; holding [v] (truthy v)) := by intro _; rfl) : SimT X k sc vis x (tVal m) := by
  refine ⟨?_⟩
  intro A env Z ρ σ η s c b σ' e Q E p
  refine oB_inv e fun a σ₁ h1 e => ?_
  refine o1_inv e fun b' h2 e => ?_
  replace p := p.of e
  refine wpAny_isTrue_value (hl.run A env Z ρ σ η s c _ _ h1 _ _ fun Z₁ ρ₁ v₁ s₁ i₁ y₁ r₁ => ?_) (he env)
  exact truthA_ok (c.next i₁ y₁).c r₁ h2 fun tk => p _ _ _ (i₁.tok tk) (y₁.trans (Ext.tok tk))
theorem t_not {x : Expr} {pos} {t : MT} (ht : SimT X k sc vis x t) : SimT X k sc vis (.UnaryOp .Not x pos) (tNot t) := by
  refine ⟨?_⟩
  intro A env Z ρ σ η s c b σ' e Q E p
  refine oB_inv e fun b' σ₁ h1 e => ?_
  replace p := p.of e
  exact wpAny_isTrue_Not (ht.run A env Z ρ σ η s c _ _ h1 _ _ fun Z₁ ρ₁ s₁ i₁ y₁ => p _ _ _ i₁ y₁)
theorem t_bool {op : BoolOp} {es : List Expr} {pos} {t : MT} (ht : SimAll X k sc vis op es t) : SimT X k sc vis (.BoolOp op es pos) t := by
  refine ⟨?_⟩
  intro A env Z ρ σ η s c b σ' e Q E p
  exact wpAny_isTrue_BoolOp (ht.run A env Z ρ σ η s c _ _ e _ _ p)
theorem a_nilA : SimAll X k sc vis .And [] (tK true) := by
  refine ⟨?_⟩
  intro A env Z ρ σ η s c b σ' e Q E p
  replace p := p.of e
  exact wpAny_allTrue_And_nil (p _ _ _ c.c.inv (Ext.refl ..))
theorem a_nilO : SimAll X k sc vis .Or [] (tK false) := by
  refine ⟨?_⟩
  intro A env Z ρ σ η s c b σ' e Q E p
  replace p := p.of e
  exact wpAny_allTrue_Or_nil (p _ _ _ c.c.inv (Ext.refl ..))
theorem a_consA {x : Expr} {es : List Expr} {t u : MT} (ht : SimT X k sc vis x t) (hu : SimAll X k sc vis .And es u) : SimAll X k sc vis .And (x :: es) (tAnd t u) := by
  refine ⟨?_⟩
  intro A env Z ρ σ η s c b σ' e Q E p
  refine wpAny_allTrue_And_cons ?_
  refine oT_inv e (fun σ₁ h1 e => ?_) fun σ₁ h1 e => ?_
  · exact ht.run A env Z ρ σ η s c _ _ h1 _ _ fun Z₁ ρ₁ s₁ i₁ y₁ => hu.run A env Z₁ ρ₁ σ₁ η s₁ (c.next i₁ y₁) _ _ e _ _ (p.pass y₁)
  · exact ht.run A env Z ρ σ η s c _ _ h1 _ _ fun Z₁ ρ₁ s₁ i₁ y₁ => p.of e _ _ _ i₁ y₁
theorem a_consO {x : Expr} {es : List Expr} {t u : MT} (ht : SimT X k sc vis x t) (hu : SimAll X k sc vis .Or es u) : SimAll X k sc vis .Or (x :: es) (tOr t u) := by
  refine ⟨?_⟩
  intro A env Z ρ σ η s c b σ' e Q E p
  refine wpAny_allTrue_Or_cons ?_
  refine oT_inv e (fun σ₁ h1 e => ?_) fun σ₁ h1 e => ?_
  · exact ht.run A env Z ρ σ η s c _ _ h1 _ _ fun Z₁ ρ₁ s₁ i₁ y₁ => p.of e _ _ _ i₁ y₁
  · exact ht.run A env Z ρ σ η s c _ _ h1 _ _ fun Z₁ ρ₁ s₁ i₁ y₁ => hu.run A env Z₁ ρ₁ σ₁ η s₁ (c.next i₁ y₁) _ _ e _ _ (p.pass y₁)
theorem s_ite {t b o : Expr} {pos} {mt : MT} {m n : ME} (ht : SimT X k sc vis t mt) (hb : SimX X k sc vis b m) (ho : SimX X k sc vis o n) : SimX X k sc vis (.IfExp t b o pos) (mIte mt m n) := by
  refine ⟨?_⟩
  intro A env Z ρ σ η s c av σ' e Q E p
  refine wpAny_IfExp ?_
  refine oT_inv e (fun σ₁ h1 e => ?_) fun σ₁ h1 e => ?_
  · exact ht.run A env Z ρ σ η s c _ _ h1 _ _ fun Z₁ ρ₁ s₁ i₁ y₁ => hb.run A env Z₁ ρ₁ σ₁ η s₁ (c.next i₁ y₁) _ _ e _ _ (p.pass y₁)
  · exact ht.run A env Z ρ σ η s c _ _ h1 _ _ fun Z₁ ρ₁ s₁ i₁ y₁ => ho.run A env Z₁ ρ₁ σ₁ η s₁ (c.next i₁ y₁) _ _ e _ _ (p.pass y₁)

noncomputable def mNeg (m : ME) : ME := fun η σ => oB (m η σ) fun a σ => asI a fun i => some (.int (-i), σ)
theorem s_neg {x : Expr} {pos} {m : ME} (h : SimX X k sc vis x m) : SimX X k sc vis (.UnaryOp .USub x pos) (mNeg m) := by
  refine ⟨?_⟩
  intro A env Z ρ σ η s c av σ' e Q E p
  refine oB_inv e fun a σ₁ h1 e => ?_
  refine wpAny_UnaryOp (h.run A env Z ρ σ η s c _ _ h1 _ _ fun Z₁ ρ₁ v₁ s₁ i₁ y₁ r₁ => ?_)
  refine asI_inv e r₁ fun i t e => ?_
  exact PyProof.Rows.neg_int (((p.of e).pass y₁).tok i₁ (vrel_int ..) _)
noncomputable def lNil : ML := fun _ σ => some ([], σ)
noncomputable def lCons (m : ME) (r : ML) : ML := fun η σ => oB (m η σ) fun a σ => oB (r η σ) fun l σ => some (a :: l, σ)
theorem l_nil : SimL X k sc vis [] lNil := by
  refine ⟨?_⟩
  intro A env Z ρ σ η s pos c l σ' e Q E p
  replace p := p.of e
  exact wpAny_items_nil (p _ _ _ _ c.c.inv (Ext.refl ..) (VRels.nil_iff.mpr rfl))
theorem l_cons {x : Expr} {es : List Expr} {m : ME} {r : ML} (hx : SimX X k sc vis x m) (hr : SimL X k sc vis es r) (he : ∀ env, starEach (x :: es) env = (false, eval x env) :: starEach es env := by intro _; rfl) :
    SimL X k sc vis (x :: es) (lCons m r) := by
  refine ⟨?_⟩
  intro A env Z ρ σ η s pos c l σ' e Q E p
  refine oB_inv e fun a σ₁ h1 e => ?_
  refine oB_inv e fun l' σ₂ h2 e => ?_
  replace p := p.of e
  refine wpAny_items_cons (hx.run A env Z ρ σ η s c _ _ h1 _ _ fun Z₁ ρ₁ v₁ s₁ i₁ y₁ r₁ => hr.run A env Z₁ ρ₁ σ₁ η s₁ pos (c.next i₁ y₁) _ _ h2 _ _ fun Z₂ ρ₂ vs₂ s₂ i₂ y₂ r₂ => ?_) (he env)
  exact p _ _ _ _ i₂ (y₁.trans y₂) (VRels.cons (r₁.ext y₂) r₂)
noncomputable def mTup (r : ML) : ME := fun η σ => oB (r η σ) fun l σ => vtup l σ
noncomputable def mList (r : ML) : ME := fun η σ => oB (r η σ) fun l σ => vlist l σ
theorem s_tup {es : List Expr} {kd pos} {r : ML} (h : SimL X k sc vis es r) : SimX X k sc vis (.Tuple es kd pos) (mTup r) := by
  refine ⟨?_⟩
  intro A env Z ρ σ η s c av σ' e Q E p
  refine oB_inv e fun l σ₁ h1 e => ?_
  refine ifN e fun hz e => ?_
  replace p := p.of e
  refine wpAny_Tuple (h.run A env Z ρ σ η s _ c _ _ h1 _ _ fun Z₁ ρ₁ vs₁ s₁ i₁ y₁ r₁ => ⟨?_, ?_⟩)
  · rw [← r₁.length]; exact okS_le hz
  · exact (p.pass y₁).newTup i₁ r₁ (tk := s₁.toks)
theorem s_list {es : List Expr} {pos} {r : ML} (h : SimL X k sc vis es r) : SimX X k sc vis (.List es pos) (mList r) := by
  refine ⟨?_⟩
  intro A env Z ρ σ η s c av σ' e Q E p
  refine oB_inv e fun l σ₁ h1 e => ?_
  refine ifN e fun hz e => ?_
  replace p := p.of e
  refine wpAny_List (h.run A env Z ρ σ η s _ c _ _ h1 _ _ fun Z₁ ρ₁ vs₁ s₁ i₁ y₁ r₁ => ⟨?_, ?_⟩)
  · rw [← r₁.length]; exact okS_le hz
  · exact (p.pass y₁).newList i₁ r₁ (tk := s₁.toks)

noncomputable def mIdx (m n : ME) : ME := fun η σ => oB (m η σ) fun a σ => oB (n η σ) fun b σ => opItem a b σ
theorem subscripted_ops (slice : Expr) (o i : Value) : ∃ ops, subscripted slice false o i = operate ops (getItem o i) := by
  cases slice with
  | Slice lo hi st pos => cases st <;> exact ⟨_, rfl⟩
  | _ => exact ⟨_, rfl⟩
theorem s_idx {v i : Expr} {pos} {m n : ME} (hv : SimX X k sc vis v m) (hi : SimX X k sc vis i n) : SimX X k sc vis (.Subscript v i pos) (mIdx m n) := by
  refine ⟨?_⟩
  intro A env Z ρ σ η s c av σ' e Q E p
  refine oB_inv e fun a σ₁ h1 e => ?_
  refine oB_inv e fun b σ₂ h2 e => ?_
  refine PyProof.Rows.Subscript_ (hv.run A env Z ρ σ η s c _ _ h1 _ _ fun Z₁ ρ₁ v₁ s₁ i₁ y₁ r₁ => hi.run A env Z₁ ρ₁ σ₁ η s₁ (c.next i₁ y₁) _ _ h2 _ _ fun Z₂ ρ₂ v₂ s₂ i₂ y₂ r₂ => ?_)
  obtain ⟨⟨T, id, hT, hl⟩, hw⟩ := opItem_ok ((c.next i₁ y₁).next i₂ y₂).c (r₁.ext y₂) r₂ _ _ e
  obtain ⟨ops, ho⟩ := subscripted_ops i v₁ v₂
  exact PyProof.Rows.tail_any hT hl (hw _ _ ((p.pass y₁).pass y₂)) ho

structure SimO (X : Cx) (k : Nat) (sc : Scope) (vis : List (Str × Nat)) (e : Option Expr) (m : ME) : Prop where
  run : ∀ A env Z ρ σ η s, EC X k sc vis A env Z ρ σ η s → ∀ av σ', m η σ = some (av, σ') → ∀ Q E, Post X Z ρ s av σ' Q → wpAny (model X.prog X.w) A (evalPart e env) Q E s
theorem o_none : SimO X k sc vis none (mK .none) := by
  refine ⟨?_⟩
  intro A env Z ρ σ η s c av σ' e Q E p
  replace p := p.of e
  exact wpAny_evalPart_none (p.here c.c.inv vrel_none)
theorem o_some {x : Expr} {m : ME} (h : SimX X k sc vis x m) : SimO X k sc vis (some x) m := by
  refine ⟨?_⟩
  intro A env Z ρ σ η s c av σ' e Q E p
  exact wpAny_evalPart_some (h.run A env Z ρ σ η s c _ _ e _ _ p)
noncomputable def mSlc (m lo hi st : ME) : ME := fun η σ => oB (m η σ) fun a σ => oB (lo η σ) fun l σ => oB (hi η σ) fun h σ => oB (st η σ) fun t σ => opSlice a l h t σ
theorem s_slc {v : Expr} {lo hi st : Option Expr} {pos pos'} {m ml mh ms : ME} (hv : SimX X k sc vis v m) (hlo : SimO X k sc vis lo ml) (hhi : SimO X k sc vis hi mh) (hst : SimO X k sc vis st ms) :
    SimX X k sc vis (.Subscript v (.Slice lo hi st pos') pos) (mSlc m ml mh ms) := by
  refine ⟨?_⟩
  intro A env Z ρ σ η s c av σ' e Q E p
  refine oB_inv e fun a σ₁ h1 e => ?_
  refine oB_inv e fun l σ₂ h2 e => ?_
  refine oB_inv e fun h σ₃ h3 e => ?_
  refine oB_inv e fun t σ₄ h4 e => ?_
  refine PyProof.Rows.Subscript_ (hv.run A env Z ρ σ η s c _ _ h1 _ _ fun Z₁ ρ₁ v₁ s₁ i₁ y₁ r₁ => wpAny_Slice (hlo.run A env Z₁ ρ₁ σ₁ η s₁ (c.next i₁ y₁) _ _ h2 _ _ fun Z₂ ρ₂ v₂ s₂ i₂ y₂ r₂ =>
    hhi.run A env Z₂ ρ₂ σ₂ η s₂ ((c.next i₁ y₁).next i₂ y₂) _ _ h3 _ _ fun Z₃ ρ₃ v₃ s₃ i₃ y₃ r₃ => hst.run A env Z₃ ρ₃ σ₃ η s₃ (((c.next i₁ y₁).next i₂ y₂).next i₃ y₃) _ _ h4 _ _ fun Z₄ ρ₄ v₄ s₄ i₄ y₄ r₄ => ?_))
  have c4 := (((c.next i₁ y₁).next i₂ y₂).next i₃ y₃).next i₄ y₄
  have hk : ∀ b o, s₄.heap.get? b = some o → (s₄.heap.push { cls := .type "slice", data := .fields #[v₂, v₃, v₄] }).get? b = some o := fun b o e => Heap.get?_push_of_some _ e
  have i5 := i₄.grow (P := fun _ => False) (tk := s₄.toks) hk (fun a f => f.elim)
  have y5 := Ext.grow (Z := Z₄) (ρ := ρ₄) (s := s₄) (P := fun _ => False) (tk := s₄.toks) hk (fun a f => f.elim)
  have c5 := c4.next i5 y5
  obtain ⟨⟨T, id, hT, hl⟩, hw⟩ := opSlice_ok c5.c (((((r₁.ext y₂).ext y₃).ext y₄)).ext y5) (((r₂.ext y₃).ext y₄).ext y5) ((r₃.ext y₄).ext y5) (r₄.ext y5) (sl := s₄.heap.objs.size) ⟨_, Heap.get?_push_size _ rfl, rfl, rfl⟩ _ _ e
  obtain ⟨ops, ho⟩ := subscripted_ops (.Slice lo hi st pos') v₁ (.ref s₄.heap.objs.size)
  exact PyProof.Rows.tail_any hT hl (hw _ _ (((((p.pass y₁).pass y₂).pass y₃).pass y₄).pass y5)) ho
end
end Mine
end
section
open PySem PySem.W PyProof.Rows
set_option maxRecDepth 100000
set_option linter.unusedVariables false
namespace Mine
open SeqAt

abbrev Binder := Eta → St → Option (Eta × St)

noncomputable def Free (X : Cx) (Z : Addr → Prop) (ρ : List Addr) (a : Addr) : Prop := ¬ Z a ∧ a ∉ ρ ∧ X.H₀.get? a = none

theorem Inv.turn {X : Cx} {Z ρ σ s} (i : Inv X Z ρ σ s) {h' : Heap} {tk : Nat} {a : Addr} (hs : Heap.SameBut a s.heap h') (hf : Free X Z ρ a) (ha : s.heap.get? a ≠ none → h'.get? a ≠ none) : Inv X Z ρ σ { s with heap := h', toks := tk } where
  base := fun b o e => (hs.2 b (fun q => by rw [q, hf.2.2] at e; cases e)).trans (i.base b o e)
  fr := fun b f => by
    obtain ⟨o, e⟩ := i.fr b f
    exact ⟨o, (hs.2 b (fun q => hf.1 (q ▸ f))).trans e⟩
  len := i.len
  nd := i.nd
  old := fun b m => by
    obtain ⟨⟨o, e⟩, r⟩ := i.old b m
    exact ⟨⟨o, (hs.2 b (fun q => hf.2.1 (q ▸ m))).trans e⟩, r⟩
  cells := fun n b c h1 h2 => (i.cells n b c h1 h2).mono (fun d o f e => (hs.2 d (fun q => hf.1 (q ▸ f))).trans e) (fun _ f => f) List.prefix_rfl
    (fun o e => (hs.2 b (fun q => hf.2.1 (q ▸ List.mem_of_getElem? h1))).trans e) id

theorem Ext.turn {X : Cx} {Z ρ s} {T : Addr → Prop} {h' : Heap} {tk : Nat} {a : Addr} (hs : Heap.SameBut a s.heap h') (hf : Free X Z ρ a) (ha : s.heap.get? a ≠ none → h'.get? a ≠ none) (ht : T a) (hfc : FCls s.heap a → FCls h' a) :
    Ext T Z ρ s Z ρ { s with heap := h', toks := tk } where
  keep := fun b o e nt _ => .inl ((hs.2 b (fun q => nt (q ▸ ht))).trans e)
  fkeep := fun b o f e => (hs.2 b (fun q => hf.1 (q ▸ f))).trans e
  fmono := fun _ f => f
  fnew := fun _ f => .inl f
  rho := List.prefix_rfl
  rnew := fun _ m => .inl m
  alive := fun b o e => by
    by_cases q : b = a
    · subst q
      have := ha (by rw [e]; exact fun q => nomatch q)
      show ∃ o', h'.get? b = some o'
      cases q2 : h'.get? b with
      | none => exact absurd q2 this
      | some o' => exact ⟨o', rfl⟩
    · exact ⟨o, (hs.2 b q).trans e⟩
  frm := fun b f => by
    by_cases q : b = a
    · subst q; exact hfc f
    · exact f.kept fun o e => (hs.2 b q).trans e
  gens := rfl
  os := rfl
  drawn := rfl

noncomputable def PostA (X : Cx) (T : Addr → Prop) (Z : Addr → Prop) (ρ : List Addr) (s : Shared) (env : Env) (vis : List (Str × Nat)) (η' : Eta) (σ' : St) (Q : Shared → Prop) : Prop :=
  ∀ Z' ρ' s', Inv X Z' ρ' σ' s' → Ext T Z ρ s Z' ρ' s' → EnvRel X Z' ρ' s'.heap env vis η' → Q s'

structure SimA (X : Cx) (k : Nat) (sc : Scope) (vis : List (Str × Nat)) (t : Expr) (m : AV → Binder) : Prop where
  run : ∀ A env Z ρ σ η s, EC X k sc vis A env Z ρ σ η s → ∀ av v, VRel X ρ Z s.heap av v → ∀ η' σ', m av η σ = some (η', σ') → ∀ Q E, PostA X (Tur vis env) Z ρ s env vis η' σ' Q → wpAny (model X.prog X.w) A (assign t env v) (fun _ s' => Q s') E s

noncomputable def aV (i : Nat) (av : AV) : Binder := fun η σ => if i < η.length then some (η.set i av, σ) else none

section
variable {X : Cx} {k : Nat} {sc : Scope} {vis : List (Str × Nat)} {A : Around} {env : Env} {Z : Addr → Prop} {ρ : List Addr} {σ : St} {η : Eta} {s : Shared}

theorem PostA.of {T : Addr → Prop} {η η' : Eta} {σ σ' : St} {Q} (p : PostA X T Z ρ s env vis η σ Q) (e : some (η', σ') = some (η, σ)) : PostA X T Z ρ s env vis η' σ' Q := by
  have h := Option.some.inj e
  rw [show η = η' from congrArg Prod.fst h.symm, show σ = σ' from congrArg Prod.snd h.symm] at p; exact p
theorem locals_free (e : EnvRel X Z ρ s.heap env vis η) : Free X Z ρ env.locals := e.own
theorem cell_free (e : EnvRel X Z ρ s.heap env vis η) {n : Str} {c : Addr} (h : (n, c) ∈ env.cells) : Free X Z ρ c := ⟨(e.ownc n c h).1, (e.ownc n c h).2.1, (e.ownc n c h).2.2.1⟩

theorem not_cell {h : Heap} {a : Addr} (f : FCls h a) {w : Option Value} : ¬ h.IsCell a w := by
  rintro ⟨o, ho, hd⟩
  obtain ⟨o', es, ep, e, _, hd'⟩ := f
  rw [ho] at e; cases e
  rw [hd] at hd'; cases hd'

theorem nsSetC {M : Model} {A : Around} {E : Value → Shared → Prop} {s : Shared} {a : Addr} {m : Str → Option Value} {name : Str} {v : Value} {Q : Unit → Shared → Prop} (hn : s.heap.Ns a m)
    (h : ∀ h', h'.Ns a (fun x => if x = name then some v else m x) → Heap.SameBut a s.heap h' → (FCls s.heap a → FCls h' a) → Q () { s with heap := h', toks := s.toks + 1 }) : wpAny M A (nsSet a name v) Q E s := by
  intro Γ p hp
  have h1 : Sem.wp M Γ (nsSet a name v) (fun _ _ s' => s'.heap.Ns a (fun x => if x = name then some v else m x) ∧ Heap.SameBut a s.heap s'.heap ∧ s' = { s with heap := s'.heap, toks := s.toks + 1 }) (fun x _ s => E x s) p s :=
    Sem.wp_nsSet M Γ _ p s hn name v _ fun h' x y => ⟨x, y, rfl⟩
  obtain ⟨o, es, ep, ho, hd, hk, hm⟩ := id hn
  have hany : es.any (·.refKey) = false := by
    rw [Array.any_eq_false']
    intro e he
    obtain ⟨n, t, h⟩ := hk e he
    simp [DictEntry.refKey, h]
  simp only [nsSet, strHash, Sem.wp_bind', Sem.wp_cmd_ask, Sem.wp_pure', Sem.wp_cmd_mkText] at h1 ⊢
  rw [Sem.wp_loadPart_of M Γ _ p { s with toks := s.toks + 1 } (o := o) _ ho] at h1 ⊢
  simp only [hd, aRefKeyMayBeTheName_eq, aRefKeyMayBeTheNameByArray, hany, Bool.and_false, Bool.false_eq_true, if_false, Sem.wp_cmd_updatePart] at h1 ⊢
  obtain ⟨h2, h3, h4, _⟩ := h1
  refine ⟨h2, h _ h3 h4 fun f => ?_⟩
  obtain ⟨o', es', ep', e', hc, hd'⟩ := f
  rw [ho] at e'; cases e'
  obtain ⟨c, d, dt, sl⟩ := o
  subst hd
  cases hi : es.findIdx? (·.key.isStr name) with
  | some i => exact ⟨_, _, _, Heap.get?_update_self _ ho (by simp only [Obj.putName_eq, Obj.putNameByArray, hi]; rfl), by simp only [Obj.putName_eq, Obj.putNameByArray, hi]; exact hc, by simp only [Obj.putName_eq, Obj.putNameByArray, hi]; rfl⟩
  | none => exact ⟨_, _, _, Heap.get?_update_self _ ho (by simp only [Obj.putName_eq, Obj.putNameByArray, hi]; rfl), by simp only [Obj.putName_eq, Obj.putNameByArray, hi]; exact hc, by simp only [Obj.putName_eq, Obj.putNameByArray, hi]; rfl⟩
theorem storeName_localC {M : Model} {A : Around} {E : Value → Shared → Prop} {s : Shared} {env : Env} {name : Str} {m : Str → Option Value} {v : Value} {Q : Unit → Shared → Prop} (hl : env.kindOf name = some .local) (hn : s.heap.Ns env.locals m)
    (h : ∀ h', h'.Ns env.locals (fun x => if x = name then some v else m x) → Heap.SameBut env.locals s.heap h' → (FCls s.heap env.locals → FCls h' env.locals) → Q () { s with heap := h', toks := s.toks + 1 })
    (hp : (env.scope.kind == .class || (env.scope.kind == .module && env.locals != env.globals)) = false := by rfl) : wpAny M A (storeName env name v) Q E s := by
  rw [storeName_local hl hp]; exact nsSetC hn h

noncomputable def visOk (vis : List (Str × Nat)) : Bool := vis.all fun p => vis.all fun q => p.2 != q.2 || p.1 == q.1
theorem visOk_inj (h : visOk vis = true) {x y : Str} {i : Nat} (hx : vis.lookup x = some i) (hy : vis.lookup y = some i) : x = y := by
  have h1 := List.all_eq_true.mp (List.all_eq_true.mp h _ (mem_of_lookup hx)) _ (mem_of_lookup hy)
  simpa using h1

theorem EnvRel.setLocal (e : EnvRel X Z ρ s.heap env vis η) (ok : visOk vis = true) {x : Str} {i : Nat} {av : AV} {v : Value} {m : Str → Option Value} {h' : Heap} (hv : vis.lookup x = some i) (hk : env.kindOf x = some .local) (hl : i < η.length)
    (hm : ∀ x i av, vis.lookup x = some i → env.kindOf x = some .local → η[i]? = some av → (av = .unbound ∨ ∃ v, m x = some v ∧ VRel X ρ Z s.heap av v))
    (hn' : h'.Ns env.locals (fun y => if y = x then some v else m y)) (hs : Heap.SameBut env.locals s.heap h') (r : VRel X ρ Z s.heap av v) : EnvRel X Z ρ h' env vis (η.set i av) := by
  have kz : Kept Z s.heap h' := fun b o f q => (hs.2 b (fun w => e.own.1 (w ▸ f))).trans q
  have mv : ∀ {a : AV} {w : Value}, VRel X ρ Z s.heap a w → VRel X ρ Z h' a w := fun r => r.mono kz (fun _ f => f) List.prefix_rfl
  refine ⟨e.kind, e.glob, e.bltn, ⟨_, hn', fun y j a h1 h2 h3 => ?_⟩, fun y j h1 h2 => ?_, e.own, fun n c hc => ?_, e.apart⟩
  · by_cases hij : j = i
    · subst hij
      have : y = x := visOk_inj ok h1 hv
      subst this
      rw [List.getElem?_set_self hl] at h3
      cases h3
      exact .inr ⟨v, by simp, mv r⟩
    · rw [List.getElem?_set_ne (Ne.symm hij)] at h3
      have hyx : y ≠ x := fun q => hij (by rw [q, hv] at h1; cases h1; rfl)
      exact (hm y j a h1 h2 h3).imp id fun h => h.imp fun w z => ⟨by simp [hyx, z.1], mv z.2⟩
  · obtain ⟨c, w, hc, hw, hcv⟩ := e.cel y j h1 h2
    have hne := (e.ownc y c (mem_of_lookup hc)).2.2.2.1
    refine ⟨c, w, hc, hw.sameBut hs hne, fun a h3 => ?_⟩
    have hij : j ≠ i := fun q => by
      subst q
      have := visOk_inj ok h1 hv
      subst this
      rw [hk] at h2
      rcases h2 with q | q <;> cases q
    rw [List.getElem?_set_ne (Ne.symm hij)] at h3
    exact (hcv a h3).imp id fun h => h.imp fun w' z => ⟨z.1, mv z.2⟩
  · obtain ⟨a1, a2, a3, a4, w, a5⟩ := e.ownc n c hc
    exact ⟨a1, a2, a3, a4, w, a5.sameBut hs a4⟩

theorem EnvRel.setCell (e : EnvRel X Z ρ s.heap env vis η) (ok : visOk vis = true) {x : Str} {i : Nat} {av : AV} {v : Value} {c : Addr} {h' : Heap} (hv : vis.lookup x = some i) (hk : env.kindOf x = some .cell ∨ env.kindOf x = some .free) (hl : i < η.length)
    (hc : env.cells.lookup x = some c) (hn' : h'.IsCell c (some v)) (hs : Heap.SameBut c s.heap h') (r : VRel X ρ Z s.heap av v) : EnvRel X Z ρ h' env vis (η.set i av) := by
  have own := e.ownc x c (mem_of_lookup hc)
  have kz : Kept Z s.heap h' := fun b o f q => (hs.2 b (fun w => own.1 (w ▸ f))).trans q
  have mv : ∀ {a : AV} {w : Value}, VRel X ρ Z s.heap a w → VRel X ρ Z h' a w := fun r => r.mono kz (fun _ f => f) List.prefix_rfl
  obtain ⟨m, hn, hm⟩ := e.ns
  refine ⟨e.kind, e.glob, e.bltn, ⟨m, hn.sameBut hs own.2.2.2.1.symm, fun y j a h1 h2 h3 => ?_⟩, fun y j h1 h2 => ?_, e.own, fun n d hd => ?_, e.apart⟩
  · have hij : j ≠ i := fun q => by
      subst q
      have := visOk_inj ok h1 hv
      subst this
      rw [h2] at hk
      rcases hk with q | q <;> cases q
    rw [List.getElem?_set_ne (Ne.symm hij)] at h3
    exact (hm y j a h1 h2 h3).imp id fun h => h.imp fun w z => ⟨z.1, mv z.2⟩
  · obtain ⟨d, w, hd, hw, hcv⟩ := e.cel y j h1 h2
    by_cases hij : j = i
    · subst hij
      have : y = x := visOk_inj ok h1 hv
      subst this
      rw [hc] at hd; cases hd
      refine ⟨c, _, hc, hn', fun a h3 => ?_⟩
      rw [List.getElem?_set_self hl] at h3
      cases h3
      exact .inr ⟨v, rfl, mv r⟩
    · have hyx : y ≠ x := fun q => hij (by rw [q, hv] at h1; cases h1; rfl)
      have hdc : d ≠ c := fun q => hyx (name_of_addr e.apart (mem_of_lookup hd) (q ▸ mem_of_lookup hc))
      refine ⟨d, w, hd, hw.sameBut hs hdc, fun a h3 => ?_⟩
      rw [List.getElem?_set_ne (Ne.symm hij)] at h3
      exact (hcv a h3).imp id fun h => h.imp fun w' z => ⟨z.1, mv z.2⟩
  · obtain ⟨a1, a2, a3, a4, w, a5⟩ := e.ownc n d hd
    by_cases hdc : d = c
    · subst hdc; exact ⟨a1, a2, a3, a4, _, hn'⟩
    · exact ⟨a1, a2, a3, a4, w, a5.sameBut hs hdc⟩

theorem a_loc (x : Str) (pos) (i : Nat) (ok : visOk vis = true := by decide +kernel) (hv : vis.lookup x = some i := by decide +kernel) (hk : sc.names.lookup x = some .local := by decide +kernel) :
    SimA X k sc vis (.Name x pos) (aV i) := by
  refine ⟨?_⟩
  intro A env Z ρ σ η s c av v r η' σ' e Q E p
  refine ifN e fun hl e => ?_
  replace p := p.of e
  have hk' : env.kindOf x = some .local := by unfold Env.kindOf; rw [c.sc]; exact hk
  obtain ⟨m, hn, hm⟩ := c.e.ns
  refine wpAny_assign_Name (storeName_localC hk' hn (fun h' hn' hs hfc => ?_) (by rw [c.e.kind]; rfl))
  have al : s.heap.get? env.locals ≠ none → h'.get? env.locals ≠ none := fun _ => ns_there hn'
  exact p _ _ _ (c.c.inv.turn hs (locals_free c.e) al) (Ext.turn hs (locals_free c.e) al (.inl rfl) hfc) (c.e.setLocal ok hv hk' hl hm hn' hs r)
theorem a_cell (x : Str) (pos) (i : Nat) (ok : visOk vis = true := by decide +kernel) (hv : vis.lookup x = some i := by decide +kernel) (hk : sc.names.lookup x = some .cell := by decide +kernel) (h1 : own1 vis x = true := by decide +kernel) :
    SimA X k sc vis (.Name x pos) (aV i) := by
  refine ⟨?_⟩
  intro A env Z ρ σ η s c av v r η' σ' e Q E p
  refine ifN e fun hl e => ?_
  replace p := p.of e
  have hk' : env.kindOf x = some .cell := by unfold Env.kindOf; rw [c.sc]; exact hk
  obtain ⟨d, w, hd, hw, _⟩ := c.e.cel x i hv (.inl hk')
  refine wpAny_assign_Name (wpAny_storeName_cell c.e.kind hk' hd hw fun h' hn' hs => ?_)
  have al : s.heap.get? d ≠ none → h'.get? d ≠ none := fun _ => isCell_there hn'
  have hm := mem_of_lookup hd
  exact p _ _ _ (c.c.inv.turn hs (cell_free c.e hm) al) (Ext.turn hs (cell_free c.e hm) al (.inr ⟨_, hm, h1⟩) fun f => absurd hw (not_cell f)) (c.e.setCell ok hv (.inl hk') hl hd hn' hs r)

theorem EC.after {T Z' ρ' σ' η' s'} (c : EC X k sc vis A env Z ρ σ η s) (i : Inv X Z' ρ' σ' s') (y : Ext T Z ρ s Z' ρ' s') (e : EnvRel X Z' ρ' s'.heap env vis η')
    (hT : ∀ a, T a → Own env a ∨ ∀ m, ¬ s.heap.Ns a m) : EC X k sc vis A env Z' ρ' σ' η' s' := by
  refine ⟨⟨c.c.hnd, c.c.dep, c.c.uni, ?_, i⟩, c.sc, e, c.top⟩
  obtain ⟨fs, h1, h2⟩ := c.c.frs
  refine ⟨fs, h1, h2.ext y fun ev hev L hL ht => ?_⟩
  obtain ⟨_, L', hL', _, _, _, _, m, hn⟩ := h2.each ev hev
  rw [hL] at hL'; cases hL'
  rcases hT L ht with ho | hno
  · rcases ho with rfl | ⟨n, hm⟩
    · obtain ⟨m, hn, _⟩ := e.ns; exact ⟨m, hn⟩
    · exfalso
      obtain ⟨_, _, _, _, w, ⟨o, ho, hd⟩⟩ := c.e.ownc n L hm
      obtain ⟨o', es, ep, ho', hd', _⟩ := hn
      rw [ho] at ho'; cases ho'
      rw [hd] at hd'; cases hd'
  · exact absurd hn (hno m)
theorem EC.own {Z' ρ' σ' η' s'} (c : EC X k sc vis A env Z ρ σ η s) (i : Inv X Z' ρ' σ' s') (y : Ext (Tur vis env) Z ρ s Z' ρ' s') (e : EnvRel X Z' ρ' s'.heap env vis η') : EC X k sc vis A env Z' ρ' σ' η' s' :=
  c.after i y e fun a h => .inl h.own

theorem PostA.pass {T Z' ρ' s' η' σ' Q} (p : PostA X T Z ρ s env vis η' σ' Q) (y : Ext T Z ρ s Z' ρ' s') : PostA X T Z' ρ' s' env vis η' σ' Q :=
  fun Z'' ρ'' s'' i e r => p Z'' ρ'' s'' i (y.trans e) r

noncomputable def lN {α β : Type} (l : List α) (f : Option β) : Option β := match l with
  | [] => f
  | _ :: _ => none
noncomputable def lC {α β : Type} (l : List α) (f : α → List α → Option β) : Option β := match l with
  | [] => none
  | x :: xs => f x xs
theorem lN_inv {α β : Type} {r : β} {l : List α} {f : Option β} {P : Prop} (e : lN l f = some r) (k : l = [] → f = some r → P) : P := by
  cases l with
  | nil => exact k rfl e
  | cons => exact oN e
theorem lC_inv {α β : Type} {r : β} {l : List α} {f : α → List α → Option β} {P : List α → Prop} (e : lC l f = some r) (k : ∀ x xs, f x xs = some r → P (x :: xs)) : P l := by
  cases l with
  | nil => exact oN e
  | cons x xs => exact k x xs e
noncomputable def aNil : List AV → Binder := fun l η σ => lN l (some (η, σ))
noncomputable def aCons (m : AV → Binder) (r : List AV → Binder) : List AV → Binder := fun l η σ => lC l fun x xs => oB (m x η σ) fun η σ => r xs η σ
noncomputable def aTup (n : Nat) (r : List AV → Binder) : AV → Binder := fun av η σ => sel av none oNo oNo oNo oNo (fun l => if l.length = n then r l η σ else none) (fun l => if l.length = n then r l η σ else none)
structure SimAs (X : Cx) (k : Nat) (sc : Scope) (vis : List (Str × Nat)) (ts : List Expr) (m : List AV → Binder) : Prop where
  run : ∀ A env Z ρ σ η s, EC X k sc vis A env Z ρ σ η s → ∀ l vs, VRels X ρ Z s.heap l vs → ∀ η' σ', m l η σ = some (η', σ') → ∀ Q E, PostA X (Tur vis env) Z ρ s env vis η' σ' Q →
    wpAny (model X.prog X.w) A (assignInOrder ((assignEach ts env).map (·.2)) vs) (fun _ s' => Q s') E s
theorem as_nil : SimAs X k sc vis [] aNil := by
  refine ⟨?_⟩
  intro A env Z ρ σ η s c l vs r η' σ' e Q E p
  refine lN_inv e fun hl e => ?_
  rw [hl] at r
  rw [VRels.nil_iff.mp r]
  exact wpAny_pure (M := model X.prog X.w) (p.of e _ _ _ c.c.inv (Ext.refl ..) c.e)
theorem as_cons {t : Expr} {ts : List Expr} {m : AV → Binder} {r : List AV → Binder} (ht : SimA X k sc vis t m) (hr : SimAs X k sc vis ts r) (he : ∀ env, assignEach (t :: ts) env = (false, assign t env) :: assignEach ts env := by intro _; rfl) :
    SimAs X k sc vis (t :: ts) (aCons m r) := by
  refine ⟨?_⟩
  intro A env Z ρ σ η s c l vs rl η' σ' e Q E p
  refine lC_inv (P := fun l => VRels X ρ Z s.heap l vs → wpAny (model X.prog X.w) A (assignInOrder ((assignEach (t :: ts) env).map (·.2)) vs) (fun _ s' => Q s') E s) e (fun x xs e rl => ?_) rl
  refine oB_inv e fun η₁ σ₁ h1 e => ?_
  obtain ⟨v, us, q, rx, rs⟩ := VRels.cons_iff.mp rl
  rw [he, q]
  show wpAny _ _ (holding us (assign t env v) >>= fun _ => assignInOrder ((assignEach ts env).map (·.2)) us) _ _ _
  refine wpAny_bind (wpAny_holding (ht.run A env Z ρ σ η s c x v rx _ _ h1 _ _ fun Z₁ ρ₁ s₁ i₁ y₁ e₁ => ?_))
  exact hr.run A env Z₁ ρ₁ σ₁ η₁ s₁ (c.own i₁ y₁ e₁) xs us (rs.ext y₁) _ _ e _ _ (p.pass y₁)
theorem grow_of_extBut {h h' : Heap} (x : Heap.ExtBut h.objs.size h h') : ∀ b o, h.get? b = some o → h'.get? b = some o := fun b o e => x b o (fun q => by rw [q, none_size] at e; cases e) e

theorem a_tup {ts : List Expr} {kd pos} {n : Nat} {r : List AV → Binder} (hr : SimAs X k sc vis ts r) (hn : ∀ env, (assignEach ts env).length = n := by intro _; rfl) (hs : ∀ env, (assignEach ts env).findIdx? (·.1) = none := by intro _; rfl) :
    SimA X k sc vis (.Tuple ts kd pos) (aTup n r) := by
  refine ⟨?_⟩
  intro A env Z ρ σ η s c av v rv η' σ' e Q E p
  have go : ∀ l vs h', VRels X ρ Z s.heap l vs → (∀ b o, s.heap.get? b = some o → h'.get? b = some o) → r l η σ = some (η', σ') →
      wpAny (model X.prog X.w) A (assignInOrder ((assignEach ts env).map (·.2)) vs) (fun _ s' => Q s') E { s with heap := h' } := by
    intro l vs h' q hk e
    have i' := c.c.inv.grow (P := fun _ => False) (tk := s.toks) hk (fun a f => f.elim)
    have y := Ext.grow (Z := Z) (ρ := ρ) (s := s) (P := fun _ => False) (tk := s.toks) hk (fun a f => f.elim)
    exact hr.run A env _ ρ σ η _ (c.next i' y) l vs (q.ext y) _ _ e _ _ (p.pass (y.weaken fun _ f => f.elim))
  refine sel_inv e rv oN (fun _ => oN) (fun _ _ => oN) (fun _ _ => oN) (fun _ _ => oN) (fun l a vs _ pl q e => ?_) (fun l a vs _ pl q e => ?_)
  · refine ifN e fun hl e => ?_
    rw [PyProof.Rows.assign_Tuple]
    refine wpAny_bind (wpAny_standAt ?_)
    unfold unpack
    rw [hn, hs]
    refine wpAny_bind (wpAny_holding ?_)
    rw [← hl, q.length, ← List.size_toArray]
    exact W.kun_itemsOf c.c.hnd pl.isList fun h' hx => go l vs h' q (grow_of_extBut hx) e
  · refine ifN e fun hl e => ?_
    exact wpAny_assign_Tuple c.c.hnd pl.isTuple (by rw [hn, ← hl, q.length]; rfl) (hs env) fun h' hx => go l vs h' q (grow_of_extBut hx) e

inductive Out where
  | next | ret (v : AV) | exc (x : List Nat)
abbrev MS := Eta → St → Option (Out × Eta × St)

noncomputable def PostS (X : Cx) (Z : Addr → Prop) (ρ : List Addr) (s : Shared) (env : Env) (vis : List (Str × Nat)) (o : Out) (η' : Eta) (σ' : St) (Q : Flow → Shared → Prop) (E : Value → Shared → Prop) : Prop :=
  match o with
  | .next => ∀ Z' ρ' s', Inv X Z' ρ' σ' s' → Ext (Tur vis env) Z ρ s Z' ρ' s' → EnvRel X Z' ρ' s'.heap env vis η' → Q .next s'
  | .ret av => ∀ Z' ρ' v s', Inv X Z' ρ' σ' s' → Ext (Tur vis env) Z ρ s Z' ρ' s' → EnvRel X Z' ρ' s'.heap env vis η' → VRel X ρ' Z' s'.heap av v → Q (.ret v) s'
  | .exc x => ∀ Z' ρ' s' t, Inv X Z' ρ' σ' s' → Ext (Tur vis env) Z ρ s Z' ρ' s' → EnvRel X Z' ρ' s'.heap env vis η' → ∀ h' e, Heap.MadeExcOf s'.heap h' e (.ref X.exc) [.str (toStr x) t] → E (.ref e) { s' with heap := h' }

structure SimS (X : Cx) (k : Nat) (sc : Scope) (vis : List (Str × Nat)) (st : Stmt) (m : MS) : Prop where
  run : ∀ A env Z ρ σ η s, EC X k sc vis A env Z ρ σ η s → ∀ o η' σ', m η σ = some (o, η', σ') → ∀ Q E, PostS X Z ρ s env vis o η' σ' Q E → wpAny (model X.prog X.w) A (exec st env) Q E s
structure SimB (X : Cx) (k : Nat) (sc : Scope) (vis : List (Str × Nat)) (b : List Stmt) (m : MS) : Prop where
  run : ∀ A env Z ρ σ η s, EC X k sc vis A env Z ρ σ η s → ∀ o η' σ', m η σ = some (o, η', σ') → ∀ Q E, PostS X Z ρ s env vis o η' σ' Q E → wpAny (model X.prog X.w) A (execs b env) Q E s

theorem PostS.pass {o η' σ' Q E Z' ρ' s'} (p : PostS X Z ρ s env vis o η' σ' Q E) (y : Ext (Tur vis env) Z ρ s Z' ρ' s') : PostS X Z' ρ' s' env vis o η' σ' Q E := by
  cases o with
  | next => exact fun Z'' ρ'' s'' i e r => p Z'' ρ'' s'' i (y.trans e) r
  | ret av => exact fun Z'' ρ'' v s'' i e q r => p Z'' ρ'' v s'' i (y.trans e) q r
  | exc x => exact fun Z'' ρ'' s'' t i ex q => p Z'' ρ'' s'' t i (y.trans ex) q

theorem out_eq {o o' : Out} {η η' : Eta} {σ σ' : St} {P : Out → Eta → St → Prop} (e : some (o', η', σ') = some (o, η, σ)) (p : P o η σ) : P o' η' σ' := by
  have h := Option.some.inj e
  rw [show o' = o from congrArg Prod.fst h, show η' = η from congrArg (fun x => x.2.1) h, show σ' = σ from congrArg (fun x => x.2.2) h]; exact p
theorem PostS.of {o o' : Out} {η η' : Eta} {σ σ' : St} {Q E} (p : PostS X Z ρ s env vis o η σ Q E) (e : some (o', η', σ') = some (o, η, σ)) : PostS X Z ρ s env vis o' η' σ' Q E :=
  out_eq (P := fun o η σ => PostS X Z ρ s env vis o η σ Q E) e p
noncomputable def bNil : MS := fun η σ => some (.next, η, σ)
noncomputable def oS (x : Option (Out × Eta × St)) (r : MS) : Option (Out × Eta × St) := match x with
  | some (o, η, σ) => match o with
    | .next => r η σ
    | o => some (o, η, σ)
  | none => none
noncomputable def bCons (m r : MS) : MS := fun η σ => oS (m η σ) r
theorem b_nil : SimB X k sc vis [] bNil := by
  refine ⟨?_⟩
  intro A env Z ρ σ η s c o η' σ' e Q E p
  replace p := p.of e
  exact wpAny_execs_nil (p _ _ _ c.c.inv (Ext.refl ..) c.e)
theorem b_cons {st : Stmt} {b : List Stmt} {m r : MS} (hs : SimS X k sc vis st m) (hr : SimB X k sc vis b r) : SimB X k sc vis (st :: b) (bCons m r) := by
  refine ⟨?_⟩
  intro A env Z ρ σ η s c o η' σ' e Q E p
  refine wpAny_execs_cons ?_
  cases h1 : m η σ with
  | none => unfold bCons at e; rw [h1] at e; exact oN e
  | some w =>
    unfold bCons at e; rw [h1] at e
    obtain ⟨o₁, η₁, σ₁⟩ := w
    cases o₁ with
    | next => exact hs.run A env Z ρ σ η s c _ _ _ h1 _ _ fun Z₁ ρ₁ s₁ i₁ y₁ e₁ => hr.run A env Z₁ ρ₁ σ₁ η₁ s₁ (c.own i₁ y₁ e₁) _ _ _ e _ _ (p.pass y₁)
    | ret av => exact hs.run A env Z ρ σ η s c _ _ _ h1 _ _ (p.of e)
    | exc x => exact hs.run A env Z ρ σ η s c _ _ _ h1 _ _ (p.of e)

noncomputable def sRet (m : ME) : MS := fun η σ => oB (m η σ) fun a σ => some (.ret a, η, σ)
theorem st_ret {x : Expr} {pos} {m : ME} (h : SimX X k sc vis x m) : SimS X k sc vis (.Return (some x) pos) (sRet m) := by
  refine ⟨?_⟩
  intro A env Z ρ σ η s c o η' σ' e Q E p
  refine oB_inv e fun a σ₁ h1 e => ?_
  replace p := p.of e
  exact wpAny_Return_some (h.run A env Z ρ σ η s c _ _ h1 _ _ fun Z₁ ρ₁ v₁ s₁ i₁ y₁ r₁ => p _ _ _ _ i₁ (y₁.weaken fun _ f => f.elim) (c.e.ext y₁) r₁)
noncomputable def sIf (t : MT) (b o : MS) : MS := fun η σ => oT (t η σ) (fun σ => b η σ) (fun σ => o η σ)
theorem st_if {x : Expr} {b o : List Stmt} {pos} {t : MT} {mb mo : MS} (ht : SimT X k sc vis x t) (hb : SimB X k sc vis b mb) (ho : SimB X k sc vis o mo) : SimS X k sc vis (.If x b o pos) (sIf t mb mo) := by
  refine ⟨?_⟩
  intro A env Z ρ σ η s c o η' σ' e Q E p
  refine wpAny_If ?_
  refine oT_inv e (fun σ₁ h1 e => ?_) fun σ₁ h1 e => ?_
  · exact ht.run A env Z ρ σ η s c _ _ h1 _ _ fun Z₁ ρ₁ s₁ i₁ y₁ => hb.run A env Z₁ ρ₁ σ₁ η s₁ (c.next i₁ y₁) _ _ _ e _ _ (p.pass (y₁.weaken fun _ f => f.elim))
  · exact ht.run A env Z ρ σ η s c _ _ h1 _ _ fun Z₁ ρ₁ s₁ i₁ y₁ => ho.run A env Z₁ ρ₁ σ₁ η s₁ (c.next i₁ y₁) _ _ _ e _ _ (p.pass (y₁.weaken fun _ f => f.elim))

noncomputable def ByScope (sc : Scope) (P : Env → Prop) : Prop := ∀ env : Env, env.scope = sc → P env

noncomputable def sAsg (m : ME) (t : AV → Binder) : MS := fun η σ => oB (m η σ) fun a σ => oB (t a η σ) fun η σ => some (.next, η, σ)
theorem st_asg {x t : Expr} {pos} {m : ME} {b : AV → Binder} (hx : SimX X k sc vis x m) (ht : SimA X k sc vis t b) (hs : ByScope sc fun env => swapsWithSole [t] x pos.line env = pure false)
    (hw : ByScope sc fun env => swappedStores [t] x env = pure none) (he : ∀ env, assignEach [t] env = [(false, assign t env)] := by intro _; rfl) : SimS X k sc vis (.Assign [t] x pos) (sAsg m b) := by
  refine ⟨?_⟩
  intro A env Z ρ σ η s c o η' σ' e Q E p
  refine oB_inv e fun a σ₁ h1 e => ?_
  refine oB_inv e fun η₁ σ₂ h2 e => ?_
  replace p := p.of e
  refine wpAny_Assign_stores (hx.run A env Z ρ σ η s c _ _ h1 _ _ fun Z₁ ρ₁ v₁ s₁ i₁ y₁ r₁ => ?_) (hs env c.sc) (hw env c.sc)
  rw [he]
  show wpAny _ _ (assign t env v₁) _ _ _
  have y₁' : Ext (Tur vis env) Z ρ s Z₁ ρ₁ s₁ := y₁.weaken fun _ f => f.elim
  exact ht.run A env Z₁ ρ₁ σ₁ η s₁ (c.next i₁ y₁) a v₁ r₁ _ _ h2 _ _ fun Z₂ ρ₂ s₂ i₂ y₂ e₂ => p _ _ _ i₂ (y₁'.trans y₂) e₂

noncomputable def sExpr (m : ME) : MS := fun η σ => oB (m η σ) fun _ σ => some (.next, η, σ)
theorem st_expr {x : Expr} {pos} {m : ME} (hx : SimX X k sc vis x m) (hs : ByScope sc fun env => swapsWith x none pos.line env = pure false) : SimS X k sc vis (.Expr x pos) (sExpr m) := by
  refine ⟨?_⟩
  intro A env Z ρ σ η s c o η' σ' e Q E p
  refine oB_inv e fun a σ₁ h1 e => ?_
  replace p := p.of e
  refine wpAny_Expr_any (hx.run A env Z ρ σ η s c _ _ h1 _ _ fun Z₁ ρ₁ v₁ s₁ i₁ y₁ r₁ => ?_) ?_ (hs env c.sc)
  · exact p _ _ _ i₁ (y₁.weaken fun _ f => f.elim) (c.e.ext y₁)
  · unfold interactive; rw [c.e.kind]; rfl

noncomputable def sAugS (i : Nat) (m : ME) : MS := fun η σ => oB (mV i η σ) fun a σ => asS a fun x => oB (m η σ) fun b σ => asS b fun y => oB (vstr (x ++ y) σ) fun a σ => oB (aV i a η σ) fun η σ => some (.next, η, σ)
theorem st_augS {x : Str} {v : Expr} {pos pos'} {i : Nat} {m : ME} (hv : SimX X k sc vis v m) (ok : visOk vis = true := by decide +kernel) (hx : vis.lookup x = some i := by decide +kernel) (hk : sc.names.lookup x = some .local := by decide +kernel) :
    SimS X k sc vis (.AugAssign (.Name x pos') .Add v pos) (sAugS i m) := by
  refine ⟨?_⟩
  intro A env Z ρ σ η s c o η' σ' e Q E p
  refine oB_inv e fun a σ₁ h1 e => ?_
  obtain ⟨g1, g2, g3⟩ := mV_some h1
  rw [g3] at e
  have hk' : env.kindOf x = some .local := by unfold Env.kindOf; rw [c.sc]; exact hk
  obtain ⟨m₀, hn, hm⟩ := c.e.ns
  rcases hm x i _ hx hk' g1 with q | ⟨v₀, e₀, r₀⟩
  · exact absurd q g2
  refine asS_inv (P := fun v₀ => m₀ x = some v₀ → wpAny (model X.prog X.w) A (exec (.AugAssign (.Name x pos') .Add v pos) env) Q E s) e r₀ (fun x' t₀ e e₀ => ?_) e₀
  refine oB_inv e fun b σ₂ h2 e => ?_
  refine wpAny_AugAssign_Name (wpAny_loadName_local c.e.kind hk' hn e₀ (hv.run A env Z ρ σ η s c _ _ h2 _ _ fun Z₁ ρ₁ v₁ s₁ i₁ y₁ r₁ => ?_))
  refine asS_inv e r₁ fun y' t₁ e => oB_inv e fun a σ₃ h3 e => oB_inv e fun η₁ σ₄ h4 e => ?_
  refine ifN h3 fun hz h3 => ?_
  refine PyProof.Rows.iadd_str (fun t' tk => ?_) (by rw [toStr_length, toStr_length, ← List.length_append]; exact okS_le hz)
  have c₁ := c.next i₁ y₁
  obtain ⟨m₁, hn₁, hm₁⟩ := c₁.e.ns
  refine ifN h4 fun hl h4 => ?_
  refine storeName_localC hk' hn₁ (fun h' hn' hs hfc => ?_) (by rw [c.e.kind]; rfl)
  have al : s₁.heap.get? env.locals ≠ none → h'.get? env.locals ≠ none := fun _ => ns_there hn'
  have f4 := Option.some.inj h4
  have f3 := Option.some.inj h3
  replace p := p.of e
  rw [← show _ = η₁ from congrArg Prod.fst f4, ← show _ = σ₄ from congrArg Prod.snd f4, ← show _ = a from congrArg Prod.fst f3, ← show _ = σ₃ from congrArg Prod.snd f3] at p
  refine p _ _ _ (i₁.turn hs (locals_free c₁.e) al) ((y₁.weaken fun _ f => f.elim).trans (Ext.turn hs (locals_free c₁.e) al (.inl rfl) hfc)) (c₁.e.setLocal ok hx hk' hl hm₁ hn' hs ?_)
  exact vrel_str' (toStr_append ..) _
end
end Mine
end
section
open PySem PySem.W PyProof.Rows
set_option maxRecDepth 100000
set_option linter.unusedVariables false
namespace Mine
open SeqAt

section
variable {X : Cx} {k : Nat} {sc : Scope} {vis : List (Str × Nat)} {A : Around} {env : Env} {Z : Addr → Prop} {ρ : List Addr} {σ : St} {η : Eta} {s : Shared}

theorem EnvRel.extT {X : Cx} {T Z ρ s Z' ρ' s' env vis η} (x : EnvRel X Z ρ s.heap env vis η) (y : Ext T Z ρ s Z' ρ' s') (hT : ∀ a, T a → ¬ Own env a) : EnvRel X Z' ρ' s'.heap env vis η := by
  obtain ⟨m, hn, hv⟩ := x.ns
  have hL : s.heap.get? env.locals ≠ none := ns_there hn
  have k1 : ∀ o, s.heap.get? env.locals = some o → KeepO o (s'.heap.get? env.locals) := fun o e => y.keep _ o e (fun t => hT _ t (.inl rfl)) x.own.2.1
  refine ⟨x.kind, x.glob, x.bltn, ⟨m, ns_keepO k1 hn, fun n i av h1 h2 h3 => ?_⟩, ?_, ⟨?_, ?_, x.own.2.2⟩, ?_, x.apart⟩
  · exact (hv n i av h1 h2 h3).imp id fun h => h.imp fun v z => ⟨z.1, z.2.ext y⟩
  · intro n i h1 h2
    obtain ⟨c, w, hc, hw, hv⟩ := x.cel n i h1 h2
    have hm := mem_of_lookup hc
    exact ⟨c, w, hc, isCell_keepO (fun o e => y.keep _ o e (fun t => hT _ t (.inr ⟨_, hm⟩)) (x.ownc n c hm).2.1) hw, fun av e => (hv av e).imp id fun h => h.imp fun v z => ⟨z.1, z.2.ext y⟩⟩
  · intro f
    rcases y.fnew _ f with f | f | f
    · exact x.own.1 f
    · exact x.own.2.1 f
    · exact hL f
  · intro f
    rcases y.rnew _ f with f | f
    · exact x.own.2.1 f
    · exact hL f
  · intro n c hm
    obtain ⟨a1, a2, a3, a4, w, hw⟩ := x.ownc n c hm
    refine ⟨fun f => ?_, fun f => ?_, a3, a4, w, isCell_keepO (fun o e => y.keep _ o e (fun t => hT _ t (.inr ⟨_, hm⟩)) a2) hw⟩
    · rcases y.fnew _ f with f | f | f
      · exact a1 f
      · exact a2 f
      · exact isCell_there hw f
    · rcases y.rnew _ f with f | f
      · exact a2 f
      · exact isCell_there hw f

theorem Inv.touch {X : Cx} {Z ρ σ s} (i : Inv X Z ρ σ s) {h' : Heap} {tk : Nat} {W : Addr → Prop} (hs : ∀ b o, ¬ W b → s.heap.get? b = some o → h'.get? b = some o) (hf : ∀ a, W a → Free X Z ρ a) :
    Inv X Z ρ σ { s with heap := h', toks := tk } where
  base := fun b o e => hs b o (fun q => by have := (hf b q).2.2; rw [e] at this; cases this) (i.base b o e)
  fr := fun b f => by
    obtain ⟨o, e⟩ := i.fr b f
    exact ⟨o, hs b o (fun q => (hf b q).1 f) e⟩
  len := i.len
  nd := i.nd
  old := fun b m => by
    obtain ⟨⟨o, e⟩, r⟩ := i.old b m
    exact ⟨⟨o, hs b o (fun q => (hf b q).2.1 m) e⟩, r⟩
  cells := fun n b c h1 h2 => (i.cells n b c h1 h2).mono (fun d o f e => hs d o (fun q => (hf d q).1 f) e) (fun _ f => f) List.prefix_rfl
    (fun o e => hs b o (fun q => (hf b q).2.1 (List.mem_of_getElem? h1)) e) id
theorem Ext.touch {X : Cx} {Z ρ s} {T W : Addr → Prop} {h' : Heap} {tk : Nat} (hs : ∀ b o, ¬ W b → s.heap.get? b = some o → h'.get? b = some o) (hf : ∀ a, W a → Free X Z ρ a) (ha : ∀ a, W a → h'.get? a ≠ none) (ht : ∀ a, W a → T a) (hfc : ∀ a, W a → ¬ FCls s.heap a := by intro a f; exact f.elim) :
    Ext T Z ρ s Z ρ { s with heap := h', toks := tk } where
  keep := fun b o e nt _ => .inl (hs b o (fun q => nt (ht b q)) e)
  fkeep := fun b o f e => hs b o (fun q => (hf b q).1 f) e
  fmono := fun _ f => f
  fnew := fun _ f => .inl f
  rho := List.prefix_rfl
  rnew := fun _ m => .inl m
  alive := fun b o e => by
    by_cases q : W b
    · have := ha b q
      show ∃ o', h'.get? b = some o'
      cases q2 : h'.get? b with
      | none => exact absurd q2 this
      | some o' => exact ⟨o', rfl⟩
    · exact ⟨o, hs b o q e⟩
  frm := fun b f => f.kept fun o e => hs b o (fun q => hfc b q f) e
  gens := rfl
  os := rfl
  drawn := rfl

theorem EnvRel.touchW {X : Cx} {Z ρ env vis η} {h h' : Heap} {W : Addr → Prop} (x : EnvRel X Z ρ h env vis η) (hk : ∀ b o, ¬ W b → h.get? b = some o → h'.get? b = some o) (hf : ∀ a, W a → Free X Z ρ a ∧ ¬ Own env a) : EnvRel X Z ρ h' env vis η := by
  have kz : Kept Z h h' := fun b o f q => hk b o (fun w => (hf b w).1.1 f) q
  have mv : ∀ {a : AV} {w : Value}, VRel X ρ Z h a w → VRel X ρ Z h' a w := fun r => r.mono kz (fun _ f => f) List.prefix_rfl
  obtain ⟨m, hn, hv⟩ := x.ns
  refine ⟨x.kind, x.glob, x.bltn, ⟨m, ns_keepO (fun o e => .inl (hk _ o (fun w => (hf _ w).2 (.inl rfl)) e)) hn, fun n i av h1 h2 h3 => (hv n i av h1 h2 h3).imp id fun h => h.imp fun v z => ⟨z.1, mv z.2⟩⟩, fun n i h1 h2 => ?_, x.own, fun n c hm => ?_, x.apart⟩
  · obtain ⟨c, w, hc, hw, hv⟩ := x.cel n i h1 h2
    have hm := mem_of_lookup hc
    exact ⟨c, w, hc, isCell_keepO (fun o e => .inl (hk _ o (fun w => (hf _ w).2 (.inr ⟨_, hm⟩)) e)) hw, fun av e => (hv av e).imp id fun h => h.imp fun v z => ⟨z.1, mv z.2⟩⟩
  · obtain ⟨a1, a2, a3, a4, w, hw⟩ := x.ownc n c hm
    exact ⟨a1, a2, a3, a4, w, isCell_keepO (fun o e => .inl (hk _ o (fun w => (hf _ w).2 (.inr ⟨_, hm⟩)) e)) hw⟩
theorem Ext.last {X : Cx} {T W : Addr → Prop} {Z ρ s₀ Z₁ ρ₁ s₁} {h' : Heap} {tk : Nat} (y : Ext (fun a => T a ∨ W a) Z ρ s₀ Z₁ ρ₁ s₁) (hk : ∀ b o, ¬ W b → s₁.heap.get? b = some o → h'.get? b = some o)
    (hw : ∀ a, W a → s₀.heap.get? a = none) : Ext T Z ρ s₀ Z₁ ρ₁ { s₁ with heap := h', toks := tk } where
  keep := fun a o e nt nr => by
    have na : ¬ W a := fun w => by rw [hw a w] at e; cases e
    rcases y.keep a o e (fun t => t.elim nt na) nr with e' | ⟨hc, sl, e'⟩
    · exact .inl (hk a _ na e')
    · exact .inr ⟨hc, sl, hk a _ na e'⟩
  fkeep := fun a o f e => hk a o (fun w => by rw [hw a w] at e; cases e) (y.fkeep a o f e)
  fmono := y.fmono
  fnew := y.fnew
  rho := y.rho
  rnew := y.rnew
  alive := fun a o e => by
    obtain ⟨o', e'⟩ := y.alive a o e
    exact ⟨o', hk a o' (fun w => by rw [hw a w] at e; cases e) e'⟩
  frm := fun a f => (y.frm a f).kept fun o e => hk a o (fun w => by obtain ⟨o', _, _, e', _⟩ := f; rw [hw a w] at e'; cases e') e
  gens := y.gens
  os := y.os
  drawn := y.drawn

structure Src (X : Cx) (k : Nat) (sc : Scope) (vis : List (Str × Nat)) (A : Around) (env : Env) (target : Expr) (I : Addr) (W : Addr → Prop) (S : (Addr → Prop) → List Addr → List Binder → Shared → Prop) : Prop where
  cons : ∀ Z ρ σ η s b r, EC X k sc vis A env Z ρ σ η s → S Z ρ (b :: r) s → ∀ η' σ', b η σ = some (η', σ') → ∀ (Q : Shared → Prop) (E : Value → Shared → Prop),
    (∀ Z' ρ' s', Inv X Z' ρ' σ' s' → Ext (fun a => Tur vis env a ∨ W a) Z ρ s Z' ρ' s' → EnvRel X Z' ρ' s'.heap env vis η' → S Z' ρ' r s' → Q s') →
    wpAny (model X.prog X.w) A (pyNext (.ref I)) (fun r₁ s₁ => ∃ v, r₁ = some v ∧ wpAny (model X.prog X.w) A (letOwnedTupleGo target (.ref I) v) (fun _ s₂ => wpAny (model X.prog X.w) A (assign target env v) (fun _ s₃ => Q s₃) E s₂) E s₁) E s
  nil : ∀ Z ρ s, S Z ρ [] s → ∀ (Q : Option Value → Shared → Prop) (E : Value → Shared → Prop), (∀ h' tk, (∀ b o, ¬ W b → s.heap.get? b = some o → h'.get? b = some o) → Q none { s with heap := h', toks := tk }) → wpAny (model X.prog X.w) A (pyNext (.ref I)) Q E s
  free : ∀ Z ρ r s, S Z ρ r s → ∀ a, W a → Free X Z ρ a ∧ ¬ Own env a
  keep : ∀ (T : Addr → Prop) Z ρ r s Z' ρ' s', S Z ρ r s → (∀ a, W a → ¬ T a) → Ext T Z ρ s Z' ρ' s' → S Z' ρ' r s'
  self : ∀ Z ρ r s (Q : Value → Shared → Prop) (E : Value → Shared → Prop), S Z ρ r s → Q (.ref I) s → wpAny (model X.prog X.w) A (pyIter (.ref I)) Q E s
  priv : ∀ Z ρ r s, S Z ρ r s → ∀ a m, W a → ¬ s.heap.Ns a m

structure WSt (X : Cx) (I : Addr) (fp : List Addr) (n : Nat) (P : Nat → Value → Prop) (St : Nat → Heap → Prop) (env : Env) (xs : List AV) (m : AV → Binder) (Z : Addr → Prop) (ρ : List Addr) (r : List Binder) (s : Shared) (i : Nat) : Prop where
  hi : i ≤ n
  hr : r = (xs.drop i).map m
  st : St i s.heap
  hz : ∀ b ∈ fp, b ≠ I → Z b
  hf : Free X Z ρ I
  ho : ¬ Own env I
  hp : ∀ j v, j < n → P j v → ∃ x, xs[j]? = some x ∧ VRel X ρ Z s.heap x v

noncomputable def PlainAt (I : Addr) (h : Heap) : Prop := ∃ o vs, h.get? I = some o ∧ o.data = .fields vs ∧ o.cls ≠ .type "frame"
theorem PlainAt.noFrame {I : Addr} {h : Heap} (p : PlainAt I h) : ¬ FCls h I := by
  obtain ⟨o, vs, e, hd, _⟩ := p
  rintro ⟨o', es, ep, e', _, hd'⟩
  rw [e] at e'; rw [← Option.some.inj e', hd] at hd'; exact nomatch hd'
theorem PlainAt.noNs {I : Addr} {h : Heap} (p : PlainAt I h) (m) : ¬ h.Ns I m := by
  obtain ⟨o, vs, e, hd, _⟩ := p
  rintro ⟨o', es, ep, e', hd', _⟩
  rw [e] at e'; rw [← Option.some.inj e', hd] at hd'; exact nomatch hd'
theorem PlainAt.there {I : Addr} {h : Heap} (p : PlainAt I h) : h.get? I ≠ none := by
  obtain ⟨o, vs, e, _⟩ := p
  rw [e]; exact fun z => nomatch z
theorem PlainAt.kept {I : Addr} {h : Heap} {o : Obj} {x : Option Obj} (p : PlainAt I h) (e : h.get? I = some o) (k : KeepO o x) : x = some o := by
  rcases k with k | ⟨hc, _⟩
  · exact k
  · obtain ⟨o', _, e', _, hcl⟩ := p
    rw [e] at e'; rw [← Option.some.inj e'] at hcl
    exact absurd hc hcl

section
variable {I : Addr} {fp : List Addr} {n : Nat} {P : Nat → Value → Prop} {St : Nat → Heap → Prop} {xs : List AV} {m : AV → Binder} {r : List Binder} {i : Nat}
theorem WSt.next (w : WSt X I fp n P St env xs m Z ρ r s i) (Wk : Walks X.prog X.w A I fp [I] n P St) (pl : PlainAt I s.heap) {T : Addr → Prop} {Z' ρ' s'} (ht : ¬ T I) (y : Ext T Z ρ s Z' ρ' s') : WSt X I fp n P St env xs m Z' ρ' r s' i where
  hi := w.hi
  hr := w.hr
  st := Wk.frame _ _ _ w.st fun b hb o e => by
    by_cases hbI : b = I
    · rw [hbI] at e ⊢
      exact pl.kept e (y.keep I o e ht w.hf.2.1)
    · exact y.fkeep b o (w.hz b hb hbI) e
  hz := fun b hb hne => y.fmono b (w.hz b hb hne)
  hf := ⟨fun f => (y.fnew I f).elim w.hf.1 fun f => f.elim w.hf.2.1 pl.there, fun f => (y.rnew I f).elim w.hf.2.1 pl.there, w.hf.2.2⟩
  ho := w.ho
  hp := fun j v hj hv => (w.hp j v hj hv).imp fun x h => ⟨h.1, h.2.ext y⟩
end

theorem Src.walks {target : Expr} {I : Addr} {fp : List Addr} {n : Nat} {P : Nat → Value → Prop} {St : Nat → Heap → Prop} (Wk : Walks X.prog X.w A I fp [I] n P St) {m : AV → Binder} (ha : SimA X k sc vis target m) (xs : List AV) (hn : xs.length = n)
    (hcls : ∀ i h, St i h → PlainAt I h)
    (hgo : ∀ i s v Q E, St i s.heap → Q () s → wpAny (model X.prog X.w) A (letOwnedTupleGo target (.ref I) v) Q E s) :
    Src X k sc vis A env target I (fun a => a = I) (fun Z ρ r s => ∃ i, WSt X I fp n P St env xs m Z ρ r s i) where
  cons := by
    rintro Z ρ σ η s b r c ⟨i, w⟩ η' σ' e Q E p
    have hlt : i < n := by
      rcases Nat.lt_or_ge i n with h | h
      · exact h
      · have hr := w.hr; rw [List.drop_of_length_le (by (first | lia | omega))] at hr; exact nomatch hr
    have hlt' : i < xs.length := by (first | lia | omega)
    have hr := w.hr
    rw [List.drop_eq_getElem_cons hlt'] at hr
    injection hr with hb hr
    refine Wk.item i s _ _ hlt w.st fun v h' tk hv st' hk => ⟨v, rfl, hgo _ _ v _ _ st' ?_⟩
    have hs : ∀ b o, ¬ (b = I) → s.heap.get? b = some o → h'.get? b = some o := fun b o hb e => hk b o (fun q => hb (List.mem_singleton.mp q)) e
    have hfr : ∀ a, a = I → Free X Z ρ a := fun a q => q ▸ w.hf
    have pl := hcls _ _ w.st
    have pl' := hcls _ _ st'
    have i1 := c.c.inv.touch (tk := tk) hs hfr
    have y1 : Ext (fun a => a = I) Z ρ s Z ρ { s with heap := h', toks := tk } := Ext.touch hs hfr (fun a q => q ▸ pl'.there) (fun _ q => q) (fun a q => q ▸ pl.noFrame)
    have e1 := c.e.extT y1 (fun a q => q ▸ w.ho)
    obtain ⟨x, hx, rx⟩ := w.hp i v hlt hv
    rw [List.getElem?_eq_getElem hlt'] at hx
    rw [← Option.some.inj hx] at rx
    have c1 : EC X k sc vis A env Z ρ σ η { s with heap := h', toks := tk } := c.after i1 y1 e1 fun a q => .inr fun m' => q ▸ pl.noNs m'
    rw [hb] at e
    refine ha.run A env Z ρ σ η _ c1 _ v (rx.ext y1) _ _ e _ _ fun Z2 ρ2 s2 i2 y2 e2 => ?_
    have w1 : WSt X I fp n P St env xs m Z ρ r { s with heap := h', toks := tk } (i + 1) := ⟨hlt, hr, st', w.hz, w.hf, w.ho, fun j v hj hv => (w.hp j v hj hv).imp fun x h => ⟨h.1, h.2.ext y1⟩⟩
    exact p Z2 ρ2 s2 i2 ((y1.weaken fun _ q => .inr q).trans (y2.weaken fun _ q => .inl q)) e2 ⟨i + 1, w1.next Wk pl' (fun t => w.ho t.own) y2⟩
  nil := by
    rintro Z ρ s ⟨i, w⟩ Q E p
    have hin : i = n := by
      rcases Nat.lt_or_ge i n with h | h
      · have hr := w.hr; rw [List.drop_eq_getElem_cons (by (first | lia | omega) : i < xs.length)] at hr; exact nomatch hr
      · exact Nat.le_antisymm w.hi h
    have st := w.st
    rw [hin] at st
    exact Wk.done s _ _ st fun h' tk hk => p h' tk fun b o hb e => hk b o (fun q => hb (List.mem_singleton.mp q)) e
  free := by rintro Z ρ r s ⟨i, w⟩ a q; exact q ▸ ⟨w.hf, w.ho⟩
  keep := by rintro T Z ρ r s Z' ρ' s' ⟨i, w⟩ hWT y; exact ⟨i, w.next Wk (hcls _ _ w.st) (hWT I rfl) y⟩
  self := by rintro Z ρ r s Q E ⟨i, w⟩ hQ; exact Wk.self i s _ _ w.st hQ
  priv := by rintro Z ρ r s ⟨i, w⟩ a m q; exact q ▸ (hcls _ _ w.st).noNs m
end
end Mine
end
section
open PySem PySem.W PyProof.Rows
set_option maxRecDepth 100000
set_option linter.unusedVariables false
namespace Mine
open SeqAt

noncomputable def rangeL (a b c : Int) : List AV := (List.range (Builtin.Range.rangeSize a b c).toNat).map fun (i : Nat) => .int (a + (i : Int) * c)

noncomputable def iterL : AV → Option (List AV)
  | .list l => some l
  | .tup l => some l
  | .dict l => some (l.map fun p => .str p.1)
  | .dicti l => some (l.map fun p => .int p.1)
  | .vals l => some (l.map fun p => p.2)
  | .range a b c => if Builtin.Range.small a b c && decide (c ≠ 0) then some (rangeL a b c) else none
  | _ => none

noncomputable def ownedCls : List String := ["enumerate", "zip", "dict_itemiterator", "dict_reverseitemiterator", "odict_iterator", "itertools.zip_longest", "itertools.pairwise"]

section
variable {X : Cx} {k : Nat} {sc : Scope} {vis : List (Str × Nat)} {A : Around} {env : Env} {Z : Addr → Prop} {ρ : List Addr} {σ : St} {η : Eta} {s : Shared}

theorem letOwned_plain {target : Expr} {I : Addr} {o : Obj} {n : String} {vs : Array Value} {v : Value} {Q E} (ho : s.heap.get? I = some o) (hc : o.cls = .type n) (hd : o.data = .fields vs) (hn : ownedCls.contains n = false) (h : Q () s) :
    wpAny (model X.prog X.w) A (letOwnedTupleGo target (.ref I) v) Q E s := by
  have no : wpAny (model X.prog X.w) A (pure () : Sem Unit) Q E s := wpAny_pure h
  have go : ∀ a, wpAny (model X.prog X.w) A (letOwnedTupleGo (.Tuple [] 0 default) (.ref I) (.ref a)) Q E s := by
    intro a
    refine wpAny_bind (wpAny_load ho ?_)
    rw [hc, hd]
    show wpAny _ A (if (ownedCls.contains n && vs[0]? == some (rawInt a)) = true then _ else _) Q E s
    rw [hn, Bool.false_and, if_neg (by decide)]
    exact no
  cases target with
  | Tuple => cases v with
    | ref a => exact go a
    | _ => exact no
  | List => cases v with
    | ref a => exact go a
    | _ => exact no
  | _ => exact no

noncomputable def RawIt (X : Cx) (A : Around) (I : Addr) (xs : List AV) (Z : Addr → Prop) (ρ : List Addr) (h : Heap) : Prop :=
  ∃ fp n P St, Walks X.prog X.w A I fp [I] n P St ∧ xs.length = n ∧ (∀ i h, St i h → ∃ o vs nm, h.get? I = some o ∧ o.data = .fields vs ∧ o.cls = .type nm ∧ nm ≠ "frame" ∧ ownedCls.contains nm = false) ∧
    St 0 h ∧ (∀ b ∈ fp, b ≠ I → Z b) ∧ ∀ j v, j < n → P j v → ∃ x, xs[j]? = some x ∧ VRel X ρ Z h x v

theorem RawIt.src {I : Addr} {xs : List AV} {h : Heap} (R : RawIt X A I xs Z ρ h) {target : Expr} {m : AV → Binder} (ha : SimA X k sc vis target m) :
    ∃ S, Src X k sc vis A env target I (fun a => a = I) S ∧ ∀ Z' ρ' s', Ext T0 Z ρ { s with heap := h } Z' ρ' s' → Free X Z' ρ' I → ¬ Own env I → S Z' ρ' (xs.map m) s' := by
  obtain ⟨fp, n, P, St, Wk, hn, hc, st, hz, hp⟩ := R
  have pl : ∀ i h, St i h → PlainAt I h := by
    intro i h x
    obtain ⟨o, vs, nm, e, hd, hcl, hne, _⟩ := hc i h x
    exact ⟨o, vs, e, hd, fun q => hne (by rw [hcl] at q; injection q)⟩
  refine ⟨_, Src.walks Wk ha xs hn pl (fun i s v Q E x hq => ?_), fun Z' ρ' s' y hf ho => ⟨0, ⟨Nat.zero_le _, rfl, ?_, fun b hb hne => y.fmono b (hz b hb hne), hf, ho, fun j v hj hv => ?_⟩⟩⟩
  · obtain ⟨o, vs, nm, e, hd, hcl, hne, ho⟩ := hc i _ x
    exact letOwned_plain e hcl hd ho hq
  · refine Wk.frame _ _ _ st fun b hb o e => ?_
    by_cases hbI : b = I
    · rw [hbI] at e ⊢
      exact (pl _ _ st).kept e (y.keep I o e (fun f => f) (fun m => hf.2.1 (by obtain ⟨t, ht⟩ := y.rho; rw [← ht]; exact List.mem_append_left _ m)))
    · exact y.fkeep b o (hz b hb hbI) e
  · obtain ⟨x, hx, rx⟩ := hp j v hj hv
    exact ⟨x, hx, VRel.ext (s := { s with heap := h }) y rx⟩

theorem VRelD.get {h : Heap} : ∀ {xs : List (List Nat × AV)} {vs : List (Str × Value)}, VRelD X ρ Z h xs vs → ∀ {i : Nat} {kk : Str} {v : Value}, vs[i]? = some (kk, v) → ∃ l x, xs[i]? = some (l, x) ∧ kk = toStr l ∧ VRel X ρ Z h x v
  | [], vs, r, i, kk, v, e => by unfold VRelD at r; rw [r] at e; exact nomatch e
  | (l, x) :: xs, vs, r, i, kk, v, e => by
    unfold VRelD at r
    obtain ⟨w, t, hq, p, q⟩ := r
    rw [hq] at e
    cases i with
    | zero => have e := oE e; exact ⟨l, x, rfl, (congrArg Prod.fst e).symm, (show w = v from congrArg Prod.snd e) ▸ p⟩
    | succ i => exact VRelD.get q (i := i) e
theorem VRelI.get {h : Heap} : ∀ {xs : List (Int × AV)} {vs : List (Int × Value)}, VRelI X ρ Z h xs vs → ∀ {i : Nat} {kk : Int} {v : Value}, vs[i]? = some (kk, v) → ∃ x, xs[i]? = some (kk, x) ∧ VRel X ρ Z h x v
  | [], vs, r, i, kk, v, e => by unfold VRelI at r; rw [r] at e; exact nomatch e
  | (l, x) :: xs, vs, r, i, kk, v, e => by
    unfold VRelI at r
    obtain ⟨w, t, hq, p, q⟩ := r
    rw [hq] at e
    cases i with
    | zero => have e := oE e; exact ⟨x, congrArg (fun z => some (z, x)) (congrArg Prod.fst e), (show w = v from congrArg Prod.snd e) ▸ p⟩
    | succ i => exact VRelI.get q (i := i) e

theorem rangeSize_nn (a b c : Int) : 0 ≤ Builtin.Range.rangeSize a b c := by
  unfold Builtin.Range.rangeSize
  split
  · split
    · have := Int.ediv_nonneg (show 0 ≤ b - a - 1 by (first | lia | omega)) (show 0 ≤ c by (first | lia | omega))
      have e : (b - a - 1) / c = Int.ediv (b - a - 1) c := rfl
      (first | lia | omega)
    · (first | lia | omega)
  · split
    · have := Int.ediv_nonneg (show 0 ≤ a - b - 1 by (first | lia | omega)) (show 0 ≤ -c by (first | lia | omega))
      (first | lia | omega)
    · (first | lia | omega)

theorem hz2 {I a : Addr} (f : Z a) : ∀ b ∈ [I, a], b ≠ I → Z b := fun b hb hne => by
  rcases List.mem_cons.mp hb with h | h
  · exact absurd h hne
  · exact List.mem_singleton.mp h ▸ f
theorem hp_seq {h h' : Heap} {xs : List AV} {vs : List Value} {n : Nat} (q : VRels X ρ Z h xs vs) (hk : Kept Z h h') : ∀ j v, j < n → vs.toArray[j]? = some v → ∃ x, xs[j]? = some x ∧ VRel X ρ Z h' x v := by
  intro j w _ hw
  have hw : vs[j]? = some w := by simpa using hw
  have hj : j < xs.length := by rw [q.length]; exact (List.getElem?_eq_some_iff.mp hw).1
  obtain ⟨w', hw', rw'⟩ := q.get (List.getElem?_eq_getElem hj)
  rw [hw] at hw'
  rw [← Option.some.inj hw'] at rw'
  exact ⟨_, List.getElem?_eq_getElem hj, rw'.mono hk (fun _ f => f) List.prefix_rfl⟩
theorem iter_ok (c : VC X k A Z ρ σ s) {av : AV} {v : Value} (r : VRel X ρ Z s.heap av v) {xs : List AV} (e : iterL av = some xs) {Q : Value → Shared → Prop} {E}
    (h : ∀ o : Obj, o.isFreed = false → RawIt X A s.heap.objs.size xs Z ρ (s.heap.push o) → Q (.ref s.heap.objs.size) { s with heap := s.heap.push o }) : wpAny (model X.prog X.w) A (pyIter v) Q E s := by
  have kp : ∀ (o : Obj), Kept Z s.heap (s.heap.push o) := fun o a x _ e => Heap.get?_push_of_some _ e
  have zlt : ∀ a, Z a → a ≠ s.heap.objs.size := fun a f q => by
    obtain ⟨o, e⟩ := c.inv.fr a f
    rw [q, none_size] at e; exact nomatch e
  cases av with
  | list l =>
    rw [← oE e] at h
    unfold VRel at r
    obtain ⟨a, vs, hv, f, pl, q⟩ := r
    rw [hv]
    refine wpAny_pyIter_list pl.isList (h _ rfl ?_)
    exact ⟨_, _, _, _, Walks.list c.hnd s.heap.objs.size a (zlt a f) vs.toArray, q.length, (by rintro i h ⟨⟨o, ho, hc, hd⟩, _⟩; exact ⟨o, _, _, ho, hd, hc, by decide, by decide⟩), ⟨⟨_, Heap.get?_push_size _ rfl, rfl, rfl⟩, pl.isList.push _⟩, hz2 f, hp_seq q (kp _)⟩
  | tup l =>
    rw [← oE e] at h
    unfold VRel at r
    obtain ⟨a, vs, hv, f, pl, q⟩ := r
    rw [hv]
    refine wpAny_pyIter_tuple pl.isTuple (h _ rfl ?_)
    exact ⟨_, _, _, _, Walks.tuple c.hnd s.heap.objs.size a (zlt a f) vs.toArray, q.length, (by rintro i h ⟨⟨o, ho, hc, hd⟩, _⟩; exact ⟨o, _, _, ho, hd, hc, by decide, by decide⟩), ⟨⟨_, Heap.get?_push_size _ rfl, rfl, rfl⟩, pl.isTuple.push _⟩, hz2 f, hp_seq q (kp _)⟩
  | dict l =>
    rw [← oE e] at h
    unfold VRel at r
    obtain ⟨a, es, hv, f, hs, hd, q⟩ := r
    rw [hv]
    obtain ⟨ep, hat⟩ := hd.dictAt
    refine wpAny_pyIter_dict hs hat (h _ rfl ?_)
    refine ⟨_, _, _, _, Walks.dictKeys (knd := strKind X.prog X.w) c.hnd s.heap.objs.size a (zlt a f) es ep, by rw [List.length_map, q.length], (by rintro i h ⟨⟨o, ho, hc, hd⟩, _⟩; exact ⟨o, _, _, ho, hd, hc, by decide, by decide⟩), ⟨⟨_, Heap.get?_push_size _ rfl, rfl, rfl⟩, hat.push _⟩, hz2 f, ?_⟩
    rintro j w _ ⟨kk, x, hx, hk⟩
    obtain ⟨l', x', hl', hq, rx⟩ := q.get hx
    refine ⟨.str l', by rw [List.getElem?_map, hl']; rfl, ?_⟩
    obtain ⟨t, hw⟩ := Value.isStrOf_shape hk
    rw [hw, hq]
    exact vrel_str ..
  | dicti l =>
    rw [← oE e] at h
    unfold VRel at r
    obtain ⟨a, es, hv, f, hs, hd, q⟩ := r
    rw [hv]
    obtain ⟨ep, hat⟩ := hd.dictAt
    refine wpAny_pyIter_dict hs hat (h _ rfl ?_)
    refine ⟨_, _, _, _, Walks.dictKeys (knd := intKind X.prog X.w) c.hnd s.heap.objs.size a (zlt a f) es ep, by rw [List.length_map, q.length], (by rintro i h ⟨⟨o, ho, hc, hd⟩, _⟩; exact ⟨o, _, _, ho, hd, hc, by decide, by decide⟩), ⟨⟨_, Heap.get?_push_size _ rfl, rfl, rfl⟩, hat.push _⟩, hz2 f, ?_⟩
    rintro j w _ ⟨kk, x, hx, hk⟩
    obtain ⟨x', hl', rx⟩ := q.get hx
    refine ⟨.int kk, by rw [List.getElem?_map, hl']; rfl, ?_⟩
    cases w <;> simp [intKind, Value.isInt] at hk
    rw [hk]
    exact vrel_int ..
  | vals l =>
    rw [← oE e] at h
    unfold VRel at r
    obtain ⟨a, d, es, hv', f, f', hv, hs, hd, q⟩ := r
    rw [hv']
    obtain ⟨ep, hat⟩ := hd.dictAt
    refine wpAny_pyIter_values hv hat (h _ rfl ?_)
    refine ⟨_, _, _, _, Walks.dictValues (knd := strKind X.prog X.w) c.hnd s.heap.objs.size d (zlt d f') es ep, by rw [List.length_map, q.length], (by rintro i h ⟨⟨o, ho, hc, hd⟩, _⟩; exact ⟨o, _, _, ho, hd, hc, by decide, by decide⟩), ⟨⟨_, Heap.get?_push_size _ rfl, rfl, rfl⟩, hat.push _⟩, hz2 f', ?_⟩
    rintro j w _ ⟨kk, hx⟩
    obtain ⟨l', x', hl', _, rx⟩ := q.get hx
    exact ⟨x', by rw [List.getElem?_map, hl']; rfl, rx.mono (kp _) (fun _ f => f) List.prefix_rfl⟩
  | range a b c' =>
    refine ifN e fun hsm e => ?_
    rw [← oE e] at h
    have hsm := (Bool.and_eq_true_iff.mp hsm).1
    unfold VRel at r
    obtain ⟨r, t, u, w, hv, f, hr⟩ := r
    rw [hv]
    refine wpAny_pyIter_range hr hsm (h _ rfl ?_)
    have hnn : 0 ≤ Builtin.Range.rangeSize a b c' := rangeSize_nn a b c'
    refine ⟨_, _, _, _, Walks.range c.hnd s.heap.objs.size a c' (Builtin.Range.rangeSize a b c').toNat, by rw [rangeL, List.length_map, List.length_range], fun i h st => ⟨_, _, _, st, rfl, rfl, by decide, by decide⟩, ?_, fun b hb hne => absurd (List.mem_singleton.mp hb) hne, ?_⟩
    · rw [IsRangeIter, Heap.get?_push_size _ rfl]
      simp [Int.toNat_of_nonneg hnn]
    · rintro j w hj ⟨t', hw⟩
      rw [hw]
      exact ⟨.int (a + j * c'), by rw [rangeL, List.getElem?_map, List.getElem?_range hj]; rfl, vrel_int ..⟩
  | _ => exact oN e
end
end Mine
end
section
open PySem PySem.W PyProof.Rows
set_option maxRecDepth 100000
set_option linter.unusedVariables false
namespace Mine
open SeqAt

abbrev MI := Eta → St → Option (List Binder × St)

noncomputable def ItOk (X : Cx) (k : Nat) (sc : Scope) (vis : List (Str × Nat)) (A : Around) (target : Expr) (s₀ : Shared) (bs : List Binder) (Z : Addr → Prop) (ρ : List Addr) (I : Addr) (s : Shared) : Prop :=
  ∃ W : Addr → Prop, (∀ a, W a → s₀.heap.get? a = none ∧ s.heap.get? a ≠ none ∧ Free X Z ρ a) ∧ ∀ env, ∃ S, Src X k sc vis A env target I W S ∧
    ∀ Z' ρ' s', Ext T0 Z ρ s Z' ρ' s' → (∀ a, W a → Free X Z' ρ' a ∧ ¬ Own env a) → S Z' ρ' bs s'

structure SimI (X : Cx) (k : Nat) (sc : Scope) (vis : List (Str × Nat)) (sc2 : Scope) (vis2 : List (Str × Nat)) (it target : Expr) (m : MI) : Prop where
  run : ∀ A env Z ρ σ η s, EC X k sc vis A env Z ρ σ η s → ∀ bs σ', m η σ = some (bs, σ') → ∀ (Q : Value → Shared → Prop) (E : Value → Shared → Prop),
    (∀ Z' ρ' s' I, Inv X Z' ρ' σ' s' → Ext T0 Z ρ s Z' ρ' s' → ItOk X k sc2 vis2 A target s bs Z' ρ' I s' → Q (.ref I) s') →
    wpAny (model X.prog X.w) A (eval it env) (fun x s₁ => wpAny (model X.prog X.w) A (pyIter x) Q E s₁) E s

section
variable {X : Cx} {k : Nat} {sc : Scope} {vis : List (Str × Nat)} {A : Around} {env : Env} {Z : Addr → Prop} {ρ : List Addr} {σ : St} {η : Eta} {s : Shared}

theorem Free.next {X : Cx} {T Z ρ s Z' ρ' s'} {a : Addr} (f : Free X Z ρ a) (y : Ext T Z ρ s Z' ρ' s') (ha : s.heap.get? a ≠ none) : Free X Z' ρ' a :=
  ⟨fun q => (y.fnew a q).elim f.1 fun q => q.elim f.2.1 ha, fun q => (y.rnew a q).elim f.2.1 ha, f.2.2⟩

theorem RawIt.itOk {xs : List AV} {h : Heap} {I : Addr} {s₀ : Shared} (R : RawIt X A I xs Z ρ h) (h0 : s₀.heap.get? I = none) (h1 : h.get? I ≠ none) (hf : Free X Z ρ I) {target : Expr} {m : AV → Binder} {sc vis} (ha : SimA X k sc vis target m) {tk : Nat} :
    ItOk X k sc vis A target s₀ (xs.map m) Z ρ I { s with heap := h, toks := tk } := by
  refine ⟨fun a => a = I, fun a q => q ▸ ⟨h0, h1, hf⟩, fun env => ?_⟩
  obtain ⟨S, hS, hg⟩ := R.src (env := env) (s := { s with heap := h, toks := tk }) ha
  exact ⟨S, hS, fun Z' ρ' s' y hw => hg Z' ρ' s' y (hw I rfl).1 (hw I rfl).2⟩

noncomputable def iVal (m : ME) (t : AV → Binder) : MI := fun η σ => oB (m η σ) fun a σ => o1 (iterL a) fun xs => some (xs.map t, σ)
theorem free_size (i : Inv X Z ρ σ s) : Free X Z ρ s.heap.objs.size := by
  refine ⟨fun f => ?_, fun m => ?_, ?_⟩
  · obtain ⟨o, e⟩ := i.fr _ f; rw [none_size] at e; cases e
  · obtain ⟨⟨o, e⟩, _⟩ := i.old _ m; rw [none_size] at e; cases e
  · cases q : X.H₀.get? s.heap.objs.size with
    | none => rfl
    | some o => have := i.base _ _ q; rw [none_size] at this; cases this
theorem out2 {α β : Type} {a a' : α} {b b' : β} {P : α → β → Prop} (e : (a', b') = (a, b)) (p : P a b) : P a' b' := by
  rw [show a' = a from congrArg Prod.fst e, show b' = b from congrArg Prod.snd e]; exact p
theorem i_val {it target : Expr} {sc2 vis2} {m : ME} {t : AV → Binder} (hx : SimX X k sc vis it m) (ht : SimA X k sc2 vis2 target t) : SimI X k sc vis sc2 vis2 it target (iVal m t) := by
  refine ⟨?_⟩
  intro A env Z ρ σ η s c bs σ' e Q E p
  refine oB_inv e fun a σ₁ h1 e => ?_
  refine o1_inv e fun xs h2 e => ?_
  have e := Option.some.inj e
  replace p := out2 (P := fun bs σ' => ∀ Z' ρ' s' I, Inv X Z' ρ' σ' s' → Ext T0 Z ρ s Z' ρ' s' → ItOk X k sc2 vis2 A target s bs Z' ρ' I s' → Q (.ref I) s') e p
  refine hx.run A env Z ρ σ η s c _ _ h1 _ _ fun Z₁ ρ₁ v₁ s₁ i₁ y₁ r₁ => iter_ok (c.next i₁ y₁).c r₁ h2 fun o hf R => ?_
  have hk : ∀ b o', s₁.heap.get? b = some o' → (s₁.heap.push o).get? b = some o' := fun b o' e => Heap.get?_push_of_some _ e
  have i2 : Inv X Z₁ ρ₁ σ₁ { s₁ with heap := s₁.heap.push o } := i₁.touch (W := fun _ => False) (tk := s₁.toks) (fun b o' _ e => hk b o' e) fun a f => f.elim
  have y2 : Ext T0 Z₁ ρ₁ s₁ Z₁ ρ₁ { s₁ with heap := s₁.heap.push o } := Ext.touch (X := X) (W := fun _ => False) (tk := s₁.toks) (fun b o' _ e => hk b o' e) (fun a f => f.elim) (fun a f => f.elim) fun a f => f
  refine p _ _ _ _ i2 (y₁.trans y2) (R.itOk (none_of_alive y₁.alive (none_size _)) ?_ (free_size i₁) ht)
  rw [Heap.get?_push_size _ hf]; exact fun q => nomatch q

theorem EC.late {T Z' ρ' σ' η' s'} (c : EC X k sc vis A env Z ρ σ η s) (i : Inv X Z' ρ' σ' s') (y : Ext T Z ρ s Z' ρ' s') (e : EnvRel X Z' ρ' s'.heap env vis η')
    (hT : ∀ a, T a → Own env a ∨ s.heap.get? a = none) : EC X k sc vis A env Z' ρ' σ' η' s' := by
  refine ⟨⟨c.c.hnd, c.c.dep, c.c.uni, ?_, i⟩, c.sc, e, c.top⟩
  obtain ⟨fs, h1, h2⟩ := c.c.frs
  refine ⟨fs, h1, h2.ext y fun ev hev L hL ht => ?_⟩
  obtain ⟨_, L', hL', _, _, _, _, m, hn⟩ := h2.each ev hev
  rw [hL] at hL'; cases hL'
  rcases hT L ht with ho | hno
  · rcases ho with rfl | ⟨n, hm⟩
    · obtain ⟨m, hn, _⟩ := e.ns; exact ⟨m, hn⟩
    · exfalso
      obtain ⟨_, _, _, _, w, ⟨o, ho, hd⟩⟩ := c.e.ownc n L hm
      obtain ⟨o', es, ep, ho', hd', _⟩ := hn
      rw [ho] at ho'; cases ho'
      rw [hd] at hd'; cases hd'
  · exact absurd hno (ns_there hn)

theorem own_there (e : EnvRel X Z ρ s.heap env vis η) {a : Addr} (h : Own env a) : s.heap.get? a ≠ none := by
  rcases h with rfl | ⟨n, hm⟩
  · obtain ⟨m, hn, _⟩ := e.ns; exact ns_there hn
  · obtain ⟨_, _, _, _, w, hw⟩ := e.ownc n a hm
    exact isCell_there hw

noncomputable def oF (x : Option (Out × Eta × St)) (f : MS) : Option (Out × Eta × St) := match x with
  | some (o, η, σ) => match o with
    | .next => f η σ
    | .ret v => some (.ret v, η, σ)
    | .exc _ => none
  | none => none
theorem oF_inv {x : Option (Out × Eta × St)} {f : MS} {r : Out × Eta × St} {P : Prop} (e : oF x f = some r) (k : ∀ η σ, x = some (.next, η, σ) → f η σ = some r → P) (k' : ∀ v η σ, x = some (.ret v, η, σ) → some (.ret v, η, σ) = some r → P) : P := by
  cases x with
  | none => exact oN e
  | some w =>
    obtain ⟨o, η, σ⟩ := w
    cases o with
    | next => exact k η σ rfl e
    | ret v => exact k' v η σ rfl e
    | exc x => exact oN e
noncomputable def forG : List Binder → MS → MS
  | [], _, η, σ => some (.next, η, σ)
  | b :: bs, mb, η, σ => oB (b η σ) fun η σ => oF (mb η σ) fun η σ => forG bs mb η σ
noncomputable def sFor (mi : MI) (mb : MS) : MS := fun η σ => oB (mi η σ) fun bs σ => forG bs mb η σ

inductive ForI (X : Cx) (mb : MS) (o : Out) (η' : Eta) (σ' : St) (vis : List (Str × Nat)) (env : Env) (T : Addr → Prop) (Z : Addr → Prop) (ρ : List Addr) (s : Shared) (S : (Addr → Prop) → List Addr → List Binder → Shared → Prop) (n : Nat) (s' : Shared) : Prop where
  | mk (Z' : Addr → Prop) (ρ' : List Addr) (σ₂ : St) (η₂ : Eta) (r : List Binder) (hn : r.length = n) (hg : forG r mb η₂ σ₂ = some (o, η', σ')) (i : Inv X Z' ρ' σ₂ s') (y : Ext T Z ρ s Z' ρ' s') (e : EnvRel X Z' ρ' s'.heap env vis η₂) (st : S Z' ρ' r s')
theorem st_for {it target : Expr} {body : List Stmt} {pos} {mi : MI} {mb : MS} (hi : SimI X k sc vis sc vis it target mi) (hb : SimB X k sc vis body mb) (hs : ∀ env x, foldedSetIterable it env x = pure x := by intro _ _; rfl) :
    SimS X k sc vis (.For target it body [] pos) (sFor mi mb) := by
  refine ⟨?_⟩
  intro A env Z ρ σ η s c o η' σ' e Q E p
  refine oB_inv e fun bs σ₁ h1 e => ?_
  refine wpAny_For (hi.run A env Z ρ σ η s c bs σ₁ h1 _ _ fun Z₁ ρ₁ s₁ I i₁ y₁ ok => ?_) (hs env)
  obtain ⟨W, hW, hS⟩ := ok
  obtain ⟨S, src, hS⟩ := hS env
  have hWo : ∀ a, W a → ¬ Own env a := fun a w ho => own_there c.e ho (hW a w).1
  have y₁' : Ext (fun a => Tur vis env a ∨ W a) Z ρ s Z₁ ρ₁ s₁ := y₁.weaken fun _ f => f.elim
  refine codeAny_forLoop_any (ForI X mb o η' σ' vis env (fun a => Tur vis env a ∨ W a) Z ρ s S) ?_ bs.length
    ⟨Z₁, ρ₁, σ₁, η, bs, rfl, e, i₁, y₁', c.e.ext y₁, hS _ _ _ (Ext.refl ..) fun a w => ⟨(hW a w).2.2, hWo a w⟩⟩
  rintro n s' ⟨Z', ρ', σ₂, η₂, r, hn, hg, i₂, y₂, e₂, st⟩
  have late : ∀ {Z'' ρ'' σ'' η'' s''}, Inv X Z'' ρ'' σ'' s'' → Ext (fun a => Tur vis env a ∨ W a) Z ρ s Z'' ρ'' s'' → EnvRel X Z'' ρ'' s''.heap env vis η'' → EC X k sc vis A env Z'' ρ'' σ'' η'' s'' :=
    fun i y e => c.late i y e fun a t => t.imp Tur.own fun w => (hW a w).1
  cases r with
  | nil =>
    rw [← show 0 = n from hn]
    refine src.nil _ _ _ st _ _ fun h' tk hk => ?_
    have hf := src.free _ _ _ _ st
    refine wpAny_execs_nil ?_
    exact p.of hg _ _ _ (i₂.touch hk fun a w => (hf a w).1) (Ext.last (X := X) y₂ hk fun a w => (hW a w).1) (e₂.touchW hk hf)
  | cons b r =>
    rw [← show r.length + 1 = n from hn]
    refine oB_inv hg fun η₃ σ₃ hb1 hg => ?_
    refine wpAny_mono (src.cons Z' ρ' σ₂ η₂ s' b r (late i₂ y₂ e₂) st _ _ hb1 (fun s₃ => wpAny (model X.prog X.w) A (execs body env) (fun f s₃ => match f with
        | .next | .cont => ∃ m, m < r.length + 1 ∧ ForI X mb o η' σ' vis env (fun a => Tur vis env a ∨ W a) Z ρ s S m s₃
        | .brk => Q .next s₃
        | .ret v => Q (.ret v) s₃) (notedBy (model X.prog X.w) A env fun e s' => cameBackBy (model X.prog X.w) A env E e s') s₃) _ ?_) ?_ (fun _ _ q => q)
    · intro Z₃ ρ₃ s₃ i₃ y₃ e₃ st₃
      have y₃' := y₂.trans y₃
      have c₃ := late i₃ y₃' e₃
      refine oF_inv hg (fun η₄ σ₄ hb2 hg => ?_) fun v η₄ σ₄ hb2 hg => ?_
      · exact hb.run A env Z₃ ρ₃ σ₃ η₃ s₃ c₃ _ _ _ hb2 _ _ fun Z₄ ρ₄ s₄ i₄ y₄ e₄ =>
          ⟨r.length, Nat.lt_succ_self _, Z₄, ρ₄, σ₄, η₄, r, rfl, hg, i₄, y₃'.trans (y₄.weaken fun _ t => .inl t), e₄, src.keep _ _ _ _ _ _ _ _ st₃ (fun a w t => hWo a w t.own) y₄⟩
      · exact hb.run A env Z₃ ρ₃ σ₃ η₃ s₃ c₃ _ _ _ hb2 _ _ fun Z₄ ρ₄ v₄ s₄ i₄ y₄ e₄ r₄ =>
          p.of hg _ _ _ _ i₄ ((y₃'.trans (y₄.weaken fun _ t => .inl t)).drop fun a t => t.imp id fun w => (hW a w).1) e₄ r₄
    · rintro r₁ s₃ ⟨v, hr, hv⟩
      rw [hr]
      exact hv

noncomputable def whileG : Nat → MT → MS → MS
  | 0, _, _, _, _ => none
  | n + 1, t, mb, η, σ => oT (t η σ) (fun σ => oF (mb η σ) fun η σ => whileG n t mb η σ) (fun σ => some (.next, η, σ))

inductive WhI (X : Cx) (t : MT) (mb : MS) (o : Out) (η' : Eta) (σ' : St) (vis : List (Str × Nat)) (env : Env) (Z : Addr → Prop) (ρ : List Addr) (s : Shared) (n : Nat) (s' : Shared) : Prop where
  | mk (Z' : Addr → Prop) (ρ' : List Addr) (σ₂ : St) (η₂ : Eta) (hg : whileG n t mb η₂ σ₂ = some (o, η', σ')) (i : Inv X Z' ρ' σ₂ s') (y : Ext (Tur vis env) Z ρ s Z' ρ' s') (e : EnvRel X Z' ρ' s'.heap env vis η₂)
theorem st_while (N : Nat) {test : Expr} {body : List Stmt} {pos} {t : MT} {mb : MS} (ht : SimT X k sc vis test t) (hb : SimB X k sc vis body mb) :
    SimS X k sc vis (.While test body [] pos) (whileG N t mb) := by
  refine ⟨?_⟩
  intro A env Z ρ σ η s c o η' σ' e Q E p
  refine wpAny_While ?_
  refine codeAny_whileLoop (WhI X t mb o η' σ' vis env Z ρ s) ?_ N ⟨Z, ρ, σ, η, e, c.c.inv, Ext.refl .., c.e⟩
  rintro n s' ⟨Z', ρ', σ₂, η₂, hg, i₂, y₂, e₂⟩
  cases n with
  | zero => exact oN hg
  | succ n =>
    have c₂ := c.own i₂ y₂ e₂
    refine oT_inv hg (fun σ₃ h3 hg => ?_) fun σ₃ h3 hg => ?_
    · refine ht.run A env Z' ρ' σ₂ _ s' c₂ _ _ h3 _ _ fun Z₃ ρ₃ s₃ i₃ y₃ => ?_
      rw [if_pos rfl]
      have y₃' : Ext (Tur vis env) Z ρ s Z₃ ρ₃ s₃ := y₂.trans (y₃.weaken fun _ f => f.elim)
      have c₃ := c₂.next i₃ y₃
      refine oF_inv hg (fun η₄ σ₄ hb2 hg => ?_) fun v η₄ σ₄ hb2 hg => ?_
      · exact hb.run A env Z₃ ρ₃ σ₃ η₂ s₃ c₃ _ _ _ hb2 _ _ fun Z₄ ρ₄ s₄ i₄ y₄ e₄ => ⟨n, Nat.lt_succ_self n, Z₄, ρ₄, σ₄, η₄, hg, i₄, y₃'.trans y₄, e₄⟩
      · exact hb.run A env Z₃ ρ₃ σ₃ η₂ s₃ c₃ _ _ _ hb2 _ _ fun Z₄ ρ₄ v₄ s₄ i₄ y₄ e₄ r₄ => p.of hg _ _ _ _ i₄ (y₃'.trans y₄) e₄ r₄
    · refine ht.run A env Z' ρ' σ₂ _ s' c₂ _ _ h3 _ _ fun Z₃ ρ₃ s₃ i₃ y₃ => ?_
      rw [if_neg (by decide)]
      exact wpAny_execs_nil (p.of hg _ _ _ i₃ (y₂.trans (y₃.weaken fun _ f => f.elim)) (e₂.ext y₃))
end
end Mine
end
section
open PySem PySem.W PyProof.Rows
set_option maxRecDepth 100000
set_option linter.unusedVariables false
namespace Mine
open SeqAt

noncomputable def restOf (e : Expr) (gens : List Comprehension) (ifs : List Expr) (emit : Sem Unit) (d : Nat) (acc : Value) (env : Env) : Sem Unit := do
  let ok ← forIn ifs true fun c r => if r = true then do let ok ← isTrue c env (eval c env); pure (ForInStep.yield ok) else pure (ForInStep.yield r)
  if ok = true then
    match gens[d + 1]? with
    | some g' => do
      let x ← eval g'.iter env
      standAt g'.iter.pos
      let x ← if g'.is_async != 0 then foldedIterable g'.iter x else foldedSetIterable g'.iter env x
      let _ ← runOwn (.compStart e (d + 1) (← holding [x] (if g'.is_async != 0 then asyncIter x else pyIter x)) acc env) env
      pure ()
    | none => emit
  else pure ()

noncomputable def turnOf (e : Expr) (gens : List Comprehension) (emit : Sem Unit) (d : Nat) (it acc : Value) (env : Env) (g : Comprehension) : Sem Fin := do
  standAt g.iter.pos
  match ← pyNext it with
  | none => pure (.done .next)
  | some v =>
    letOwnedTupleGo g.target it v
    assign g.target env v
    restOf e gens g.ifs emit d acc env
    again (.compLoop e d it acc env)

noncomputable def emitOf (e : Expr) (acc : Value) (env : Env) : Sem Unit := match e with
  | .ListComp elt _ _ _ => do let _ ← call (.builtin "list.append") [acc, ← eval elt env]
  | .DictComp k v _ _ _ => do
        let kv ← eval k env
        let vv ← holding [kv] (eval v env)
        match acc with
        | .ref d => do
          standAt { k.pos with endLine := v.pos.endLine, endCol := v.pos.endCol }
          holding [kv, vv] (dictSet d kv vv)
        | _ => unsupported "internal:dictcomp"
  | _ => unsupported "internal:not-a-comprehension"

theorem turn_list (elt : Expr) (gens) (scope) (pos) (d : Nat) (it acc : Value) (env : PySem.Env) (g : Comprehension) (hg : gens[d]? = some g) (ha : g.is_async = 0) :
   compTurn (.ListComp elt gens scope pos) d it acc env = turnOf (.ListComp elt gens scope pos) gens (emitOf (.ListComp elt gens scope pos) acc env) d it acc env g := by
  unfold compTurn turnOf restOf emitOf
  simp only [hg, ha]
  congr 1
  funext _
  simp
  congr 1
  funext x
  cases x with
  | none => rfl
  | some v =>
    simp
    congr 1
    funext _
    congr 1
    funext _
    congr 1
    funext ok
    cases ok
    · rfl
    · simp
      cases gens[d+1]? with
      | none => simp
      | some g' => by_cases h : g'.is_async = 0 <;> simp [h]
theorem turn_dict (k v : Expr) (gens) (scope) (pos) (d : Nat) (it acc : Value) (env : PySem.Env) (g : Comprehension) (hg : gens[d]? = some g) (ha : g.is_async = 0) :
   compTurn (.DictComp k v gens scope pos) d it acc env = turnOf (.DictComp k v gens scope pos) gens (emitOf (.DictComp k v gens scope pos) acc env) d it acc env g := by
  unfold compTurn turnOf restOf emitOf
  simp only [hg, ha]
  congr 1
  funext _
  simp
  congr 1
  funext x
  cases x with
  | none => rfl
  | some v =>
    simp
    congr 1
    funext _
    congr 1
    funext _
    congr 1
    funext ok
    cases ok
    · rfl
    · simp
      cases gens[d+1]? with
      | none => cases acc <;> simp
      | some g' => by_cases h : g'.is_async = 0 <;> simp [h]

inductive IsComp (gens : List Comprehension) : Expr → Prop
  | list (elt scope pos) : IsComp gens (.ListComp elt gens scope pos)
  | dict (k v scope pos) : IsComp gens (.DictComp k v gens scope pos)
theorem IsComp.turn {gens e} (h : IsComp gens e) (d : Nat) (it acc : Value) (env : PySem.Env) (g : Comprehension) (hg : gens[d]? = some g) (ha : g.is_async = 0) :
    compTurn e d it acc env = turnOf e gens (emitOf e acc env) d it acc env g := by
  cases h with
  | list => exact turn_list _ _ _ _ _ _ _ _ _ hg ha
  | dict => exact turn_dict _ _ _ _ _ _ _ _ _ _ hg ha
theorem IsComp.den_start {gens e} (h : IsComp gens e) {prog w} (d : Nat) (it acc : Value) (env : PySem.Env) :
    (model prog w).den (.compStart e d it acc env) = (compStart e d it acc env).onRaise (fun x => do noteFrame x env; standAt theWindowsPlace) := by cases h <;> rfl
theorem IsComp.den_loop {gens e} (h : IsComp gens e) {prog w} (d : Nat) (it acc : Value) (env : PySem.Env) :
    (model prog w).den (.compLoop e d it acc env) = (compTurn e d it acc env).onRaise (fun x => do noteFrame x env; theTreesLotGoes x) := by cases h <;> rfl
theorem IsComp.under_start {gens e} (h : IsComp gens e) (A : Around) (d : Nat) (it acc : Value) (env : PySem.Env) : A.under (.compStart e d it acc env) = A := by cases h <;> rfl
theorem IsComp.under_loop {gens e} (h : IsComp gens e) (A : Around) (d : Nat) (it acc : Value) (env : PySem.Env) : A.under (.compLoop e d it acc env) = A := by cases h <;> rfl
theorem IsComp.quiet {gens e} (h : IsComp gens e) (d : Nat) (it acc : Value) (env : PySem.Env) : (Code.compLoop e d it acc env).quiet = true := by cases h <;> rfl
theorem IsComp.clauses {gens e} (h : IsComp gens e) : clausesOf e = gens := by cases h <;> rfl

section
variable {prog : Program} {w : World} {A : Around} {E : Value → Shared → Prop} {R : Result → Shared → Prop} {s : Shared}
theorem codeAny_compStart_any {gens : List Comprehension} {e : Expr} {d : Nat} {g : Comprehension} {it acc : Value} {env : PySem.Env} (hc : IsComp gens e) (hg : gens[d]? = some g) (ha : g.is_async = 0)
    (h0 : codeAny (model prog w) A (.compLoop e d it acc env) R s)
    (h : wpAny (model prog w) A (pyIter it) (fun it' s' => codeAny (model prog w) A (.compLoop e d it' acc env) R s') (notedBy (model prog w) A env fun x s' => R (.error x) s') s) :
    codeAny (model prog w) A (.compStart e d it acc env) R s := by
  refine codeAny_of_tree ?_
  rw [hc.den_start, hc.under_start]
  refine wpAny_notedAt ?_
  unfold compStart
  rw [hc.clauses, hg]
  simp only [Option.elim, ha]
  show wpAny _ _ (ask >>= _) _ _ s
  refine wpAny_bind (wpAny_askSetting (wpAny_ite ?_))
  split
  · first
      | exact wpAny_bind (wpAny_pure (wpAny_pure (And.intro rfl h0)))
      | exact wpAny_pure (And.intro rfl h0)
  · first
      | exact wpAny_bind (wpAny_rule (wpAny_bind (wpAny_standAt (wpAny_bind (wpAny_mono h (fun it' s' h' => wpAny_pure (And.intro rfl h')) fun _ _ x => x)))))
      | (refine wpAny_bind (wpAny_rule ?_); show wpAny _ _ (standAt g.iter.pos >>= _) _ _ s; exact wpAny_bind (wpAny_standAt (wpAny_bind (wpAny_mono h (fun it' s' h' => wpAny_pure (And.intro rfl h')) fun _ _ x => x))))

theorem codeAny_compLoop_any {gens : List Comprehension} {e : Expr} {d : Nat} {g : Comprehension} {it acc : Value} {env : PySem.Env} (hc : IsComp gens e) (hg : gens[d]? = some g) (ha : g.is_async = 0) (I : Nat → Shared → Prop)
    (turn : ∀ n s, I n s → wpAny (model prog w) A (pyNext it) (fun r s₁ => match r with
      | none => R (.ok .next) s₁
      | some v => wpAny (model prog w) A (letOwnedTupleGo g.target it v) (fun _ s₁' => wpAny (model prog w) A (assign g.target env v) (fun _ s₂ =>
          wpAny (model prog w) A (restOf e gens g.ifs (emitOf e acc env) d acc env) (fun _ s₃ => ∃ m, m < n ∧ I m s₃) (notedBy (model prog w) A env fun e s' => R (.error e) s') s₂) (notedBy (model prog w) A env fun e s' => R (.error e) s') s₁')
          (notedBy (model prog w) A env fun e s' => R (.error e) s') s₁) (notedBy (model prog w) A env fun e s' => R (.error e) s') s)
    (n : Nat) (h : I n s) : codeAny (model prog w) A (.compLoop e d it acc env) R s := by
  refine codeAny_loop (hc.quiet d it acc env) I (fun n s hI => ?_) n h
  rw [hc.den_loop, hc.under_loop]
  refine wpAny_noted ?_
  rw [hc.turn d it acc env g hg ha]
  unfold turnOf
  refine wpAny_bind (wpAny_standAt (wpAny_bind (wpAny_mono (turn n s hI) (fun r s₁ h₁ => ?_) fun _ _ h' => h')))
  cases r with
  | none => exact wpAny_pure h₁
  | some v =>
    refine wpAny_bind (wpAny_mono h₁ (fun _ s₂ h₂ => wpAny_bind (wpAny_mono h₂ (fun _ s₃ h₃ => wpAny_bind (wpAny_mono h₃ (fun _ s₄ h₄ => wpAny_pure ⟨rfl, h₄⟩) fun _ _ h' => h')) fun _ _ h' => h')) fun _ _ h' => h')
end
end Mine
end
section
open PySem PySem.W PyProof.Rows
set_option maxRecDepth 100000
set_option linter.unusedVariables false
namespace Mine
open SeqAt

abbrev MG := Eta → St → ACell → Option (St × ACell)

noncomputable def NoFrame (A : Around) (a : Addr) : Prop := ∀ fs, A.frames = some fs → ∀ ev ∈ fs, ev.frame ≠ some a

structure CC (X : Cx) (k : Nat) (sc : Scope) (vis : List (Str × Nat)) (A : Around) (cenv : Env) (D : Addr) (Z : Addr → Prop) (ρ : List Addr) (σ : St) (η : Eta) (acc : ACell) (s : Shared) : Prop where
  ec : EC X k sc vis A cenv Z ρ σ η s
  acc : CRel X ρ Z s.heap acc D
  dlive : s.heap.get? D ≠ none
  dfree : Free X Z ρ D
  down : ¬ Own cenv D
  nof : ∀ a, Tur vis cenv a ∨ a = D → NoFrame A a

noncomputable def RestOk (X : Cx) (k : Nat) (sc : Scope) (vis : List (Str × Nat)) (A : Around) (cenv : Env) (D : Addr) (r : Sem Unit) (m : MG) : Prop :=
  ∀ Z ρ σ η acc s, CC X k sc vis A cenv D Z ρ σ η acc s → ∀ σ' acc', m η σ acc = some (σ', acc') → ∀ (Q : Unit → Shared → Prop) (E : Value → Shared → Prop),
    (∀ Z' ρ' s', Inv X Z' ρ' σ' s' → Ext (fun a => Tur vis cenv a ∨ a = D) Z ρ s Z' ρ' s' → EnvRel X Z' ρ' s'.heap cenv vis η → CRel X ρ' Z' s'.heap acc' D → Q () s') → wpAny (model X.prog X.w) A r Q E s
structure SimEm (X : Cx) (k : Nat) (sc : Scope) (vis : List (Str × Nat)) (e : Expr) (m : MG) : Prop where
  run : ∀ A cenv D, RestOk X k sc vis A cenv D (emitOf e (.ref D) cenv) m
structure SimG (X : Cx) (k : Nat) (sc : Scope) (vis : List (Str × Nat)) (e : Expr) (gens : List Comprehension) (ifs : List Expr) (d : Nat) (m : MG) : Prop where
  run : ∀ A cenv D, RestOk X k sc vis A cenv D (restOf e gens ifs (emitOf e (.ref D) cenv) d (.ref D) cenv) m
structure SimF (X : Cx) (k : Nat) (sc : Scope) (vis : List (Str × Nat)) (ifs : List Expr) (m : MT) : Prop where
  run : ∀ A env Z ρ σ η s, EC X k sc vis A env Z ρ σ η s → ∀ b σ', m η σ = some (b, σ') → ∀ Q E, PostB X Z ρ s σ' (Q b) →
    wpAny (model X.prog X.w) A (forIn ifs true fun c r => if r = true then do let ok ← isTrue c env (eval c env); pure (ForInStep.yield ok) else pure (ForInStep.yield r)) Q E s

section
variable {X : Cx} {k : Nat} {sc : Scope} {vis : List (Str × Nat)} {A : Around} {env cenv : Env} {Z : Addr → Prop} {ρ : List Addr} {σ : St} {η : Eta} {s : Shared}

theorem f_nil : SimF X k sc vis [] (tK true) := by
  refine ⟨?_⟩
  intro A env Z ρ σ η s c b σ' e Q E p
  exact wpAny_tests_nil (p.of e _ _ _ c.c.inv (Ext.refl ..))
theorem f_one {x : Expr} {t : MT} (h : SimT X k sc vis x t) : SimF X k sc vis [x] t := by
  refine ⟨?_⟩
  intro A env Z ρ σ η s c b σ' e Q E p
  exact wpAny_tests_one (h.run A env Z ρ σ η s c _ _ e _ _ p)

theorem EC.late2 {T Z' ρ' σ' η' s'} (c : EC X k sc vis A env Z ρ σ η s) (i : Inv X Z' ρ' σ' s') (y : Ext T Z ρ s Z' ρ' s') (e : EnvRel X Z' ρ' s'.heap env vis η')
    (hT : ∀ a, T a → NoFrame A a) : EC X k sc vis A env Z' ρ' σ' η' s' := by
  refine ⟨⟨c.c.hnd, c.c.dep, c.c.uni, ?_, i⟩, c.sc, e, c.top⟩
  obtain ⟨fs, h1, h2⟩ := c.c.frs
  exact ⟨fs, h1, h2.ext y fun ev hev L hL ht => absurd hL (hT L ht fs h1 ev hev)⟩
theorem NoFrame.fresh (c : VC X k A Z ρ σ s) {a : Addr} (h : s.heap.get? a = none) : NoFrame A a := by
  intro fs hfs ev hev hL
  obtain ⟨fs', h1, h2⟩ := c.frs
  rw [hfs] at h1; cases h1
  obtain ⟨_, L, hL', _, _, _, _, m, hn⟩ := h2.each ev hev
  rw [hL] at hL'; cases hL'
  exact ns_there hn h

theorem crel_frm {h : Heap} {c : ACell} {a : Addr} (r : CRel X ρ Z h c a) (hd : c ≠ .dead) : ¬ FCls h a := by
  rintro ⟨o', es', ep', e', hc', hd'⟩
  cases c with
  | dead => exact hd rfl
  | list l => obtain ⟨_, vs, ⟨n, e⟩, _⟩ := r; rw [e] at e'; cases e'; cases hd'
  | dict l => obtain ⟨_, vs, ⟨o, es, ep, e, hc, _⟩, _⟩ := r; rw [e] at e'; cases e'; rw [hc.1] at hc'; injection hc' with q; exact absurd q (by decide)
  | dicti l => obtain ⟨_, vs, ⟨o, es, ep, e, hc, _⟩, _⟩ := r; rw [e] at e'; cases e'; rw [hc.1] at hc'; injection hc' with q; exact absurd q (by decide)
theorem CRel.ext {T Z' ρ' s'} {c : ACell} {a : Addr} (r : CRel X ρ Z s.heap c a) (y : Ext T Z ρ s Z' ρ' s') (ht : ¬ T a) (hr : a ∉ ρ) (hl : s.heap.get? a ≠ none) : CRel X ρ' Z' s'.heap c a := by
  have nz : ¬ Z a → ¬ Z' a := fun nf f => by
    rcases y.fnew a f with f | f | f
    · exact nf f
    · exact hr f
    · exact hl f
  have kp : ∀ o, s.heap.get? a = some o → o.cls ≠ .type "frame" → s'.heap.get? a = some o := fun o e hc => by
    rcases y.keep a o e ht hr with e' | ⟨hc', _⟩
    · exact e'
    · exact absurd hc' hc
  cases c with
  | dead => trivial
  | list l =>
    obtain ⟨h1, vs, ⟨n, e⟩, h3⟩ := r
    exact ⟨nz h1, vs, ⟨n, kp _ e (by show (Value.type "list") ≠ _; decide)⟩, h3.ext y⟩
  | dict l =>
    obtain ⟨h1, vs, ⟨o, es, ep, e, hc, h2⟩, h3⟩ := r
    exact ⟨nz h1, vs, ⟨o, es, ep, kp _ e (by rw [hc.1]; decide), hc, h2⟩, h3.ext y⟩
  | dicti l =>
    obtain ⟨h1, vs, ⟨o, es, ep, e, hc, h2⟩, h3⟩ := r
    exact ⟨nz h1, vs, ⟨o, es, ep, kp _ e (by rw [hc.1]; decide), hc, h2⟩, h3.ext y⟩

theorem CC.step {D acc T Z' ρ' σ' η' acc' s'} (c : CC X k sc vis A cenv D Z ρ σ η acc s) (i : Inv X Z' ρ' σ' s') (y : Ext T Z ρ s Z' ρ' s') (e : EnvRel X Z' ρ' s'.heap cenv vis η') (r : CRel X ρ' Z' s'.heap acc' D)
    (hT : ∀ a, T a → NoFrame A a) : CC X k sc vis A cenv D Z' ρ' σ' η' acc' s' := by
  refine ⟨c.ec.late2 i y e hT, r, ?_, c.dfree.next y c.dlive, c.down, c.nof⟩
  cases q : s.heap.get? D with
  | none => exact absurd q c.dlive
  | some o => obtain ⟨o', e'⟩ := y.alive D o q; rw [e']; exact fun q => nomatch q
theorem CC.next {D acc Z' ρ' σ' s'} (c : CC X k sc vis A cenv D Z ρ σ η acc s) (i : Inv X Z' ρ' σ' s') (y : Ext T0 Z ρ s Z' ρ' s') : CC X k sc vis A cenv D Z' ρ' σ' η acc s' :=
  c.step i y (c.ec.e.ext y) (c.acc.ext y (fun f => f) c.dfree.2.1 c.dlive) fun _ f => f.elim

noncomputable def acL {β : Type} (c : ACell) (f : List AV → Option β) : Option β := match c with
  | .list l => f l
  | _ => none
theorem acL_inv {β : Type} {r : β} {c : ACell} {f : List AV → Option β} {P : ACell → Prop} (e : acL c f = some r) (k : ∀ l, f l = some r → P (.list l)) : P c := by
  cases c with
  | list l => exact k l e
  | _ => exact oN e
noncomputable def gList (m : ME) : MG := fun η σ acc => acL acc fun l => oB (m η σ) fun a σ => if okS l.length then some (σ, .list (l ++ [a])) else none
noncomputable def setD (l : List (List Nat × AV)) (kk : List Nat) (v : AV) : List (List Nat × AV) :=
  if l.any (fun p => p.1 == kk) then l.map fun p => if p.1 == kk then (p.1, v) else p else l ++ [(kk, v)]
theorem CC.turned {D acc h' tk} (c : CC X k sc vis A cenv D Z ρ σ η acc s) (hd : acc ≠ .dead) (al : h'.get? D ≠ none) (hs : Heap.SameBut D s.heap h') :
    Inv X Z ρ σ { s with heap := h', toks := tk } ∧ Ext (fun a => Tur vis cenv a ∨ a = D) Z ρ s Z ρ { s with heap := h', toks := tk } ∧ EnvRel X Z ρ h' cenv vis η ∧ Ext (fun a => a = D) Z ρ s Z ρ { s with heap := h', toks := tk } := by
  have y' : Ext (fun a => a = D) Z ρ s Z ρ { s with heap := h', toks := tk } := Ext.turn (X := X) hs c.dfree (fun _ => al) rfl fun f => absurd f (crel_frm c.acc hd)
  exact ⟨c.ec.c.inv.turn hs c.dfree fun _ => al, y'.weaken fun _ => .inr, c.ec.e.extT y' fun a q => q ▸ c.down, y'⟩

theorem em_list {elt : Expr} {gens scope pos} {m : ME} (h : SimX X k sc vis elt m) : SimEm X k sc vis (.ListComp elt gens scope pos) (gList m) := by
  refine ⟨?_⟩
  intro A cenv D Z ρ σ η acc s c σ' acc' e Q E p
  refine acL_inv (P := fun acc => CC X k sc vis A cenv D Z ρ σ η acc s → wpAny (model X.prog X.w) A (emitOf (.ListComp elt gens scope pos) (.ref D) cenv) Q E s) e (fun l e c => ?_) c
  refine oB_inv e fun a σ₁ h1 e => ifN e fun hz e => ?_
  have e := Option.some.inj e
  replace p := out2 (P := fun σ' acc' => ∀ Z' ρ' s', Inv X Z' ρ' σ' s' → Ext (fun a => Tur vis cenv a ∨ a = D) Z ρ s Z' ρ' s' → EnvRel X Z' ρ' s'.heap cenv vis η → CRel X ρ' Z' s'.heap acc' D → Q () s') e p
  refine wpAny_bind (h.run A cenv Z ρ σ η s c.ec _ _ h1 _ _ fun Z₁ ρ₁ v₁ s₁ i₁ y₁ r₁ => ?_)
  have c₁ := c.next i₁ y₁
  obtain ⟨nz, vs, pl, q⟩ := c₁.acc
  refine wpAny_bind (wpAny_list_append_plain pl (fun h' pl' hs => ?_) (by have := okS_le hz; simp [← q.length]; (first | lia | omega)))
  obtain ⟨i₂, y₂, e₂, y'⟩ := c₁.turned (tk := s₁.toks) (fun q => nomatch q) (by obtain ⟨n, e⟩ := pl'; rw [e]; exact fun q => nomatch q) hs
  exact wpAny_pure (p _ _ _ i₂ ((y₁.weaken fun _ f => f.elim).trans y₂) e₂ ⟨nz, vs ++ [v₁], by simpa using pl', (q.append (VRels.cons r₁ (VRels.nil_iff.mpr rfl))).ext y'⟩)

theorem toStr_dec (q kk : List Nat) : decide (toStr q = toStr kk) = (q == kk) := by
  by_cases e : q = kk
  · rw [e, beq_self_eq_true]; exact decide_eq_true rfl
  · rw [beq_eq_false_iff_ne.mpr e]; exact decide_eq_false fun z => e (toStr_inj z)
theorem VRelD.any {h : Heap} (kk : List Nat) : ∀ {l : List (List Nat × AV)} {es : List (Str × Value)}, VRelD X ρ Z h l es → es.any (fun kv => decide (kv.1 = toStr kk)) = l.any (fun p => p.1 == kk) := by
  intro l
  induction l with
  | nil => intro es r; unfold VRelD at r; rw [r]; rfl
  | cons p l ih =>
    intro es r
    unfold VRelD at r
    obtain ⟨w, t, hq, _, r'⟩ := r
    rw [hq, List.any_cons, List.any_cons, ih r', toStr_dec]
theorem VRelD.put {h : Heap} (kk : List Nat) {v : AV} {vv : Value} (rv : VRel X ρ Z h v vv) : ∀ {l : List (List Nat × AV)} {es : List (Str × Value)}, VRelD X ρ Z h l es →
    VRelD X ρ Z h (l.map fun p => if p.1 == kk then (p.1, v) else p) (es.map fun kv => if kv.1 = toStr kk then (kv.1, vv) else kv) := by
  intro l
  induction l with
  | nil => intro es r; unfold VRelD at r; rw [r]; unfold VRelD; rfl
  | cons p l ih =>
    intro es r
    obtain ⟨q, x⟩ := p
    unfold VRelD at r
    obtain ⟨w, t, hq, rw', r'⟩ := r
    rw [hq, List.map_cons, List.map_cons]
    by_cases e : q = kk
    · rw [if_pos (show (toStr q, w).1 = toStr kk from congrArg toStr e), if_pos (show ((q, x).1 == kk) = true from beq_iff_eq.mpr e)]
      unfold VRelD
      exact ⟨_, _, rfl, rv, ih r'⟩
    · rw [if_neg (show ¬ (toStr q, w).1 = toStr kk from fun z => e (toStr_inj z)), if_neg (show ¬ ((q, x).1 == kk) = true from fun z => e (beq_iff_eq.mp z))]
      unfold VRelD
      exact ⟨_, _, rfl, rw', ih r'⟩
theorem VRelD.snoc {h : Heap} (kk : List Nat) {v : AV} {vv : Value} (rv : VRel X ρ Z h v vv) : ∀ {l : List (List Nat × AV)} {es : List (Str × Value)}, VRelD X ρ Z h l es → VRelD X ρ Z h (l ++ [(kk, v)]) (es ++ [(toStr kk, vv)]) := by
  intro l
  induction l with
  | nil => intro es r; unfold VRelD at r; rw [r, List.nil_append, List.nil_append]; unfold VRelD; exact ⟨_, _, rfl, rv, by unfold VRelD; rfl⟩
  | cons p l ih =>
    intro es r
    unfold VRelD at r
    obtain ⟨w, t, hq, rw', r'⟩ := r
    rw [hq, List.cons_append, List.cons_append]
    unfold VRelD
    exact ⟨_, _, rfl, rw', ih r'⟩
theorem VRelD.stored {h : Heap} {l : List (List Nat × AV)} {es : List (Str × Value)} (kk : List Nat) {v : AV} {vv : Value} (r : VRelD X ρ Z h l es) (rv : VRel X ρ Z h v vv) : VRelD X ρ Z h (setD l kk v) (PySem.stored es (toStr kk) vv) := by
  unfold setD PySem.stored
  rw [VRelD.any kk r]
  by_cases hb : l.any (fun p => p.1 == kk) = true
  · rw [if_pos hb, if_pos hb]; exact VRelD.put kk rv r
  · rw [if_neg hb, if_neg hb]; exact VRelD.snoc kk rv r

noncomputable def unb (η : Eta) (i : Nat) : Bool := match η[i]? with
  | some v => isUb v
  | none => true
noncomputable def loopG : List Binder → MG → MG
  | [], _, _, σ, acc => some (σ, acc)
  | b :: bs, m, η, σ, acc => oB (b η σ) fun η' σ => oB (m η' σ acc) fun σ acc => loopG bs m η σ acc
noncomputable def gFor (own : List Nat) (mi : MI) (m : MG) : MG := fun η σ acc => if own.all (unb η) then oB (mi η σ) fun bs σ => loopG bs m η σ acc else none
noncomputable def gIf (t : MT) (m : MG) : MG := fun η σ acc => oT (t η σ) (fun σ => m η σ acc) (fun σ => some (σ, acc))
noncomputable def OnlyB (own : List Nat) (b : Binder) : Prop := ∀ η σ η' σ', b η σ = some (η', σ') → ∀ i, own.contains i = false → η'[i]? = η[i]?
noncomputable def OnlyI (own : List Nat) (mi : MI) : Prop := ∀ η σ bs σ', mi η σ = some (bs, σ') → ∀ b ∈ bs, OnlyB own b

theorem EnvRel.back {h : Heap} {η' : Eta} (e : EnvRel X Z ρ h cenv vis η') (hb : ∀ i, η[i]? = η'[i]? ∨ unb η i = true) : EnvRel X Z ρ h cenv vis η := by
  have key : ∀ i (av : AV), η[i]? = some av → av = .unbound ∨ η'[i]? = some av := fun i av h => by
    rcases hb i with q | q
    · exact .inr (q ▸ h)
    · unfold unb at q
      rw [h] at q
      cases av with
      | unbound => exact .inl rfl
      | _ => exact Bool.noConfusion q
  obtain ⟨m, hn, hm⟩ := e.ns
  refine ⟨e.kind, e.glob, e.bltn, ⟨m, hn, fun x i av h1 h2 h3 => ?_⟩, fun x i h1 h2 => ?_, e.own, e.ownc, e.apart⟩
  · rcases key i av h3 with q | q
    · exact .inl q
    · exact hm x i av h1 h2 q
  · obtain ⟨c, w, hc, hw, hv⟩ := e.cel x i h1 h2
    refine ⟨c, w, hc, hw, fun av h3 => ?_⟩
    rcases key i av h3 with q | q
    · exact .inl q
    · exact hv av q

inductive CmpI (X : Cx) (own : List Nat) (mB : MG) (σ' : St) (acc' : ACell) (vis : List (Str × Nat)) (cenv : Env) (D : Addr) (W : Addr → Prop) (Z : Addr → Prop) (ρ : List Addr) (η : Eta) (s : Shared) (S : (Addr → Prop) → List Addr → List Binder → Shared → Prop) (n : Nat) (s' : Shared) : Prop where
  | mk (Z' : Addr → Prop) (ρ' : List Addr) (σ₂ : St) (acc₂ : ACell) (r : List Binder) (hn : r.length = n) (ho : ∀ b ∈ r, OnlyB own b) (hl : loopG r mB η σ₂ acc₂ = some (σ', acc')) (i : Inv X Z' ρ' σ₂ s') (y : Ext (fun a => (Tur vis cenv a ∨ a = D) ∨ W a) Z ρ s Z' ρ' s')
      (e : EnvRel X Z' ρ' s'.heap cenv vis η) (st : S Z' ρ' r s') (r : CRel X ρ' Z' s'.heap acc₂ D)
theorem there_of {h h' : Heap} {D : Addr} (k : ∀ o, h.get? D = some o → h'.get? D = some o) (n : h.get? D ≠ none) : h'.get? D ≠ none := by
  cases q2 : h.get? D with
  | none => exact absurd q2 n
  | some o => rw [k o q2]; exact fun q => nomatch q
theorem loop_ok {e : Expr} {gens : List Comprehension} {d : Nat} {g : Comprehension} {own : List Nat} {mB : MG} (hc : IsComp gens e) (hg : gens[d]? = some g) (ha : g.is_async = 0) (hB : SimG X k sc vis e gens g.ifs d mB)
    {D I : Addr} {W : Addr → Prop} {S} (src : Src X k sc vis A cenv g.target I W S) {bs : List Binder} {acc : ACell} (c : CC X k sc vis A cenv D Z ρ σ η acc s) (st : S Z ρ bs s)
    (hW : ∀ a, W a → a ≠ D ∧ NoFrame A a) (ho : ∀ b ∈ bs, OnlyB own b) (hu : own.all (unb η) = true) {σ' : St} {acc' : ACell} (el : loopG bs mB η σ acc = some (σ', acc')) {R : Result → Shared → Prop}
    {Z₀ ρ₀ s₀} (y₀ : Ext (fun a => Tur vis cenv a ∨ a = D) Z₀ ρ₀ s₀ Z ρ s) (hW0 : ∀ a, W a → s₀.heap.get? a = none)
    (hR : ∀ Z' ρ' s', Inv X Z' ρ' σ' s' → Ext (fun a => Tur vis cenv a ∨ a = D) Z₀ ρ₀ s₀ Z' ρ' s' → EnvRel X Z' ρ' s'.heap cenv vis η → CRel X ρ' Z' s'.heap acc' D → Free X Z' ρ' D → s'.heap.get? D ≠ none → R (.ok .next) s') :
    codeAny (model X.prog X.w) A (.compLoop e d (.ref I) (.ref D) cenv) R s := by
  have hT : ∀ a, (Tur vis cenv a ∨ a = D) ∨ W a → NoFrame A a := fun a t => t.elim (c.nof a) fun w => (hW a w).2
  have hD : ¬ W D := fun w => (hW D w).1 rfl
  refine codeAny_compLoop_any hc hg ha (CmpI X own mB σ' acc' vis cenv D W Z ρ η s S) ?_ bs.length ⟨Z, ρ, σ, acc, bs, rfl, ho, el, c.ec.c.inv, Ext.refl .., c.ec.e, st, c.acc⟩
  rintro n s' ⟨Z', ρ', σ₂, acc₂, r, hn, ho', hl, i₂, y₂, e₂, st₂, r₂⟩
  have c₂ := c.step i₂ y₂ e₂ r₂ hT
  cases r with
  | nil =>
    refine src.nil _ _ _ st₂ _ _ fun h' tk hk => ?_
    have hf := src.free _ _ _ _ st₂
    have hk' := fun o e => hk D o hD e
    refine out2 (P := fun σ₂ acc₂ => Inv X Z' ρ' σ₂ { s' with heap := h', toks := tk } → CRel X ρ' Z' h' acc₂ D → R (.ok .next) { s' with heap := h', toks := tk }) (Option.some.inj hl) (fun i r => ?_) (i₂.touch hk fun a w => (hf a w).1)
      (r₂.mono (fun a o f e => hk a o (fun w => (hf a w).1.1 f) e) (fun _ f => f) List.prefix_rfl hk' id)
    exact hR _ _ _ i (Ext.last (X := X) ((y₀.weaken fun a t => .inl t).trans y₂) hk hW0) (e₂.touchW hk hf) r c₂.dfree (there_of hk' c₂.dlive)
  | cons b r =>
    rw [← show r.length + 1 = n from hn]
    refine oB_inv hl fun η₃ σ₃ hb1 hl => oB_inv hl fun σ₄ acc₄ hm hl => ?_
    refine wpAny_mono (src.cons Z' ρ' σ₂ η s' b r c₂.ec st₂ _ _ hb1 (fun s₃ => wpAny (model X.prog X.w) A (restOf e gens g.ifs (emitOf e (.ref D) cenv) d (.ref D) cenv) (fun _ s₃ => ∃ m, m < r.length + 1 ∧
        CmpI X own mB σ' acc' vis cenv D W Z ρ η s S m s₃) (notedBy (model X.prog X.w) A cenv fun e s' => R (.error e) s') s₃) _ ?_) ?_ (fun _ _ q => q)
    · intro Z₃ ρ₃ s₃ i₃ y₃ e₃ st₃
      have r₃ := r₂.ext y₃ (fun t => t.elim (fun t => c.down t.own) hD) c₂.dfree.2.1 c₂.dlive
      have c₃ := c₂.step i₃ y₃ e₃ r₃ fun a t => t.elim (fun t => c.nof a (.inl t)) fun w => (hW a w).2
      refine hB.run A cenv D Z₃ ρ₃ σ₃ η₃ acc₂ s₃ c₃ _ _ hm _ _ fun Z₄ ρ₄ s₄ i₄ y₄ e₄ r₄ => ?_
      have hfr := src.free _ _ _ _ st₃
      refine ⟨r.length, Nat.lt_succ_self _, Z₄, ρ₄, σ₄, acc₄, r, rfl, fun b' h => ho' b' (List.mem_cons_of_mem _ h), hl, i₄, (y₂.trans (y₃.weaken fun a t => t.imp .inl id)).trans (y₄.weaken fun a t => .inl t), e₄.back fun i => ?_,
        src.keep _ _ _ _ _ _ _ _ st₃ (fun a w t => t.elim (fun t => (hfr a w).2 t.own) fun q => (hW a w).1 q) y₄, r₄⟩
      cases hi : own.contains i with
      | true => exact .inr (List.all_eq_true.mp hu i (List.contains_iff_mem.mp hi))
      | false => exact .inl ((ho' b List.mem_cons_self _ _ _ _ hb1 i hi).symm)
    · rintro r₁ s₃ ⟨v, hr, hv⟩
      rw [hr]
      exact hv
end
end Mine
end
section
open PySem PySem.W PyProof.Rows
set_option maxRecDepth 100000
set_option linter.unusedVariables false
namespace Mine
open SeqAt

section
variable {X : Cx} {k : Nat} {sc : Scope} {vis : List (Str × Nat)} {A : Around} {env cenv : Env} {Z : Addr → Prop} {ρ : List Addr} {σ : St} {η : Eta} {s : Shared}

theorem if_run {e : Expr} {gens : List Comprehension} {ifs : List Expr} {d : Nat} {t : MT} {m : MG} (hF : SimF X k sc vis ifs t)
    (h : ∀ A cenv D, RestOk X k sc vis A cenv D (restOf e gens [] (emitOf e (.ref D) cenv) d (.ref D) cenv) m) : SimG X k sc vis e gens ifs d (gIf t m) := by
  refine ⟨?_⟩
  intro A cenv D Z ρ σ η acc s c σ' acc' e' Q E p
  unfold restOf
  refine oT_inv e' (fun σ₁ h1 e' => ?_) fun σ₁ h1 e' => ?_
  · refine wpAny_bind (hF.run A cenv Z ρ σ η s c.ec _ _ h1 _ _ fun Z₁ ρ₁ s₁ i₁ y₁ => ?_)
    exact h A cenv D Z₁ ρ₁ σ₁ η acc s₁ (c.next i₁ y₁) _ _ e' Q E fun Z₂ ρ₂ s₂ i₂ y₂ e₂ r₂ => p _ _ _ i₂ ((y₁.weaken fun _ f => f.elim).trans y₂) e₂ r₂
  · refine wpAny_bind (hF.run A cenv Z ρ σ η s c.ec _ _ h1 _ _ fun Z₁ ρ₁ s₁ i₁ y₁ => ?_)
    rw [if_neg (by decide)]
    have c₁ := c.next i₁ y₁
    have p' := out2 (P := fun σ' acc' => ∀ Z' ρ' s', Inv X Z' ρ' σ' s' → Ext (fun a => Tur vis cenv a ∨ a = D) Z ρ s Z' ρ' s' → EnvRel X Z' ρ' s'.heap cenv vis η → CRel X ρ' Z' s'.heap acc' D → Q () s') (Option.some.inj e') p
    exact wpAny_pure (p' _ _ _ i₁ (y₁.weaken fun _ f => f.elim) c₁.ec.e c₁.acc)
theorem g_last {e : Expr} {gens : List Comprehension} {ifs : List Expr} {d : Nat} {t : MT} {mE : MG} (hF : SimF X k sc vis ifs t) (hE : SimEm X k sc vis e mE) (hg : gens[d + 1]? = none := by rfl) : SimG X k sc vis e gens ifs d (gIf t mE) :=
  if_run hF fun A cenv D => by
    unfold restOf
    rw [hg]
    exact hE.run A cenv D

theorem cellsFrom_spec : ∀ (names : List (Str × NameKind)) (h : Heap) (acc : List (Str × Addr)), ∃ new, cellsFrom h.objs.size names acc = new ++ acc ∧
    (∀ n c, (n, c) ∈ new → h.get? c = none ∧ (pushCells h names).IsCell c none ∧ (n, NameKind.cell) ∈ names) ∧ (new.Pairwise fun x y => x.2 ≠ y.2) ∧ (∀ n, (n, NameKind.cell) ∈ names → ∃ c, (n, c) ∈ new)
  | [], h, acc => ⟨[], rfl, fun _ _ m => (nomatch m), .nil, fun _ m => (nomatch m)⟩
  | (name, kind) :: r, h, acc => by
    unfold cellsFrom pushCells
    by_cases hk : kind = .cell
    · subst hk
      simp only [beq_self_eq_true, if_true]
      obtain ⟨new, e, h1, h2, h3⟩ := cellsFrom_spec r (h.push { cls := .type "cell", data := .cell none }) ((name, h.objs.size) :: acc)
      rw [Heap.size_push] at e
      have hsz : (h.push { cls := .type "cell", data := .cell none }).get? h.objs.size = some { cls := .type "cell", data := .cell none } := Heap.get?_push_size _ rfl
      refine ⟨new ++ [(name, h.objs.size)], by rw [e]; simp, fun n c m => ?_, ?_, fun n m => ?_⟩
      · rcases List.mem_append.mp m with m | m
        · obtain ⟨a1, a2, a3⟩ := h1 n c m
          refine ⟨?_, a2, List.mem_cons_of_mem _ a3⟩
          cases q : h.get? c with
          | none => rfl
          | some o => rw [Heap.get?_push_of_some _ q] at a1; cases a1
        · simp at m
          obtain ⟨rfl, rfl⟩ := m
          exact ⟨none_size h, ⟨_, pushCells_keeps r _ _ _ hsz, rfl⟩, List.mem_cons_self⟩
      · refine List.pairwise_append.mpr ⟨h2, List.pairwise_singleton _ _, fun x hx y hy q => ?_⟩
        simp at hy; subst hy
        have := (h1 x.1 x.2 hx).1
        rw [q, hsz] at this; cases this
      · rcases List.mem_cons.mp m with m | m
        · cases m; exact ⟨_, List.mem_append_right _ List.mem_cons_self⟩
        · obtain ⟨c, hc⟩ := h3 n m; exact ⟨c, List.mem_append_left _ hc⟩
    · have : (kind == NameKind.cell) = false := by simpa using hk
      simp only [this, Bool.false_eq_true, if_false]
      obtain ⟨new, e, h1, h2, h3⟩ := cellsFrom_spec r h acc
      refine ⟨new, e, fun n c m => ⟨(h1 n c m).1, (h1 n c m).2.1, List.mem_cons_of_mem _ (h1 n c m).2.2⟩, h2, fun n m => ?_⟩
      rcases List.mem_cons.mp m with m | m
      · cases m; exact absurd rfl hk
      · exact h3 n m

noncomputable def frees (scope : Scope) : List Str := ((scope.names.filter fun p => p.2 == .free).map (·.1)).reverse
noncomputable def closOf (scope : Scope) (env : Env) : List (Str × Addr) := (frees scope).map fun n => (n, (env.cells.lookup n).getD 0)
theorem closureFor_pure {scope : Scope} (h : ∀ n ∈ frees scope, (env.cells.lookup n).isSome = true) : closureFor scope env = pure (closOf scope env) := by
  have key : ∀ (names : List (Str × NameKind)) (acc : List (Str × Addr)), (∀ n ∈ ((names.filter fun p => p.2 == .free).map (·.1)).reverse, (env.cells.lookup n).isSome = true) →
      (forIn names acc fun x r => if (x.2 == NameKind.free) = true then do let y ← cellOf env x.1; pure (ForInStep.yield ((x.1, y) :: r)) else pure (ForInStep.yield r) : Sem (List (Str × Addr)))
        = pure ((((names.filter fun p => p.2 == .free).map (·.1)).reverse.map fun n => (n, (env.cells.lookup n).getD 0)) ++ acc) := by
    intro names
    induction names with
    | nil => intro acc _; rfl
    | cons p r ih =>
      intro acc hh
      obtain ⟨n, kd⟩ := p
      rw [List.forIn_cons]
      by_cases hk : kd = .free
      · subst hk
        have hn := hh n (by simp)
        obtain ⟨c, hc⟩ := Option.isSome_iff_exists.mp hn
        have hce : cellOf env n = pure c := by unfold cellOf; rw [hc]
        simp only [beq_self_eq_true, if_true, hce, pure_bind]
        rw [ih _ (fun m hm => hh m (by simp at hm ⊢; exact .inl hm))]
        simp [hc]
      · have : (kd == NameKind.free) = false := by simpa using hk
        simp only [this, Bool.false_eq_true, if_false, pure_bind]
        rw [ih _ (fun m hm => hh m (by simpa [this] using hm))]
        simp [this]
  have := key scope.names [] h
  unfold closureFor closOf frees
  simp only [List.append_nil] at this
  simp only [pure_bind, bind_pure] at this ⊢
  exact this

noncomputable def relS (scope sc : Scope) : Scope :=
  { scope with names := scope.names.map fun (n, k) => if (k == .free && sc.kind == .function && sc.names.lookup n == some .cell) then (n, .cell) else (n, k) }
theorem relabel_eq {scope : Scope} (h : env.scope = sc) : relabel scope env = relS scope sc := by subst h; rfl

noncomputable def compOk (sc scope : Scope) (vis vis2 : List (Str × Nat)) (own : List Nat) : Bool :=
  scope.kind == .function && decide ((scope.names.map (·.1)).Nodup) && ((relS scope sc).names.lookup (".0" : Str)).isSome &&
  (scope.names.all fun p => p.2 != .free || (!own1 vis2 p.1 && (sc.names.lookup p.1 == some .cell || sc.names.lookup p.1 == some .free) && (vis.lookup p.1).isSome)) &&
  vis2.all fun p => match (relS scope sc).names.lookup p.1 with
    | some .local => own.contains p.2
    | some .cell => if scope.names.contains (p.1, .cell) then own.contains p.2 else scope.names.contains (p.1, .free) && vis.lookup p.1 == some p.2
    | some .free => if scope.names.contains (p.1, .cell) then own.contains p.2 else scope.names.contains (p.1, .free) && vis.lookup p.1 == some p.2
    | _ => true

theorem lookup_nodup : ∀ {names : List (Str × NameKind)} {x : Str} {kd : NameKind}, (names.map (·.1)).Nodup → (x, kd) ∈ names → names.lookup x = some kd
  | (n, k) :: r, x, kd, hn, hm => by
    simp only [List.map_cons, List.nodup_cons] at hn
    rw [List.lookup_cons]
    rcases List.mem_cons.mp hm with e | hm'
    · cases e; simp
    · have : (x == n) = false := by
        rw [beq_eq_false_iff_ne]
        rintro rfl
        exact hn.1 (List.mem_map.mpr ⟨(x, kd), hm', rfl⟩)
      rw [this]
      exact lookup_nodup hn.2 hm'
theorem mem_frees {scope : Scope} {n : Str} : n ∈ frees scope ↔ (n, NameKind.free) ∈ scope.names := by
  unfold frees
  simp
theorem lookup_some_of_mem : ∀ {l : List (Str × Addr)} {n : Str} {c : Addr}, (n, c) ∈ l → ∃ c', l.lookup n = some c'
  | (x, y) :: r, n, c, h => by
    rw [List.lookup_cons]
    cases hb : n == x with
    | true => exact ⟨_, rfl⟩
    | false =>
      rcases List.mem_cons.mp h with e | h
      · cases e; simp at hb
      · exact lookup_some_of_mem h
theorem lookup_append_some {l r : List (Str × Addr)} {n : Str} : (l ++ r).lookup n = match l.lookup n with | some c => some c | none => r.lookup n := by
  induction l with
  | nil => rfl
  | cons p l ih =>
    obtain ⟨x, y⟩ := p
    simp only [List.cons_append, List.lookup_cons]
    cases n == x <;> simp [ih]

structure COk (sc scope : Scope) (vis vis2 : List (Str × Nat)) (own : List Nat) : Prop where
  kind : scope.kind = .function
  nd : (scope.names.map (·.1)).Nodup
  dot : ((relS scope sc).names.lookup (".0" : Str)).isSome = true
  free : ∀ n, (n, NameKind.free) ∈ scope.names → own1 vis2 n = false ∧ (sc.names.lookup n = some .cell ∨ sc.names.lookup n = some .free) ∧ ∃ i, vis.lookup n = some i
  loc : ∀ x i, vis2.lookup x = some i → (relS scope sc).names.lookup x = some .local → own.contains i = true
  cel : ∀ x i, vis2.lookup x = some i → ((relS scope sc).names.lookup x = some .cell ∨ (relS scope sc).names.lookup x = some .free) →
    ((x, NameKind.cell) ∈ scope.names ∧ own.contains i = true) ∨ ((x, NameKind.cell) ∉ scope.names ∧ (x, NameKind.free) ∈ scope.names ∧ vis.lookup x = some i)
theorem compOk_is {sc scope : Scope} {vis vis2 : List (Str × Nat)} {own : List Nat} (ok : compOk sc scope vis vis2 own = true) : COk sc scope vis vis2 own := by
  unfold compOk at ok
  obtain ⟨ok, hvis⟩ := Bool.and_eq_true_iff.mp ok
  obtain ⟨ok, hfree⟩ := Bool.and_eq_true_iff.mp ok
  obtain ⟨ok, hdot⟩ := Bool.and_eq_true_iff.mp ok
  obtain ⟨hkind, hnd⟩ := Bool.and_eq_true_iff.mp ok
  have hfree := List.all_eq_true.mp hfree
  have hvis := List.all_eq_true.mp hvis
  have kind : scope.kind = .function := by revert hkind; cases scope.kind <;> first | (intro; rfl) | exact fun q => Bool.noConfusion q
  refine ⟨kind, of_decide_eq_true hnd, hdot, fun n hn => ?_, fun x i h1 h2 => ?_, fun x i h1 h2 => ?_⟩
  · have h1 := hfree _ hn
    simp only [bne_self_eq_false, Bool.false_or, Bool.and_eq_true, Bool.not_eq_true', Bool.or_eq_true, beq_iff_eq] at h1
    exact ⟨h1.1.1, h1.1.2, Option.isSome_iff_exists.mp h1.2⟩
  · have hv := hvis _ (mem_of_lookup h1)
    rw [h2] at hv; exact hv
  · have hv : (if scope.names.contains (x, NameKind.cell) = true then own.contains i else scope.names.contains (x, NameKind.free) && vis.lookup x == some i) = true := by
      have hv := hvis _ (mem_of_lookup h1)
      rcases h2 with q | q <;> (rw [q] at hv; exact hv)
    by_cases hc : scope.names.contains (x, NameKind.cell) = true
    · rw [if_pos hc] at hv
      exact .inl ⟨List.contains_iff_mem.mp hc, hv⟩
    · rw [if_neg hc] at hv
      have hv := Bool.and_eq_true_iff.mp hv
      exact .inr ⟨fun q => hc (List.contains_iff_mem.mpr q), List.contains_iff_mem.mp hv.1, beq_iff_eq.mp hv.2⟩

structure CEnv (X : Cx) (Z : Addr → Prop) (ρ : List Addr) (s : Shared) (env cenv : Env) (sc2 : Scope) (vis2 : List (Str × Nat)) (η : Eta) (h' : Heap) : Prop where
  sc : cenv.scope = sc2
  e : EnvRel X Z ρ h' cenv vis2 η
  loc : s.heap.get? cenv.locals = none
  tur : ∀ a, Tur vis2 cenv a → s.heap.get? a = none
  own : ∀ a, Own cenv a → Own env a ∨ s.heap.get? a = none

structure ClosIs (scope : Scope) (env : Env) (vis vis2 : List (Str × Nat)) (n : Str) (a : Addr) : Prop where
  look : env.cells.lookup n = some a
  at' : ∃ i, vis.lookup n = some i ∧ (env.kindOf n = some .cell ∨ env.kindOf n = some .free)
  own : own1 vis2 n = false
theorem clos_is {scope : Scope} {vis2 : List (Str × Nat)} {own : List Nat} (c : EC X k sc vis A env Z ρ σ η s) (ok : COk sc scope vis vis2 own) {n : Str} {a : Addr} (hm : (n, a) ∈ closOf scope env) : ClosIs scope env vis vis2 n a := by
  unfold closOf at hm
  obtain ⟨m, hm1, hm2⟩ := List.mem_map.mp hm
  have e1 : m = n := congrArg Prod.fst hm2
  have e2 : (env.cells.lookup m).getD 0 = a := congrArg Prod.snd hm2
  rw [e1] at hm1 e2
  obtain ⟨h1, h2, i, hi⟩ := ok.free n (mem_frees.mp hm1)
  have h2' : env.kindOf n = some .cell ∨ env.kindOf n = some .free := by unfold Env.kindOf; rw [c.sc]; exact h2
  obtain ⟨cc, w, hcc, _⟩ := c.e.cel n i hi h2'
  rw [hcc] at e2
  exact ⟨hcc.trans (congrArg some e2), ⟨i, hi, h2'⟩, h1⟩
theorem unb_none {own : List Nat} (hu : own.all (unb η) = true) {i : Nat} (hi : own.contains i = true) {av : AV} (h3 : η[i]? = some av) : av = .unbound := by
  have := List.all_eq_true.mp hu i (List.contains_iff_mem.mp hi)
  unfold unb at this
  rw [h3] at this
  cases av with
  | unbound => rfl
  | _ => exact Bool.noConfusion this
structure NewCells (s : Shared) (scope : Scope) (L : Addr) (h' : Heap) (new : List (Str × Addr)) : Prop where
  is : ∀ n a, (n, a) ∈ new → s.heap.get? a = none ∧ a ≠ L ∧ h'.IsCell a none ∧ (n, NameKind.cell) ∈ scope.names
  pw : new.Pairwise fun x y => x.2 ≠ y.2
  all : ∀ n, (n, NameKind.cell) ∈ scope.names → ∃ c, (n, c) ∈ new
theorem cenv_rel {scope : Scope} {vis2 : List (Str × Nat)} {own : List Nat} (c : EC X k sc vis A env Z ρ σ η s) (ok : COk sc scope vis vis2 own) (hu : own.all (unb η) = true) {cenv : Env} {h' : Heap} {new : List (Str × Addr)}
    (hsc : cenv.scope = relS scope sc) (hg : cenv.globals = mainGlobals) (hb : cenv.builtins = builtinsNs) (hc : cenv.cells = new ++ closOf scope env) (hL : s.heap.get? cenv.locals = none) (kp : ∀ b o, s.heap.get? b = some o → h'.get? b = some o)
    (hns : h'.Ns cenv.locals (fun _ => none)) (nw : NewCells s scope cenv.locals h' new) : CEnv X Z ρ s env cenv (relS scope sc) vis2 η h' := by
  have fr : ∀ {a}, s.heap.get? a = none → ¬ Z a ∧ a ∉ ρ ∧ X.H₀.get? a = none := fun {a} h => by
    refine ⟨fun f => ?_, fun f => ?_, ?_⟩
    · obtain ⟨o, e⟩ := c.c.inv.fr _ f; rw [h] at e; exact nomatch e
    · obtain ⟨⟨o, e⟩, _⟩ := c.c.inv.old _ f; rw [h] at e; exact nomatch e
    · cases q : X.H₀.get? a with
      | none => rfl
      | some o => have := c.c.inv.base _ _ q; rw [h] at this; exact nomatch this
  have kd : ∀ x, cenv.kindOf x = (relS scope sc).names.lookup x := fun x => by unfold Env.kindOf; rw [hsc]
  have cellKp : ∀ {a w}, s.heap.IsCell a w → h'.IsCell a w := fun ⟨o, ho, hd⟩ => ⟨o, kp _ _ ho, hd⟩
  refine ⟨hsc, ⟨by rw [hsc]; exact ok.kind, hg, hb, ⟨_, hns, fun x i av h1 h2 h3 => .inl (unb_none hu (ok.loc x i h1 ((kd x).symm.trans h2)) h3)⟩, fun x i h1 h2 => ?_, fr hL, fun n a hm => ?_, ?_⟩, hL, fun a t => ?_, fun a t => ?_⟩
  · rw [kd, hc] at *
    rcases ok.cel x i h1 h2 with ⟨h3, h4⟩ | ⟨h3, h4, h5⟩
    · obtain ⟨c1, hc1⟩ := nw.all x h3
      obtain ⟨c2, hc2⟩ := lookup_some_of_mem hc1
      exact ⟨c2, none, by rw [lookup_append_some, hc2], (nw.is x c2 (mem_of_lookup hc2)).2.2.1, fun av h3 => .inl (unb_none hu h4 h3)⟩
    · have hm : (x, (env.cells.lookup x).getD 0) ∈ closOf scope env := List.mem_map.mpr ⟨x, mem_frees.mpr h4, rfl⟩
      obtain ⟨hl, ⟨i', hi', hk'⟩, _⟩ := clos_is c ok hm
      obtain ⟨cc, w, hcc, hw, hcv⟩ := c.e.cel x i' hi' hk'
      rw [← Option.some.inj (h5.symm.trans hi')] at hcv
      have hnn : new.lookup x = none := by
        cases q : new.lookup x with
        | none => rfl
        | some c' => exact absurd (nw.is x c' (mem_of_lookup q)).2.2.2 h3
      obtain ⟨c', hc'⟩ := lookup_some_of_mem hm
      rw [Option.some.inj ((clos_is c ok (mem_of_lookup hc')).look.symm.trans hcc)] at hc'
      exact ⟨cc, w, by rw [lookup_append_some, hnn]; exact hc', cellKp hw, fun av h3 => (hcv av h3).imp id fun h => h.imp fun v z => ⟨z.1, z.2.mono (fun a o _ e => kp a o e) (fun _ f => f) List.prefix_rfl⟩⟩
  · rw [hc] at hm
    rcases List.mem_append.mp hm with hm | hm
    · obtain ⟨h1, h2, h3, _⟩ := nw.is n a hm
      have f := fr h1
      exact ⟨f.1, f.2.1, f.2.2, h2, none, h3⟩
    · obtain ⟨a1, a2, a3, a4, w, hw⟩ := c.e.ownc n a (mem_of_lookup (clos_is c ok hm).look)
      exact ⟨a1, a2, a3, fun q => isCell_there hw (q ▸ hL), w, cellKp hw⟩
  · rw [hc]
    refine List.pairwise_append.mpr ⟨nw.pw, ?_, fun x hx y hy q => ?_⟩
    · unfold closOf
      rw [List.pairwise_map]
      have : (frees scope).Nodup := by
        unfold frees
        exact List.pairwise_reverse.mpr (List.Pairwise.imp Ne.symm (ok.nd.sublist ((List.filter_sublist).map _)))
      refine this.imp_of_mem fun {n m} hn hm hne q => hne ?_
      have l1 := (clos_is c ok (List.mem_map.mpr ⟨n, hn, rfl⟩)).look
      have l2 := (clos_is c ok (List.mem_map.mpr ⟨m, hm, rfl⟩)).look
      rw [← show (env.cells.lookup n).getD 0 = (env.cells.lookup m).getD 0 from q] at l2
      exact name_of_addr c.e.apart (mem_of_lookup l1) (mem_of_lookup l2)
    · obtain ⟨_, _, _, _, w, hw⟩ := c.e.ownc y.1 y.2 (mem_of_lookup (clos_is c ok hy).look)
      exact isCell_there hw (q ▸ (nw.is x.1 x.2 hx).1)
  · rcases t with q | ⟨n, hm, h1⟩
    · rw [q]; exact hL
    · rw [hc] at hm
      rcases List.mem_append.mp hm with hm | hm
      · exact (nw.is n a hm).1
      · rw [(clos_is c ok hm).own] at h1; exact Bool.noConfusion h1
  · rcases t with q | ⟨n, hm⟩
    · rw [q]; exact .inr hL
    · rw [hc] at hm
      rcases List.mem_append.mp hm with hm | hm
      · exact .inr (nw.is n a hm).1
      · exact .inl (.inr ⟨n, mem_of_lookup (clos_is c ok hm).look⟩)
theorem new_cells {scope : Scope} {h : Heap} {o : Obj} (ho : o.isFreed = false) {s : Shared} (hs : s.heap = h) {h' : Heap} (h'q : h' = pushCells (h.push o) scope.names) {cl new : List (Str × Addr)} (e : cellsFrom (h.push o).objs.size scope.names cl = new ++ cl)
    (hn1 : ∀ n c, (n, c) ∈ new → (h.push o).get? c = none ∧ (pushCells (h.push o) scope.names).IsCell c none ∧ (n, NameKind.cell) ∈ scope.names) (pw : new.Pairwise fun x y => x.2 ≠ y.2) (all : ∀ n, (n, NameKind.cell) ∈ scope.names → ∃ c, (n, c) ∈ new) :
    NewCells s scope h.objs.size h' new where
  is := fun n a hm => by
    obtain ⟨h1, h2, h3⟩ := hn1 n a hm
    refine ⟨?_, fun q => ?_, h'q ▸ h2, h3⟩
    · rw [hs]
      cases q : h.get? a with
      | none => rfl
      | some o => rw [Heap.get?_push_of_some _ q] at h1; exact nomatch h1
    · rw [q, Heap.get?_push_size _ ho] at h1; exact nomatch h1
  pw := pw
  all := all

theorem cenv_ok {scope : Scope} {vis2 : List (Str × Nat)} {own : List Nat} (c : EC X k sc vis A env Z ρ σ η s) (ok : COk sc scope vis vis2 own) (hu : own.all (unb η) = true) {Q : Env → Shared → Prop} {E}
    (h : ∀ cenv h', cenv.locals = s.heap.objs.size → (∀ b o, s.heap.get? b = some o → h'.get? b = some o) → h'.Ns cenv.locals (fun _ => none) → CEnv X Z ρ s env { cenv with scope := relabel scope env } (relS scope sc) vis2 η h' → Q cenv { s with heap := h' }) :
    wpAny (model X.prog X.w) A (newFunctionEnv scope env.globals (closOf scope env) [] env.qual none .none (some env)) Q E s := by
  simp only [newFunctionEnv, Option.isSome_some, if_true]
  refine wpAny_bind (wpAny_alloc ?_)
  refine wpAny_bind (wpAny_layCells _ (fun name kind cells => by cases hkc : kind == NameKind.cell <;> simp [hkc]) _ _ _ _ ?_)
  rw [List.forIn_nil]
  refine wpAny_bind (wpAny_pure (wpAny_pure ?_))
  obtain ⟨new, hnew, hn1, hn2, hn3⟩ := cellsFrom_spec scope.names (s.heap.push { cls := .type "dict", data := .dict #[] }) (closOf scope env)
  have nw := new_cells (h' := pushCells (s.heap.push { cls := .type "dict", data := .dict #[] }) scope.names) (o := { cls := .type "dict", data := .dict #[] }) rfl rfl rfl hnew hn1 hn2 hn3
  have kp : ∀ b o, s.heap.get? b = some o → (pushCells (s.heap.push { cls := .type "dict", data := .dict #[] }) scope.names).get? b = some o := fun b o e => pushCells_keeps _ _ _ _ (Heap.get?_push_of_some _ e)
  have hns : (pushCells (s.heap.push { cls := .type "dict", data := .dict #[] }) scope.names).Ns s.heap.objs.size (fun _ => none) := (Heap.Ns.new s.heap (.type "dict")).at' fun o e => pushCells_keeps _ _ _ _ e
  exact h _ _ rfl kp hns (cenv_rel c ok hu (relabel_eq c.sc) c.e.glob c.e.bltn hnew (none_size _) kp hns nw)
end
end Mine
end
section
open PySem PySem.W PyProof.Rows
set_option maxRecDepth 100000
set_option linter.unusedVariables false
namespace Mine
open SeqAt

section
variable {X : Cx} {k : Nat} {sc : Scope} {vis : List (Str × Nat)} {A : Around} {env cenv : Env} {Z : Addr → Prop} {ρ : List Addr} {σ : St} {η : Eta} {s : Shared}

theorem Inv.freeze {D : Addr} (i : Inv X Z ρ σ s) (hr : D ∉ ρ) (hl : s.heap.get? D ≠ none) : Inv X (fun a => Z a ∨ a = D) ρ σ s where
  base := i.base
  fr := fun a f => by
    rcases f with f | rfl
    · exact i.fr a f
    · cases q : s.heap.get? a with
      | none => exact absurd q hl
      | some o => exact ⟨o, rfl⟩
  len := i.len
  nd := i.nd
  old := i.old
  cells := fun n a c h1 h2 => (i.cells n a c h1 h2).mono (fun _ _ _ e => e) (fun _ f => .inl f) List.prefix_rfl (fun _ e => e) fun nf f => f.elim nf fun q => hr (q ▸ List.mem_of_getElem? h1)
theorem Ext.freeze {T Z ρ s Z' ρ' s'} {D : Addr} (y : Ext T Z ρ s Z' ρ' s') (hn : s.heap.get? D = none) : Ext T Z ρ s (fun a => Z' a ∨ a = D) ρ' s' :=
  { y with
    fmono := fun a f => .inl (y.fmono a f)
    fnew := fun a f => f.elim (y.fnew a) fun q => .inr (.inr (q ▸ hn)) }
structure NewAcc (prog : Program) (w : World) (newAcc : Sem Value) (acc : ACell) (o : Obj) : Prop where
  make : ∀ A (s : Shared) (Q : Value → Shared → Prop) E, Q (.ref s.heap.objs.size) { s with heap := s.heap.push o } → wpAny (model prog w) A newAcc Q E s
  live : o.isFreed = false
  rel : ∀ (X : Cx) Z ρ (h : Heap), X.prog = prog → X.w = w → ¬ Z h.objs.size → CRel X ρ Z (h.push o) acc h.objs.size
theorem newAcc_list {prog w} : NewAcc prog w (newList []) (.list []) { cls := .type "list", data := .seq #[] } where
  make := fun A s Q E h => wpAny_newObj_type h
  live := rfl
  rel := fun X Z ρ h _ _ hz => ⟨hz, [], ⟨0, Heap.get?_push_size _ rfl⟩, VRels.nil_iff.mpr rfl⟩
theorem comp_core {e : Expr} {g : Comprehension} {gs : List Comprehension} {scope : Scope} {pos : Pos} {newAcc : Sem Value} {acc₀ : ACell} {o₀ : Obj} {vis2 : List (Str × Nat)} {own : List Nat} {mi : MI} {mB : MG} {use : Option (Value → Sem Unit)}
    (hc : IsComp (g :: gs) e) (ha : g.is_async = 0) (hs : ∀ env x, foldedSetIterable g.iter env x = pure x) (na : NewAcc X.prog X.w newAcc acc₀ o₀) (ok : compOk sc scope vis vis2 own = true)
    (hI : SimI X k sc vis (relS scope sc) vis2 g.iter g.target mi) (hO : OnlyI own mi) (hB : SimG X k (relS scope sc) vis2 e (g :: gs) g.ifs 0 mB)
    (c : EC X k sc vis A env Z ρ σ η s) {σ' : St} {acc' : ACell} (el : gFor own mi mB η σ acc₀ = some (σ', acc')) {Q : Value → Shared → Prop} {E : Value → Shared → Prop}
    (hfin : ∀ Z' ρ' s' D C, Inv X Z' ρ' σ' s' → Ext T0 Z ρ s Z' ρ' s' → CRel X ρ' Z' s'.heap acc' D → Free X Z' ρ' D → s.heap.get? D = none → s'.heap.get? D ≠ none → Free X Z' ρ' C → s.heap.get? C = none → (∃ m, s'.heap.Ns C m) → C ≠ D → (D == sysModules) = false →
      compPost (model X.prog X.w) A E use Q (.ref D) C (.ok .next) s') :
    wpAny (model X.prog X.w) A (comprehension e scope env pos newAcc false (eval g.iter env) use) Q E s := by
  have ok := compOk_is ok
  refine ifN el fun hu el => oB_inv el fun bs σ₁ h1 el => ?_
  refine wpAny_comprehension_free hc.clauses (hs env) (closureFor_pure fun n hn => ?_) ok.kind (fun x hx hl => lookup_nodup ok.nd (by rw [← hl]; exact hx))
    (hI.run A env Z ρ σ η s c bs σ₁ h1 (fun it s₂ => wpAny (model X.prog X.w) A newAcc (fun acc s₃ => wpAny (model X.prog X.w) A (newFunctionEnv scope env.globals (closOf scope env) [] env.qual none .none (some env)) (fun cenv s₄ =>
      codeAny (model X.prog X.w) A (.compStart e 0 it acc { cenv with scope := relabel scope env }) (compPost (model X.prog X.w) A E use Q acc cenv.locals) s₄) E s₃) E s₂) E ?_)
  · obtain ⟨_, h2, i, hi⟩ := ok.free n (mem_frees.mp hn)
    have h2' : env.kindOf n = some .cell ∨ env.kindOf n = some .free := by unfold Env.kindOf; rw [c.sc]; exact h2
    obtain ⟨cc, w, hcc, _⟩ := c.e.cel n i hi h2'
    rw [hcc]; rfl
  · rintro Z₂ ρ₂ s₂ I i₂ y₂ ⟨W, hW, hS⟩
    refine na.make _ _ _ _ ?_
    have kD : ∀ b o, s₂.heap.get? b = some o → (s₂.heap.push o₀).get? b = some o := fun b o e => Heap.get?_push_of_some _ e
    have i₃ : Inv X Z₂ ρ₂ σ₁ { s₂ with heap := s₂.heap.push o₀ } := i₂.touch (W := fun _ => False) (tk := s₂.toks) (fun b o' _ e => kD b o' e) fun a f => f.elim
    have y₃ : Ext T0 Z₂ ρ₂ s₂ Z₂ ρ₂ { s₂ with heap := s₂.heap.push o₀ } := Ext.touch (X := X) (W := fun _ => False) (tk := s₂.toks) (fun b o' _ e => kD b o' e) (fun a f => f.elim) (fun a f => f.elim) fun a f => f
    have fD := free_size i₂
    have lD : (s₂.heap.push o₀).get? s₂.heap.objs.size ≠ none := by rw [Heap.get?_push_size _ na.live]; exact fun q => nomatch q
    have rD : CRel X ρ₂ Z₂ (s₂.heap.push o₀) acc₀ s₂.heap.objs.size := na.rel X Z₂ ρ₂ s₂.heap rfl rfl fD.1
    have c₃ := (c.next i₂ y₂).next i₃ y₃
    refine cenv_ok c₃ ok hu fun cenv h' hC kh hns ce => ?_
    have i₄ : Inv X Z₂ ρ₂ σ₁ { s₂ with heap := h' } := i₃.touch (W := fun _ => False) (tk := s₂.toks) (fun b o' _ e => kh b o' e) fun a f => f.elim
    have y₄ : Ext T0 Z₂ ρ₂ { s₂ with heap := s₂.heap.push o₀ } Z₂ ρ₂ { s₂ with heap := h' } := Ext.touch (X := X) (W := fun _ => False) (tk := s₂.toks) (fun b o' _ e => kh b o' e) (fun a f => f.elim) (fun a f => f.elim) fun a f => f
    have c₄ := c₃.next i₄ y₄
    have y24 := y₃.trans y₄
    have y04 := y₂.trans y24
    have al : ∀ a, (s₂.heap.push o₀).get? a = none → s.heap.get? a = none := fun a h => none_of_alive (y₂.trans y₃).alive h
    have dD : s.heap.get? s₂.heap.objs.size = none := none_of_alive y₂.alive (none_size _)
    have lD4 : h'.get? s₂.heap.objs.size ≠ none := by
      cases q : (s₂.heap.push o₀).get? s₂.heap.objs.size with
      | none => exact absurd q lD
      | some o => rw [kh _ _ q]; exact fun q => nomatch q
    have cc : CC X k (relS scope sc) vis2 A { cenv with scope := relabel scope env } s₂.heap.objs.size Z₂ ρ₂ σ₁ η acc₀ { s₂ with heap := h' } := by
      refine ⟨⟨c₄.c, ce.sc, ce.e, fun q => by have hdot := ok.dot; rw [ce.sc] at q; rw [q] at hdot; exact Bool.noConfusion hdot⟩, rD.ext y₄ (fun f => f) fD.2.1 lD, lD4, fD, fun o => ?_, fun a t => ?_⟩
      · rcases ce.own _ o with o | o
        · exact own_there c.e o dD
        · exact lD o
      · rcases t with t | q
        · exact NoFrame.fresh c.c (al a (ce.tur a t))
        · rw [q]; exact NoFrame.fresh c.c dD
    obtain ⟨S, src, hS⟩ := hS { cenv with scope := relabel scope env }
    have hWo : ∀ a, W a → ¬ Own { cenv with scope := relabel scope env } a := fun a w o => by
      rcases ce.own a o with o | o
      · exact own_there c.e o (hW a w).1
      · exact (hW a w).2.1 (none_of_alive y₃.alive o)
    have st := hS Z₂ ρ₂ _ y24 fun a w => ⟨(hW a w).2.2.next y24 (hW a w).2.1, hWo a w⟩
    have loop : codeAny (model X.prog X.w) A (.compLoop e 0 (.ref I) (.ref s₂.heap.objs.size) { cenv with scope := relabel scope env }) (compPost (model X.prog X.w) A E use Q (.ref s₂.heap.objs.size) cenv.locals) { s₂ with heap := h' } := by
      refine loop_ok hc rfl ha hB src cc st (fun a w => ⟨fun q => (hW a w).2.1 (q ▸ none_size _), NoFrame.fresh c.c (hW a w).1⟩) (hO _ _ _ _ h1) hu el (Z₀ := Z) (ρ₀ := ρ) (s₀ := s) (y04.weaken fun _ f => f.elim) (fun a w => (hW a w).1) ?_
      intro Z₅ ρ₅ s₅ i₅ y₅ e₅ r₅ f₅ l₅
      have tf : ∀ a, (Tur vis2 { cenv with scope := relabel scope env } a ∨ a = s₂.heap.objs.size) → T0 a ∨ s.heap.get? a = none := fun a t => t.elim (fun t => .inr (al a (ce.tur a t))) fun q => .inr (q ▸ dD)
      have y05 := y₅.drop tf
      have hC' : s.heap.get? cenv.locals = none := al _ ce.loc
      have hCD : cenv.locals ≠ s₂.heap.objs.size := fun q => lD (q ▸ ce.loc)
      obtain ⟨m, hm, _⟩ := e₅.ns
      exact hfin Z₅ ρ₅ s₅ _ _ i₅ y05 r₅ f₅ dD l₅ ⟨e₅.own.1, e₅.own.2.1, e₅.own.2.2⟩ hC' ⟨m, hm⟩ hCD (size_sys i₂)
    exact codeAny_compStart_any hc rfl ha loop (src.self _ _ _ _ _ _ st loop)
noncomputable def mComp (own : List Nat) (mi : MI) (mB : MG) : ME := fun η σ => oB (gFor own mi mB η σ (.list [])) fun σ c => acL c fun l => some (.list l, σ)
theorem post_comp {acc' : ACell} {av : AV} {σ' : St} {Q : Value → Shared → Prop} {Z' ρ' s'} {D C : Addr} (p : Post X Z ρ s av σ' Q) (hval : ∀ h', (∀ o, s'.heap.get? D = some o → h'.get? D = some o) → Kept Z' s'.heap h' → CRel X ρ' Z' s'.heap acc' D → VRel X ρ' (fun a => Z' a ∨ a = D) h' av (.ref D))
    (i : Inv X Z' ρ' σ' s') (y : Ext T0 Z ρ s Z' ρ' s') (r : CRel X ρ' Z' s'.heap acc' D) (fD : Free X Z' ρ' D) (dD : s.heap.get? D = none) (lD : s'.heap.get? D ≠ none) (fC : Free X Z' ρ' C) (dC : s.heap.get? C = none) (hCD : C ≠ D)
    (h' : Heap) (hs : Heap.SameBut C s'.heap h') : Q (.ref D) { s' with heap := h' } := by
  have hk : ∀ b o, ¬ (b = C) → s'.heap.get? b = some o → h'.get? b = some o := fun b o hb e => (hs.2 b hb).trans e
  have i1 : Inv X Z' ρ' σ' { s' with heap := h' } := i.touch (W := fun a => a = C) (tk := s'.toks) hk fun a q => q ▸ fC
  have y1 : Ext T0 Z ρ s Z' ρ' { s' with heap := h' } := Ext.last (X := X) (W := fun a => a = C) (tk := s'.toks) (y.weaken fun _ f => f.elim) hk fun a q => q ▸ dC
  have kD := fun o q => hk D o (Ne.symm hCD) q
  exact p _ _ _ _ (i1.freeze fD.2.1 (there_of kD lD)) (y1.freeze dD) (hval h' kD (fun a o f e => hk a o (fun q => fC.1 (q ▸ f)) e) r)
theorem val_list {l : List AV} {Z' : Addr → Prop} {ρ' : List Addr} {h h' : Heap} {D : Addr} (kD : ∀ o, h.get? D = some o → h'.get? D = some o) (kz : Kept Z' h h') (r : CRel X ρ' Z' h (.list l) D) : VRel X ρ' (fun a => Z' a ∨ a = D) h' (.list l) (.ref D) := by
  obtain ⟨_, vs, ⟨n, e⟩, q⟩ := r
  unfold VRel
  exact ⟨D, vs, rfl, .inr rfl, ⟨n, kD _ e⟩, q.mono kz (fun _ f => .inl f) List.prefix_rfl⟩
theorem s_lcomp {elt target iter : Expr} {ifs : List Expr} {gs : List Comprehension} {scope : Scope} {pos : Pos} {mi : MI} {mB : MG} (vis2 : List (Str × Nat)) (own : List Nat) (ok : compOk sc scope vis vis2 own = true)
    (hI : SimI X k sc vis (relS scope sc) vis2 iter target mi) (hO : OnlyI own mi) (hB : SimG X k (relS scope sc) vis2 (.ListComp elt (⟨target, iter, ifs, 0⟩ :: gs) scope pos) (⟨target, iter, ifs, 0⟩ :: gs) ifs 0 mB)
    (hs : ∀ env x, foldedSetIterable iter env x = pure x := by intro _ _; rfl) : SimX X k sc vis (.ListComp elt (⟨target, iter, ifs, 0⟩ :: gs) scope pos) (mComp own mi mB) := by
  refine ⟨?_⟩
  intro A env Z ρ σ η s c av σ' e Q E p
  refine oB_inv e fun σ₁ c' h1 e => ?_
  refine acL_inv (P := fun c' => gFor own mi mB η σ (.list []) = some (σ₁, c') → _) e (fun l e h1 => ?_) h1
  replace p := p.of e
  refine comp_core (g := ⟨target, iter, ifs, 0⟩) (use := none) (.list ..) rfl hs newAcc_list ok hI hO hB c h1 fun Z' ρ' s' D C i y r fD dD lD fC dC hm hCD hsys => hm.imp fun m hm => ⟨hm, fun h' hs' => ?_⟩
  exact post_comp p (fun _ kD kz r => val_list kD kz r) i y r fD dD lD fC dC hCD h' hs'
theorem stored_at_once {x : Str} {pos' : Pos} {b : AV → Binder} {η₁ : Eta} {σ₂ σ₃ : St} {av : AV} {Z' : Addr → Prop} {ρ' : List Addr} {s' : Shared} {D C : Addr} {Q : Flow → Shared → Prop} {E : Value → Shared → Prop} (ht : SimA X k sc vis (.Name x pos') b) (c : EC X k sc vis A env Z ρ σ η s) (p : PostS X Z ρ s env vis .next η₁ σ₃ Q E)
    (i : Inv X Z' ρ' σ₂ s') (y : Ext T0 Z ρ s Z' ρ' s') (rv : VRel X ρ' (fun a => Z' a ∨ a = D) s'.heap av (.ref D)) (fD : Free X Z' ρ' D) (dD : s.heap.get? D = none) (lD : s'.heap.get? D ≠ none) (fC : Free X Z' ρ' C) (dC : s.heap.get? C = none) (hC : ∃ m, s'.heap.Ns C m) (hCD : C ≠ D)
    (h2 : b av η σ₂ = some (η₁, σ₃)) {E' : Value → Shared → Prop} :
    wpAny (model X.prog X.w) A (assign (.Name x pos') env (.ref D)) (fun _ s' => ∃ m, s'.heap.Ns C m ∧ ∀ h', Heap.SameBut C s'.heap h' → Q .next { s' with heap := h' }) E' s' := by
  have i1 := i.freeze fD.2.1 lD
  have y1 := y.freeze dD
  refine ht.run A env _ ρ' _ η s' (c.next i1 y1) av (.ref D) rv _ _ h2 _ _ fun Z₂ ρ₂ s₂ i₂ y₂ e₂ => ?_
  obtain ⟨m, hm⟩ := hC
  have lC : s'.heap.get? C ≠ none := ns_there hm
  have fC1 : Free X (fun a => Z' a ∨ a = D) ρ' C := ⟨fun f => f.elim fC.1 hCD, fC.2⟩
  have tC : ¬ Tur vis env C := fun t => own_there c.e t.own dC
  refine ⟨m, ns_keepO (fun o e => y₂.keep C o e tC fC1.2.1) hm, fun h' hs' => ?_⟩
  have hk : ∀ b o, ¬ (b = C) → s₂.heap.get? b = some o → h'.get? b = some o := fun b o hb e => (hs'.2 b hb).trans e
  have fC2 := fC1.next y₂ lC
  exact p _ _ _ (i₂.touch (W := fun a => a = C) (tk := s₂.toks) hk fun a q => q ▸ fC2)
    (Ext.last (X := X) (W := fun a => a = C) (tk := s₂.toks) ((y1.weaken fun _ f => f.elim).trans (y₂.weaken fun _ t => .inl t)) hk fun a q => q ▸ dC)
    (e₂.touchW hk fun a q => q ▸ ⟨fC2, fun t => own_there c.e t dC⟩)
theorem st_asg_lcomp {elt target iter : Expr} {ifs : List Expr} {gs : List Comprehension} {scope : Scope} {pos pos' spos : Pos} {x : Str} {mi : MI} {mB : MG} {b : AV → Binder} (vis2 : List (Str × Nat)) (own : List Nat) (ok : compOk sc scope vis vis2 own = true)
    (hI : SimI X k sc vis (relS scope sc) vis2 iter target mi) (hO : OnlyI own mi) (hB : SimG X k (relS scope sc) vis2 (.ListComp elt (⟨target, iter, ifs, 0⟩ :: gs) scope pos) (⟨target, iter, ifs, 0⟩ :: gs) ifs 0 mB)
    (ht : SimA X k sc vis (.Name x pos') b) (hsw : ByScope sc fun env => swapsWith (.ListComp elt (⟨target, iter, ifs, 0⟩ :: gs) scope pos) (some (.Name x pos')) spos.line env = pure true)
    (hs : ∀ env x, foldedSetIterable iter env x = pure x := by intro _ _; rfl) : SimS X k sc vis (.Assign [.Name x pos'] (.ListComp elt (⟨target, iter, ifs, 0⟩ :: gs) scope pos) spos) (sAsg (mComp own mi mB) b) := by
  refine ⟨?_⟩
  intro A env Z ρ σ η s c o η' σ' e Q E p
  refine oB_inv e fun a σ₁ h0 e => oB_inv h0 fun σ₂ c' h1 h0 => ?_
  refine acL_inv (P := fun c' => gFor own mi mB η σ (.list []) = some (σ₂, c') → _) h0 (fun l h0 h1 => ?_) h1
  have h0 := Option.some.inj h0
  rw [← show _ = a from congrArg Prod.fst h0, ← show _ = σ₁ from congrArg Prod.snd h0] at e
  refine oB_inv e fun η₁ σ₃ h2 e => ?_
  rw [exec_Assign_Name_used _ _ _ _ (hsw env c.sc)]
  refine wpAny_bind (wpAny_standAt (wpAny_bind ?_))
  show wpAny _ A (do let _ ← comprehension (.ListComp elt (⟨target, iter, ifs, 0⟩ :: gs) scope pos) scope env _ (newList []) false (eval iter env) (some (assign (.Name x pos') env))) _ _ s
  refine wpAny_bind (wpAny_mono (comp_core (g := ⟨target, iter, ifs, 0⟩) (use := some (assign (.Name x pos') env)) (Q := fun _ s' => Q .next s') (.list ..) rfl hs newAcc_list ok hI hO hB c h1 fun Z' ρ' s' D C i y r fD dD lD fC dC hC hCD hsys => ?_) (fun _ s' hq => wpAny_pure (wpAny_pure hq)) fun _ _ e => e)
  show wpAny _ A (assign (.Name x pos') env (.ref D)) _ _ _
  exact stored_at_once ht c (p.of e) i y (val_list (fun _ e => e) (fun _ _ _ e => e) r) fD dD lD fC dC hC hCD h2
end
end Mine
end
section
open PySem PySem.W PyProof.Rows
set_option maxRecDepth 100000
set_option linter.unusedVariables false
namespace Mine
open SeqAt

noncomputable def GName (X : Cx) (x : Str) (f : Value) : Prop :=
  ∀ (A : Around) (env : Env) (s : Shared) (Q : Value → Shared → Prop) (E : Value → Shared → Prop), env.globals = mainGlobals → env.builtins = builtinsNs → (∀ b o, X.H₀.get? b = some o → s.heap.get? b = some o) → Q f s → wpAny (model X.prog X.w) A (loadGlobal env x) Q E s

abbrev OpL := List AV → St → Option (AV × St)
structure CallOk (X : Cx) (k : Nat) (f : Value) (op : OpL) : Prop where
  run : ∀ A Z ρ σ s, VC X k A Z ρ σ s → ∀ l vs, VRels X ρ Z s.heap l vs → OpOk X A Z ρ s (call f vs) (op l σ)

section
variable {X : Cx} {k : Nat} {sc : Scope} {vis : List (Str × Nat)} {A : Around} {env cenv : Env} {Z : Addr → Prop} {ρ : List Addr} {σ : St} {η : Eta} {s : Shared}

noncomputable def mCall (r : ML) (op : OpL) : ME := fun η σ => oB (r η σ) fun l σ => op l σ

theorem evalArgs_any {M : Model} {f : Value} {args : List (Bool × Sem Value)} (hp : args.any (·.1) = false) {Q : Args → Shared → Prop} {E} (h : wpAny M A (spliced args) (fun vs s' => Q ⟨vs, []⟩ s') E s) : wpAny M A (evalArgs f true args []) Q E s := by
  match args, hp, h with
  | [], _, h =>
    unfold evalArgs
    show wpAny M A (spliced [] >>= _) Q E s
    refine wpAny_bind (wpAny_mono h (fun vs s' h' => ?_) fun _ _ x => x)
    refine wpAny_holding ?_
    exact wpAny_bind (wpAny_pure (wpAny_bind (wpAny_pure (wpAny_pure h'))))
  | (false, x) :: rest, _, h => exact PySem.Calls.evalArgs_plain h
  | (true, x) :: rest, hp, _ => simp at hp

theorem callWith_machine {M : Model} {pos : Pos} {f : Value} {first : List Value} {args : List (Bool × Sem Value)} {Q : Value → Shared → Prop} {E} (hf : ∀ a, f ≠ .ref a) (hplain : args.any (·.1) = false)
    (h : wpAny M A (spliced args) (fun vs s₁ => wpAny M A (call f (first ++ vs)) Q E s₁) E s) : wpAny M A (callWith pos f first args []) Q E s := by
  have km : keeperOf f = pure Keeper.machine := by
    cases f with
    | ref a => exact absurd rfl (hf a)
    | _ => rfl
  unfold callWith
  refine wpAny_bind (wpAny_holding (wpAny_mono (evalArgs_any (Q := fun a s₁ => wpAny M A (call f (first ++ a.pos) a.kw) Q E s₁) hplain h) (fun a s₁ h₁ => wpAny_bind (wpAny_standAt ?_)) fun _ _ x => x))
  simp only [hplain, List.any_nil, Bool.or_false]
  refine wpAny_bind (wpAny_of_eq km ?_)
  exact wpAny_bind (wpAny_mono h₁ (fun r s₂ hr => wpAny_bind (wpAny_holding (wpAny_point (wpAny_pure hr)))) fun _ _ x => x)

theorem s_call {x : Str} {p pos : Pos} {es : List Expr} {f : Value} {r : ML} {op : OpL} (G : GName X x f) (hf : ∀ a, f ≠ .ref a) (ok : CallOk X k f op) (hr : SimL X k sc vis es r) (hk : sc.names.lookup x = some .globalImplicit := by decide +kernel)
    (hd : (x == ("__debug__" : Str)) = false := by decide +kernel) (hp : ∀ env, (backTo pos (starEach es env)).any (·.1) = false := by intro _; rfl) : SimX X k sc vis (.Call (.Name x p) es [] pos) (mCall r op) := by
  refine ⟨?_⟩
  intro A env Z ρ σ η s c av σ' e Q E p
  refine oB_inv e fun l σ₁ h1 e => ?_
  have hk' : env.kindOf x = some .globalImplicit := by unfold Env.kindOf; rw [c.sc]; exact hk
  refine wpAny_Call_NameR (wpAny_Name ?_ hd)
  rw [PyProof.Rows.loadName_read c.e.kind hk']
  refine G _ _ _ _ _ c.e.glob c.e.bltn c.c.inv.base ?_
  refine callWith_machine hf (hp env) (hr.run A env Z ρ σ η s pos c _ _ h1 _ _ fun Z₁ ρ₁ vs₁ s₁ i₁ y₁ r₁ => ?_)
  exact ok.run A Z₁ ρ₁ σ₁ s₁ (c.next i₁ y₁).c l vs₁ r₁ _ _ e _ _ (p.pass y₁)

noncomputable def cellTy : ACell → Option String
  | .list _ => some "list"
  | .dict _ => some "dict"
  | .dicti _ => some "dict"
  | .dead => none
noncomputable def tyOf (σ : St) : AV → Option String
  | .str _ => some "str"
  | .bytes _ => some "bytes"
  | .mtch _ => some "re.Match"
  | .pat => some "re.Pattern"
  | .list _ => some "list"
  | .tup _ => some "tuple"
  | .dict _ => some "dict"
  | .dicti _ => some "dict"
  | .cell n => o1 σ[n]? cellTy
  | _ => none
noncomputable def TyIs (s : Shared) (v : Value) (T : String) : Prop := s.TypeIs v T ∧ ∀ b, v = .ref b → ∃ ob, s.heap.get? b = some ob ∧ ob.dict = none
theorem tyIs_ref {b : Addr} {o : Obj} {T : String} (ho : s.heap.get? b = some o) (h1 : o.cls = .type T) (h2 : o.dict = none) : TyIs s (.ref b) T :=
  ⟨⟨o, ho, h1⟩, fun b' q => ⟨o, by injection q with q; rw [← q]; exact ho, h2⟩⟩
theorem tyOf_ok (i : Inv X Z ρ σ s) {a : AV} {v : Value} {T : String} (r : VRel X ρ Z s.heap a v) (e : tyOf σ a = some T) : TyIs s v T := by
  cases a with
  | str x => rw [← oE e]; unfold VRel at r; obtain ⟨t, r⟩ := r; rw [r]; exact ⟨typeIs_str .., fun b q => nomatch q⟩
  | bytes x => rw [← oE e]; unfold VRel at r; obtain ⟨t, r⟩ := r; rw [r]; exact ⟨rfl, fun b q => nomatch q⟩
  | mtch g =>
    rw [← oE e]; unfold VRel at r; obtain ⟨b, sp, mo, so, q, _, _, ho, _, h⟩ := r
    obtain ⟨_, _, _, _, _, _, _, _, _, hq, _⟩ := h
    rw [q]; rw [hq] at ho; exact tyIs_ref ho rfl rfl
  | pat =>
    rw [← oE e]; unfold VRel at r; rw [r]
    obtain ⟨ob, h1, h2, h3⟩ := X.patOk
    exact tyIs_ref (i.base _ _ h1) h2 h3
  | list l => rw [← oE e]; unfold VRel at r; obtain ⟨b, vs, q, _, ⟨n, ho⟩, _⟩ := r; rw [q]; exact tyIs_ref ho rfl rfl
  | tup l => rw [← oE e]; unfold VRel at r; obtain ⟨b, vs, q, _, ⟨n, ho⟩, _⟩ := r; rw [q]; exact tyIs_ref ho rfl rfl
  | dict l => rw [← oE e]; unfold VRel at r; obtain ⟨b, vs, q, _, _, ⟨o, es, ep, ho, ⟨h1, h2, h3⟩, _⟩, _⟩ := r; rw [q]; exact tyIs_ref ho h1 h2
  | dicti l => rw [← oE e]; unfold VRel at r; obtain ⟨b, vs, q, _, _, ⟨o, es, ep, ho, ⟨h1, h2, h3⟩, _⟩, _⟩ := r; rw [q]; exact tyIs_ref ho h1 h2
  | cell n =>
    refine o1_inv e fun c hl e => ?_
    unfold VRel at r
    obtain ⟨b, hb, q⟩ := r
    rw [q]
    have z := i.cells _ _ _ hb hl
    cases c with
    | list l => rw [← oE e]; obtain ⟨_, vs, ⟨n, ho⟩, _⟩ := z; exact tyIs_ref ho rfl rfl
    | dict l => rw [← oE e]; obtain ⟨_, vs, ⟨o, es, ep, ho, ⟨h1, h2, h3⟩, _⟩, _⟩ := z; exact tyIs_ref ho h1 h2
    | dicti l => rw [← oE e]; obtain ⟨_, vs, ⟨o, es, ep, ho, ⟨h1, h2, h3⟩, _⟩, _⟩ := z; exact tyIs_ref ho h1 h2
    | dead => exact oN e
  | _ => exact oN e

structure Meth (T : String) (name : Str) (id : String) : Prop where
  pa : PlainAttrs T
  slot : Slot T name id
  ty : typeOf (.builtin id) = pure (.type "method_descriptor")

noncomputable def mMeth (T : String) (m : ME) (r : ML) (op : OpL) : ME := fun η σ => oB (m η σ) fun a σ => if tyOf σ a = some T then oB (r η σ) fun l σ => op (a :: l) σ else none
theorem s_meth {o : Expr} {name : Str} {apos pos : Pos} {es : List Expr} {T id : String} {m : ME} {r : ML} {op : OpL} (M : Meth T name id) (ok : CallOk X k (.builtin id) op) (hm : SimX X k sc vis o m) (hr : SimL X k sc vis es r)
    (hbase : ∀ env, attributeBase o name env (eval o env) = eval o env := by intro _; rfl) (hp : ∀ env, (backTo pos (starEach es env)).any (·.1) = false := by intro _; rfl)
    (hfew : ∀ env, ((backTo pos (starEach es env)).all (fun x => !x.1) && (backToKw pos (keywordEach [] env)).all (fun x => x.1.isSome) && decide (es.length + ([] : List Keyword).length + (if ([] : List Keyword).isEmpty then 0 else 1) < 30)) = true := by intro _; rfl)
    (hline : (apos.endLine == pos.line) = true := by rfl) : SimX X k sc vis (.Call (.Attribute o name apos) es [] pos) (mMeth T m r op) := by
  refine ⟨?_⟩
  intro A env Z ρ σ η s c av σ' e Q E p
  refine oB_inv e fun a σ₁ h1 e => ?_
  refine ifN e fun hT e => ?_
  refine oB_inv e fun l σ₂ h2 e => ?_
  refine wpAny_Call_method (hbase env) (hfew env) hline M.pa M.slot M.ty (hm.run A env Z ρ σ η s c _ _ h1 _ _ fun Z₁ ρ₁ v₁ s₁ i₁ y₁ r₁ => ?_)
  obtain ⟨t1, t2⟩ := tyOf_ok i₁ r₁ hT
  refine ⟨t1, t2, callWith_machine (fun _ q => by cases q) (hp env) (hr.run A env Z₁ ρ₁ σ₁ η s₁ pos (c.next i₁ y₁) _ _ h2 _ _ fun Z₂ ρ₂ vs₂ s₂ i₂ y₂ r₂ => ?_)⟩
  exact ok.run A Z₂ ρ₂ σ₂ s₂ ((c.next i₁ y₁).next i₂ y₂).c (a :: l) (v₁ :: vs₂) (VRels.cons (r₁.ext y₂) r₂) _ _ e _ _ ((p.pass y₁).pass y₂)
end
end Mine
end
section
open PySem PySem.W PyProof.Rows PySem.StrLaws
set_option maxRecDepth 100000
set_option linter.unusedVariables false
namespace Mine

noncomputable def posL (x : List Nat) (c lo : Nat) : List Nat := (List.range' lo (x.length - lo)).filter fun i => x[i]? == some c

theorem subAt_one (x : List Nat) (c i : Nat) : Builtin.Str.subAt (toStr x) (toStr [c]) i = (x[i]? == some c) := by
  unfold Builtin.Str.subAt toStr
  show (x.toArray.extract i (i + 1) == [c].toArray) = _
  rw [Bool.eq_iff_iff, beq_iff_eq, beq_iff_eq]
  constructor
  · intro h
    have h2 := congrArg Array.toList h
    simp at h2
    have h3 : ((x.drop i).take 1)[0]? = some c := by rw [h2]; rfl
    simpa [List.getElem?_drop, List.getElem?_take] using h3
  · intro h
    apply Array.ext'
    simp
    have hlt := (List.getElem?_eq_some_iff.mp h).1
    apply List.ext_getElem?
    intro j
    cases j with
    | zero => simp [List.getElem?_take, h]
    | succ j =>
      simp [List.getElem?_take]

theorem occ1_aux (x : List Nat) (c limit : Nat) : ∀ (n lo : Nat) (found : Array Nat) (free : Nat), free ≤ lo → lo + n = x.length + 1 →
    (forIn (List.range' lo n) (found, free) (occBody (toStr x) (toStr [c]) x.length limit)).run.fst.toList = found.toList ++ (posL x c lo).take (limit - found.size)
  | 0, lo, found, free, hf, hn => by
    have : x.length - lo = 0 := by (first | lia | omega)
    simp [posL, this]
  | n + 1, lo, found, free, hf, hn => by
    rw [List.range'_succ, List.forIn_cons]
    unfold occBody
    rw [subAt_one]
    have hsub : (toStr [c]).length = 1 := rfl
    by_cases hlt : lo < x.length
    · have hp : posL x c lo = (if x[lo]? == some c then [lo] else []) ++ posL x c (lo + 1) := by
        unfold posL
        rw [show x.length - lo = (x.length - (lo + 1)) + 1 by (first | lia | omega), List.range'_succ, List.filter_cons]
        split <;> simp
      by_cases hc : (x[lo]? == some c) = true
      · rw [hp, if_pos hc]
        by_cases hl : found.size < limit
        · rw [if_pos ⟨⟨⟨hl, hf⟩, by rw [hsub]; (first | lia | omega)⟩, hc⟩]
          refine (occ1_aux x c limit n (lo + 1) (found.push lo) (lo + (toStr [c]).length) (by rw [hsub]; exact Nat.le_refl _) (by (first | lia | omega))).trans ?_
          rw [Array.size_push, show limit - found.size = (limit - (found.size + 1)) + 1 by (first | lia | omega)]
          simp
        · rw [if_neg (fun h => hl h.1.1.1)]
          refine (occ1_aux x c limit n (lo + 1) found free (by (first | lia | omega)) (by (first | lia | omega))).trans ?_
          rw [show limit - found.size = 0 by (first | lia | omega)]
          simp
      · rw [if_neg (fun h => hc h.2), hp, if_neg hc]
        exact occ1_aux x c limit n (lo + 1) found free (by (first | lia | omega)) (by (first | lia | omega))
    · have hn0 : n = 0 := by (first | lia | omega)
      subst hn0
      have : ¬ (lo + (toStr [c]).length ≤ x.length) := by rw [hsub]; (first | lia | omega)
      rw [if_neg (fun h => this h.1.2)]
      have e1 : x.length - lo = 0 := by (first | lia | omega)
      simp [posL, e1]

theorem occ1 (x : List Nat) (c lo limit : Nat) (h : lo ≤ x.length + 1) : Builtin.Str.occurrences (toStr x) (toStr [c]) lo x.length limit = (posL x c lo).take limit := by
  rw [occ_eq]
  have := occ1_aux x c limit (x.length + 1 - lo) lo #[] lo (Nat.le_refl _) (by (first | lia | omega))
  simpa using this

noncomputable def cutAll (c : Nat) : List Nat → List (List Nat)
  | [] => [[]]
  | x :: r => if x = c then [] :: cutAll c r else match cutAll c r with
    | h :: t => (x :: h) :: t
    | [] => [[x]]
noncomputable def pieces (x : List Nat) : Nat → List Nat → List (List Nat)
  | i, [] => [x.drop i]
  | i, j :: js => (x.take j).drop i :: pieces x (j + 1) js

theorem partsBetween_eq (x : List Nat) (cuts : List Nat) : Builtin.Str.partsBetween (toStr x) cuts 1 = (pieces x 0 cuts).map toStr := by
  unfold Builtin.Str.partsBetween
  have key : ∀ (cuts : List Nat) (i : Nat), ((i :: cuts.map (· + 1)).zip (cuts ++ [(toStr x).length])).map (fun (p : Nat × Nat) => Builtin.Str.strSub (toStr x) p.1 p.2) = (pieces x i cuts).map toStr := by
    intro cuts
    induction cuts with
    | nil =>
      intro i
      simp [pieces, Builtin.Str.strSub, toStr, Str.length]
      exact List.take_of_length_le (by simp)
    | cons j js ih =>
      intro i
      simp only [List.map_cons, List.cons_append, List.zip_cons_cons, pieces]
      rw [ih (j + 1)]
      congr 1
      simp [Builtin.Str.strSub, toStr, List.drop_take]
  exact key cuts 0

theorem pieces_cut (x : List Nat) (c : Nat) : ∀ (n i : Nat), i + n = x.length → pieces x i (posL x c i) = cutAll c (x.drop i)
  | 0, i, h => by
    have : x.length - i = 0 := by (first | lia | omega)
    have h2 : x.drop i = [] := List.drop_eq_nil_of_le (by (first | lia | omega))
    simp [posL, this, pieces, h2, cutAll]
  | n + 1, i, h => by
    have hlt : i < x.length := by (first | lia | omega)
    have hp : posL x c i = (if x[i]? == some c then [i] else []) ++ posL x c (i + 1) := by
      unfold posL
      rw [show x.length - i = (x.length - (i + 1)) + 1 by (first | lia | omega), List.range'_succ, List.filter_cons]
      split <;> simp
    rw [List.drop_eq_getElem_cons hlt, hp]
    have ih := pieces_cut x c n (i + 1) (by (first | lia | omega))
    by_cases hc : x[i] = c
    · have : (x[i]? == some c) = true := by simp [List.getElem?_eq_getElem hlt, hc]
      rw [if_pos this]
      simp only [List.cons_append, List.nil_append, pieces]
      rw [ih]
      unfold cutAll
      rw [if_pos hc]
      simp
      cases hx : x.drop (i + 1) <;> simp [cutAll]
    · have : ¬ (x[i]? == some c) = true := by simp [List.getElem?_eq_getElem hlt, hc]
      rw [if_neg this]
      simp only [List.nil_append]
      conv => rhs; unfold cutAll
      rw [if_neg hc, ← ih]
      -- the first piece gains a sign
      have hge : ∀ j ∈ posL x c (i + 1), i + 1 ≤ j := fun j hj => by
        unfold posL at hj
        have := (List.mem_filter.mp hj).1
        exact (List.mem_range'_1.mp this).1
      cases hpl : posL x c (i + 1) with
      | nil => simp only [pieces]; rw [List.drop_eq_getElem_cons hlt]
      | cons j js =>
        have hj := hge j (by rw [hpl]; exact List.mem_cons_self)
        simp only [pieces]
        congr 1
        have hl2 : i < (x.take j).length := by simp; (first | lia | omega)
        rw [List.drop_eq_getElem_cons hl2]
        simp
end Mine
end
section
open PySem PySem.W PyProof.Rows
set_option maxRecDepth 100000
set_option linter.unusedVariables false
namespace Mine
open SeqAt

section
variable {X : Cx} {k : Nat} {sc : Scope} {vis : List (Str × Nat)} {A : Around} {env cenv : Env} {Z : Addr → Prop} {ρ : List Addr} {σ : St} {η : Eta} {s : Shared}

noncomputable def args {β : Type} (l : List AV) (f1 : AV → Option β) (f2 : AV → AV → Option β) (f3 : AV → AV → AV → Option β) : Option β := match l with
  | [a] => f1 a
  | [a, b] => f2 a b
  | [a, b, c] => f3 a b c
  | _ => none
abbrev no1 {β : Type} : AV → Option β := fun _ => none
abbrev no2 {β : Type} : AV → AV → Option β := fun _ _ => none
abbrev no3 {β : Type} : AV → AV → AV → Option β := fun _ _ _ => none
theorem args_inv {β : Type} {r : β} {h : Heap} {l : List AV} {vs : List Value} {f1 : AV → Option β} {f2 : AV → AV → Option β} {f3 : AV → AV → AV → Option β} {P : List Value → Prop} (e : args l f1 f2 f3 = some r) (q : VRels X ρ Z h l vs)
    (k1 : ∀ a v, VRel X ρ Z h a v → f1 a = some r → P [v]) (k2 : ∀ a b v w, VRel X ρ Z h a v → VRel X ρ Z h b w → f2 a b = some r → P [v, w])
    (k3 : ∀ a b c v w u, VRel X ρ Z h a v → VRel X ρ Z h b w → VRel X ρ Z h c u → f3 a b c = some r → P [v, w, u]) : P vs := by
  match l, e, q with
  | [], e, q => exact oN e
  | a :: l, e, q =>
    obtain ⟨v, t, hv, r1, q⟩ := VRels.cons_iff.mp q
    rw [hv]
    match l, e, q with
    | [], e, q => rw [VRels.nil_iff.mp q]; exact k1 a v r1 e
    | b :: l, e, q =>
      obtain ⟨w, t, hw, r2, q⟩ := VRels.cons_iff.mp q
      rw [hw]
      match l, e, q with
      | [], e, q => rw [VRels.nil_iff.mp q]; exact k2 a b v w r1 r2 e
      | c :: l, e, q =>
        obtain ⟨u, t, hu, r3, q⟩ := VRels.cons_iff.mp q
        rw [hu]
        match l, e, q with
        | [], e, q => rw [VRels.nil_iff.mp q]; exact k3 a b c v w u r1 r2 r3 e
        | _ :: _, e, _ => exact oN e
theorem args1 {β : Type} {r : β} {h : Heap} {l : List AV} {vs : List Value} {f1 : AV → Option β} {P : List Value → Prop} (e : args l f1 no2 no3 = some r) (q : VRels X ρ Z h l vs) (k1 : ∀ a v, VRel X ρ Z h a v → f1 a = some r → P [v]) : P vs :=
  args_inv e q k1 (fun _ _ _ _ _ _ => oN) fun _ _ _ _ _ _ _ _ _ => oN
theorem args2 {β : Type} {r : β} {h : Heap} {l : List AV} {vs : List Value} {f2 : AV → AV → Option β} {P : List Value → Prop} (e : args l no1 f2 no3 = some r) (q : VRels X ρ Z h l vs) (k2 : ∀ a b v w, VRel X ρ Z h a v → VRel X ρ Z h b w → f2 a b = some r → P [v, w]) : P vs :=
  args_inv e q (fun _ _ _ => oN) k2 fun _ _ _ _ _ _ _ _ _ => oN
theorem args3 {β : Type} {r : β} {h : Heap} {l : List AV} {vs : List Value} {f3 : AV → AV → AV → Option β} {P : List Value → Prop} (e : args l no1 no2 f3 = some r) (q : VRels X ρ Z h l vs)
    (k3 : ∀ a b c v w u, VRel X ρ Z h a v → VRel X ρ Z h b w → VRel X ρ Z h c u → f3 a b c = some r → P [v, w, u]) : P vs :=
  args_inv e q (fun _ _ _ => oN) (fun _ _ _ _ _ _ => oN) k3
noncomputable def asC {β : Type} (x : List Nat) (f : Nat → Option β) : Option β := match x with
  | [c] => f c
  | _ => none
theorem asC_is {β : Type} {r : β} {x : List Nat} {f : Nat → Option β} {P : List Nat → Prop} (e : asC x f = some r) (k : ∀ c, f c = some r → P [c]) : P x := by
  match x, e with
  | [], e => exact oN e
  | [c], e => exact k c e
  | _ :: _ :: _, e => exact oN e

noncomputable def lenV (σ : St) (a : AV) : Option Nat := match viewL σ a with
  | some xs => some xs.length
  | none => match viewD σ a with
    | some xs => some xs.length
    | none => sel a none oNo oNo (fun x => some x.length) oNo oNo (fun x => some x.length)
noncomputable def oLen : OpL := fun l σ => args l (fun a => o1 (lenV σ a) fun n => if okS n then vint n σ else none) no2 no3
theorem c_len : CallOk X k (.builtin "len") oLen := by
  refine ⟨?_⟩
  intro A Z ρ σ s c l vs r av σ' e Q E p
  refine args1 (P := fun vs => wpAny (model X.prog X.w) A (call (.builtin "len") vs) Q E s) e r fun a v r e => ?_
  refine o1_inv e fun n hn e => ifN e fun hz e => ?_
  have hz := okS_le' hz
  have fin := fun t => (p.of e).tok c.inv (v := .int n t) (vrel_int ..) (t + 1)
  unfold lenV at hn
  cases hx : viewL σ a with
  | some xs =>
    rw [hx] at hn
    obtain ⟨b, ws, hv, pl, q⟩ := view_list c.inv r hx
    rw [hv]
    have hl : ws.toArray.size = n := q.length.symm.trans (oE hn)
    refine PySem.Calls.call_len_list pl.isList (by (first | lia | omega)) ?_
    rw [hl]; exact fin _
  | none =>
    rw [hx] at hn
    cases hx : viewD σ a with
    | some xs =>
      rw [hx] at hn
      obtain ⟨b, ws, hv, hs, dd, q⟩ := view_dict c.inv r hx
      rw [hv]
      have hl : ws.length = n := q.length.symm.trans (oE hn)
      refine PySem.call_len_dict hs dd (by (first | lia | omega)) ?_
      rw [hl]; exact fin _
    | none =>
      rw [hx] at hn
      refine sel_inv hn r oN (fun _ => oN) (fun _ _ => oN) (fun x t hn => ?_) (fun _ _ => oN) (fun _ _ _ _ _ _ => oN) (fun x b ws _ pt q hn => ?_)
      · have hl : (toStr x).length = n := (toStr_length x).trans (oE hn)
        refine PyProof.Rows.len_str (by (first | lia | omega)) ?_
        rw [hl]; exact fin _
      · have hl : ws.toArray.size = n := q.length.symm.trans (oE hn)
        refine PyProof.Rows.len_tuple pt.isTuple (by (first | lia | omega)) ?_
        rw [hl]; exact fin _

noncomputable def dec (i : Int) : List Nat := (Str.ofString (toString i)).cps.toList
theorem toStr_decI (i : Int) : Str.ofString (toString i) = toStr (dec i) := by simp [toStr, dec]
noncomputable def oStr : OpL := fun l σ => args l (fun a => asI a fun i => if i.natAbs < 2 ^ 64 then some (.str (dec i), σ) else none) no2 no3
theorem c_str : CallOk X k (.type "str") oStr := by
  refine ⟨?_⟩
  intro A Z ρ σ s c l vs r av σ' e Q E p
  refine args1 (P := fun vs => wpAny (model X.prog X.w) A (call (.type "str") vs) Q E s) e r fun a v r e => asI_inv e r fun i t e => ifN e fun hz e => ?_
  refine PySem.P.str_of_int ?_ ((p.of e).tok c.inv (vrel_str' (toStr_decI i) _) _)
  rcases Nat.eq_zero_or_pos i.natAbs with e0 | e0
  · rw [e0]; decide
  · exact Nat.lt_of_lt_of_le ((Nat.log2_lt (by (first | lia | omega))).mpr hz) (by decide)

noncomputable def intsOf : List AV → Option (List Int)
  | [] => some []
  | a :: r => asI a fun i => o1 (intsOf r) fun l => some (i :: l)
theorem intsOf_ok {h : Heap} : ∀ {l : List AV} {is : List Int} {vs : List Value}, intsOf l = some is → VRels X ρ Z h l vs → IntsAre vs is := by
  intro l
  induction l with
  | nil => intro is vs e r; rw [VRels.nil_iff.mp r, ← oE e]; exact .nil
  | cons a l ih =>
    intro is vs e r
    obtain ⟨v, t, hv, r1, r2⟩ := VRels.cons_iff.mp r
    rw [hv]
    refine asI_inv (P := fun v => IntsAre (v :: t) is) e r1 fun i u e => o1_inv e fun l' hl e => ?_
    rw [← oE e]
    exact .cons i u (ih hl r2)
noncomputable def oSum : OpL := fun l σ => args l (fun a => o1 (viewL σ a) fun xs => o1 (intsOf xs) fun is => vint is.sum σ) no2 no3
theorem c_sum : CallOk X k (.builtin "sum") oSum := by
  refine ⟨?_⟩
  intro A Z ρ σ s c l vs r av σ' e Q E p
  refine args1 (P := fun vs => wpAny (model X.prog X.w) A (call (.builtin "sum") vs) Q E s) e r fun a v r e => o1_inv e fun xs hx e => o1_inv e fun is hi e => ?_
  obtain ⟨b, ws, hv, pl, q⟩ := view_list c.inv r hx
  rw [hv]
  have ia := intsOf_ok hi q
  obtain ⟨ys, hy⟩ := ia.allInts.items
  have hl := pl.isList
  rw [hy] at hl
  refine sum_intListG c.hnd hl fun h' tk t' hk => ?_
  have e1 : preSum (numAt ys) ys.size = is.sum := by
    rw [preSum_eq, List.take_of_length_le (by simp), ← ia.numsOf]
    have := nums_intItems ys
    rw [← hy] at this
    simp at this
    rw [this]
  rw [e1]
  exact (p.of e).grow c.inv (P := fun _ => False) hk (fun a f => f.elim) (vrel_int ..)

noncomputable def oRange : OpL := fun l σ => args l (fun b => asI b fun b => some (.range 0 b 1, σ)) (fun a b => asI a fun a => asI b fun b => some (.range a b 1, σ))
  (fun a b c => asI a fun a => asI b fun b => asI c fun c => if c ≠ 0 && decide (a.natAbs < 1000) && decide (b.natAbs < 1000) && decide (c.natAbs < 1000) then some (.range a b c, σ) else none)
theorem c_range : CallOk X k (.type "range") oRange := by
  refine ⟨?_⟩
  intro A Z ρ σ s c l vs r av σ' e Q E p
  have fin : ∀ (a b c' : Int) (t u w tk : Nat), some (.range a b c', σ) = some (av, σ') → Q (.ref s.heap.objs.size) { s with heap := s.heap.push { cls := .type "range", data := .fields #[.int a t, .int b u, .int c' w] }, toks := tk } := by
    intro a b c' t u w tk e
    refine (p.of e).push c.inv rfl ?_
    unfold VRel
    exact ⟨_, t, u, w, rfl, .inr rfl, Heap.get?_push_size _ rfl⟩
  refine args_inv (P := fun vs => wpAny (model X.prog X.w) A (call (.type "range") vs) Q E s) e r (fun a v r e => asI_inv e r fun i t e => ?_) (fun a b v w r r' e => asI_inv e r fun i t e => asI_inv e r' fun j u e => ?_)
    (fun a b c' v w u r r' r'' e => asI_inv e r fun i t e => asI_inv e r' fun j u e => asI_inv e r'' fun m x e => ifN e fun hz e => ?_)
  · exact PySem.call_range_1 (fin _ _ _ _ _ _ _ e)
  · exact PySem.call_range_2 (fin _ _ _ _ _ _ _ e)
  · simp only [Bool.and_eq_true, decide_eq_true_eq] at hz
    exact PySem.call_range_3 hz.1.1.1 (fin _ _ _ _ _ _ _ e) (Or.inl (PyProof.noPylong_small (by (first | lia | omega))))

noncomputable def oTuple : OpL := fun l σ => args l (fun a => match viewL σ a with
  | some xs => vtup xs σ
  | none => asT a fun x => some (.tup x, σ)) no2 no3
theorem c_tuple : CallOk X k (.type "tuple") oTuple := by
  refine ⟨?_⟩
  intro A Z ρ σ s c l vs r av σ' e Q E p
  refine args1 (P := fun vs => wpAny (model X.prog X.w) A (call (.type "tuple") vs) Q E s) e r fun a v r e => ?_
  cases hx : viewL σ a with
  | some xs =>
    rw [hx] at e
    refine ifN e fun hz e => ?_
    obtain ⟨b, ws, hv, pl, q⟩ := view_list c.inv r hx
    rw [hv]
    refine PySem.call_tuple_list pl.isList (fun h' hk => ?_) (by have := okS_le hz; simp [← q.length]; (first | lia | omega))
    have i2 := c.inv.touch (W := fun _ => False) (tk := s.toks) (h' := h') (fun b o' _ e => hk b o' e) fun a f => f.elim
    have y2 : Ext T0 Z ρ s Z ρ { s with heap := h' } := Ext.touch (X := X) (W := fun _ => False) (tk := s.toks) (fun b o' _ e => hk b o' e) (fun a f => f.elim) (fun a f => f.elim) fun a f => f
    exact ((p.of e).pass y2).newTup i2 (q.ext y2) (tk := s.toks)
  | none =>
    rw [hx] at e
    refine asT_inv e r fun x b ws f pt q e => ?_
    exact PyProof.Rows.call_tuple_tup pt.isTuple ((p.of e).here c.inv (vrel_tup f pt q))

noncomputable def oInt : OpL := fun l σ => args l (fun a => asS a fun x => if x.length ≤ 640 then o1 (PySem.intText? (toStr x)) fun n => vint n σ else none) no2 no3
theorem c_int : CallOk X k (.type "int") oInt := by
  refine ⟨?_⟩
  intro A Z ρ σ s c l vs r av σ' e Q E p
  refine args1 (P := fun vs => wpAny (model X.prog X.w) A (call (.type "int") vs) Q E s) e r fun a v r e => asS_inv e r fun x t e => ifN e fun hz e => o1_inv e fun n hn e => ?_
  exact PySem.W.KIN.call_text hn (by rw [toStr_length]; exact hz) ((p.of e).tok c.inv (vrel_int ..) _)

noncomputable def findI (x : List Nat) (c lo : Nat) : Int := match posL x c lo with
  | i :: _ => (i : Int)
  | [] => -1
noncomputable def oFind : OpL := fun l σ => args l no1 (fun a b => asS a fun x => asS b fun y => asC y fun c => vint (findI x c 0) σ)
  (fun a b i => asS a fun x => asS b fun y => asI i fun i => asC y fun c => if decide (0 ≤ i) && decide (i ≤ x.length) then vint (findI x c i.toNat) σ else none)
theorem find_eq (x : List Nat) (c lo : Nat) (h : lo ≤ x.length + 1) : (match Builtin.Str.occurrences (toStr x) (toStr [c]) lo x.length 1 with | i :: _ => (i : Int) | [] => -1) = findI x c lo := by
  rw [occ1 x c lo 1 h]
  unfold findI
  cases posL x c lo <;> rfl
theorem c_find : CallOk X k (.builtin "str.find") oFind := by
  refine ⟨?_⟩
  intro A Z ρ σ s c l vs r av σ' e Q E p
  refine args_inv (P := fun vs => wpAny (model X.prog X.w) A (call (.builtin "str.find") vs) Q E s) e r (fun _ _ _ => oN) (fun a b v w r r' e => asS_inv e r fun x t e => asS_inv e r' fun y u e => ?_)
    (fun a b c' v w u r r' r'' e => asS_inv e r fun x t e => asS_inv e r' fun y u e => asI_inv e r'' fun i w e => ?_)
  · refine asC_is (P := fun y => wpAny (model X.prog X.w) A (call (.builtin "str.find") [.str (toStr x) t, .str (toStr y) u]) Q E s) e fun ch e => ?_
    have g := gives_str_find (toStr x) (toStr [ch]) t u
    rw [toStr_length] at g
    exact call_gives F.slot_str_find (typeIs_str _ _ _) F.entry_str_find (F.args_str_find_2 _ _) (Eq.mp (congrArg (fun i => Gives _ (Made.int i)) (find_eq x ch 0 (Nat.zero_le _))) g) ((p.of e).tok c.inv (vrel_int ..) _)
  · refine asC_is (P := fun y => wpAny (model X.prog X.w) A (call (.builtin "str.find") [.str (toStr x) t, .str (toStr y) u, .int i w]) Q E s) e fun ch e => ifN e fun hz e => ?_
    have hz := Bool.and_eq_true_iff.mp hz
    have h1 := of_decide_eq_true hz.1
    have h2 := of_decide_eq_true hz.2
    have hf : fromIndex x.length i = i.toNat := by unfold fromIndex; rw [if_neg (by (first | lia | omega))]; (first | lia | omega)
    have g := gives_str_find_from (toStr x) (toStr [ch]) i t u w
    rw [toStr_length, hf] at g
    exact call_gives F.slot_str_find (typeIs_str _ _ _) F.entry_str_find (F.args_str_find_3 _ _ _) (Eq.mp (congrArg (fun i => Gives _ (Made.int i)) (find_eq x ch i.toNat (by (first | lia | omega)))) g) ((p.of e).tok c.inv (vrel_int ..) _)

noncomputable def oStarts : OpL := fun l σ => args l no1 (fun a b => asS a fun x => asS b fun y => some (.bool (y.isPrefixOf x), σ)) no3
theorem subAt_zero (x y : List Nat) : (decide (0 + (toStr y).length ≤ (toStr x).length) && Builtin.Str.subAt (toStr x) (toStr y) 0) = y.isPrefixOf x := by
  rw [Bool.eq_iff_iff, Bool.and_eq_true, decide_eq_true_eq, List.isPrefixOf_iff_prefix, toStr_length, toStr_length]
  unfold Builtin.Str.subAt
  rw [beq_iff_eq]
  constructor
  · rintro ⟨h1, h2⟩
    have h3 := congrArg Array.toList h2
    simp [toStr, Str.length] at h3
    have h4 := List.take_append_drop y.length x
    rw [h3] at h4
    exact ⟨_, h4⟩
  · rintro ⟨t, rfl⟩
    refine ⟨by simp, ?_⟩
    apply Array.ext'
    simp [toStr, Str.length]
theorem c_starts : CallOk X k (.builtin "str.startswith") oStarts := by
  refine ⟨?_⟩
  intro A Z ρ σ s c l vs r av σ' e Q E p
  refine args2 (P := fun vs => wpAny (model X.prog X.w) A (call (.builtin "str.startswith") vs) Q E s) e r fun a b v w r r' e => asS_inv e r fun x t e => asS_inv e r' fun y u e => ?_
  refine call_gives F.slot_str_startswith (typeIs_str _ _ _) F.entry_str_startswith (F.args_str_startswith_2 _ _) (gives_str_startswith _ _ t u) ?_
  rw [subAt_zero]
  exact (p.of e).tok c.inv (vrel_bool _) _

theorem strsFrom_rel {h : Heap} : ∀ (l : List (List Nat)) (tk : Nat), VRels X ρ Z h (l.map .str) (strsFrom tk (l.map toStr))
  | [], _ => VRels.nil_iff.mpr rfl
  | x :: l, tk => VRels.cons (vrel_str ..) (strsFrom_rel l (tk + 1))
theorem cutAll_len (c : Nat) : ∀ x : List Nat, (cutAll c x).length ≤ x.length + 1
  | [] => by simp [cutAll]
  | x :: r => by
    have := cutAll_len c r
    unfold cutAll
    split
    · simp; (first | lia | omega)
    · split
      · rename_i h; rw [h] at this; simp at this ⊢; (first | lia | omega)
      · simp
theorem kindW {c : Nat} (hc : c < 256) (x : Str) : (decide (Builtin.Str.strKind x < Builtin.Str.strKind (toStr [c]))) = false := by
  have : Builtin.Str.strKind (toStr [c]) = 1 := by unfold Builtin.Str.strKind toStr; simp [hc]
  rw [this]
  unfold Builtin.Str.strKind
  split
  · rfl
  · split <;> rfl
noncomputable def cut1 (c : Nat) (x : List Nat) : List (List Nat) := pieces x 0 ((posL x c 0).take 1)
noncomputable def okC (c : Nat) (x : List Nat) : Bool := decide (c < 256) && okS (x.length + 1) && !x.isEmpty
noncomputable def oSplit : OpL := fun l σ => args l no1 (fun a b => asS a fun x => asS b fun y => asC y fun c => if okC c x then some (.list ((cutAll c x).map .str), σ) else none)
  (fun a b i => asS a fun x => asS b fun y => asI i fun i => if i = 1 then asC y fun c => if okC c x then some (.list ((cut1 c x).map .str), σ) else none else none)
theorem pieces_len (x : List Nat) : ∀ (cs : List Nat) (i : Nat), (pieces x i cs).length = cs.length + 1
  | [], _ => rfl
  | c :: cs, i => by simp [pieces, pieces_len x cs]
structure CutOk (c : Nat) (x : List Nat) : Prop where
  len : x.length ≤ 16777215
  pos : 1 ≤ x.length
  sep : (decide ((toStr x).length < (toStr [c]).length) || decide (Builtin.Str.strKind (toStr x) < Builtin.Str.strKind (toStr [c]))) = false
theorem okC_is {c : Nat} {x : List Nat} (h : okC c x = true) : CutOk c x := by
  have h := Bool.and_eq_true_iff.mp h
  have h1 := Bool.and_eq_true_iff.mp h.1
  have pos : 1 ≤ x.length := by
    cases x with
    | nil => exact Bool.noConfusion h.2
    | cons => exact Nat.succ_le_succ (Nat.zero_le _)
  refine ⟨Nat.le_of_succ_le_succ (okS_le' h1.2), pos, ?_⟩
  rw [kindW (of_decide_eq_true h1.1), Bool.or_false, toStr_length]
  exact decide_eq_false (Nat.not_lt.mpr pos)
theorem pieces_nil {x : List Nat} {cs : List Nat} (hf : cs.isEmpty = true) : pieces x 0 cs = [x] := by
  rw [List.isEmpty_iff.mp hf]; rfl
theorem c_split : CallOk X k (.builtin "str.split") oSplit := by
  refine ⟨?_⟩
  intro A Z ρ σ s c l vs r av σ' e Q E p
  refine args_inv (P := fun vs => wpAny (model X.prog X.w) A (call (.builtin "str.split") vs) Q E s) e r (fun _ _ _ => oN) (fun a b v w r r' e => asS_inv e r fun x t e => asS_inv e r' fun y u e => ?_)
    (fun a b c' v w u r r' r'' e => asS_inv e r fun x t e => asS_inv e r' fun y u e => asI_inv e r'' fun i w e => ifN e fun hi e => ?_)
  · refine asC_is (P := fun y => wpAny (model X.prog X.w) A (call (.builtin "str.split") [.str (toStr x) t, .str (toStr y) u]) Q E s) e fun ch e => ifN e fun hz e => ?_
    have hz := okC_is hz
    have hs := hz.len
    have hq := sizeLine_eq
    replace p := p.of e
    have h2 : Builtin.Str.occurrences (toStr x) (toStr [ch]) 0 (toStr x).length ((toStr x).length + 1) = posL x ch 0 := by
      rw [toStr_length, occ1 x ch 0 _ (Nat.zero_le _), List.take_of_length_le]
      unfold posL
      refine Nat.le_trans (List.length_filter_le _ _) ?_
      simp
    have hc : pieces x 0 (posL x ch 0) = cutAll ch x := pieces_cut x ch x.length 0 (Nat.zero_add _)
    have hp : Builtin.Str.partsBetween (toStr x) (posL x ch 0) (toStr [ch]).length = (cutAll ch x).map toStr := by rw [← hc]; exact partsBetween_eq ..
    have hl := cutAll_len ch x
    by_cases hf : (posL x ch 0).isEmpty = true
    · refine call_meets F.slot_str_split (typeIs_str _ _ _) F.entry_str_split (F.args_str_split_2 _ _) (meets_str_split_not_found _ _ t u hz.sep rfl (by rw [h2]; exact hf)) ?_
      rw [← hc, pieces_nil hf] at p
      exact p.newList (vs := [.str (toStr x) t]) c.inv (VRels.cons (vrel_str ..) (VRels.nil_iff.mpr rfl)) (tk := s.toks)
    · refine call_meets F.slot_str_split (typeIs_str _ _ _) F.entry_str_split (F.args_str_split_2 _ _) (meets_str_split_sep _ _ t u hz.sep rfl (by rw [h2]; simpa using hf) (by rw [toStr_length]; (first | lia | omega)) (by rw [h2, hp, List.length_map]; (first | lia | omega))) ?_
      rw [h2, hp]
      exact p.newList c.inv (strsFrom_rel (cutAll ch x) s.toks)
  · rw [hi]
    refine asC_is (P := fun y => wpAny (model X.prog X.w) A (call (.builtin "str.split") [.str (toStr x) t, .str (toStr y) u, .int 1 w]) Q E s) e fun ch e => ifN e fun hz e => ?_
    have hz := okC_is hz
    have hs := hz.len
    have hq := sizeLine_eq
    replace p := p.of e
    have h2 : Builtin.Str.occurrences (toStr x) (toStr [ch]) 0 (toStr x).length (limitOf (toStr x) 1) = (posL x ch 0).take 1 := by
      rw [toStr_length, occ1 x ch 0 _ (Nat.zero_le _)]
      rfl
    have hp : Builtin.Str.partsBetween (toStr x) ((posL x ch 0).take 1) (toStr [ch]).length = (cut1 ch x).map toStr := partsBetween_eq ..
    have hl : (cut1 ch x).length ≤ 2 := by
      unfold cut1; rw [pieces_len]; exact Nat.succ_le_succ (List.length_take_le 1 (posL x ch 0))
    by_cases hf : ((posL x ch 0).take 1).isEmpty = true
    · refine call_meets F.slot_str_split (typeIs_str _ _ _) F.entry_str_split (F.args_str_split_3 _ _ _) (meets_str_split_max_not_found _ _ 1 t u w rfl hz.sep rfl (by rw [h2]; exact hf)) ?_
      rw [show cut1 ch x = [x] from pieces_nil hf] at p
      exact p.newList (vs := [.str (toStr x) t]) c.inv (VRels.cons (vrel_str ..) (VRels.nil_iff.mpr rfl)) (tk := s.toks)
    · refine call_meets F.slot_str_split (typeIs_str _ _ _) F.entry_str_split (F.args_str_split_3 _ _ _) (meets_str_split_sep_max _ _ 1 t u w rfl hz.sep rfl (by rw [h2]; simpa using hf) (by rw [toStr_length]; (first | lia | omega)) (by rw [h2, hp, List.length_map]; (first | lia | omega))) ?_
      rw [h2, hp]
      exact p.newList c.inv (strsFrom_rel (cut1 ch x) s.toks)
end
end Mine
end
section
open PySem PySem.W PyProof.Rows
set_option maxRecDepth 100000
set_option linter.unusedVariables false
namespace Mine
open SeqAt

section
variable {X : Cx} {k : Nat} {sc : Scope} {vis : List (Str × Nat)} {A : Around} {env cenv : Env} {Z : Addr → Prop} {ρ : List Addr} {σ : St} {η : Eta} {s : Shared}

theorem nodup_idx {l : List Addr} (h : l.Nodup) {i j : Nat} {a : Addr} (hi : l[i]? = some a) (hj : l[j]? = some a) : i = j := by
  obtain ⟨hi1, hi2⟩ := List.getElem?_eq_some_iff.mp hi
  obtain ⟨hj1, hj2⟩ := List.getElem?_eq_some_iff.mp hj
  rcases Nat.lt_trichotomy i j with q | q | q
  · exact absurd (hi2.trans hj2.symm) (List.pairwise_iff_getElem.mp h i j hi1 hj1 q)
  · exact q
  · exact absurd (hj2.trans hi2.symm) (List.pairwise_iff_getElem.mp h j i hj1 hi1 q)

theorem Inv.cellSet (i : Inv X Z ρ σ s) {n : Nat} {a : Addr} {c c' : ACell} (hn : ρ[n]? = some a) (hc : σ[n]? = some c) (hz : ¬ Z a) {h' : Heap} {tk : Nat} (hs : Heap.SameBut a s.heap h') (hr : CRel X ρ Z h' c' a) (hl : h'.get? a ≠ none) :
    Inv X Z ρ (σ.set n c') { s with heap := h', toks := tk } where
  base := fun b o e => by
    refine (hs.2 b (fun q => ?_)).trans (i.base b o e)
    have := (i.old a (List.mem_of_getElem? hn)).2.1
    rw [← q, e] at this; exact nomatch this
  fr := fun b f => by
    obtain ⟨o, e⟩ := i.fr b f
    exact ⟨o, (hs.2 b (fun q => hz (q ▸ f))).trans e⟩
  len := by simp [i.len]
  nd := i.nd
  old := fun b m => by
    obtain ⟨⟨o, e⟩, r⟩ := i.old b m
    by_cases q : b = a
    · subst q
      refine ⟨?_, r⟩
      show ∃ o, h'.get? b = some o
      cases q2 : h'.get? b with
      | none => exact absurd q2 hl
      | some o' => exact ⟨o', rfl⟩
    · exact ⟨⟨o, (hs.2 b q).trans e⟩, r⟩
  cells := fun m b d h1 h2 => by
    by_cases q : m = n
    · subst q
      rw [hn] at h1; cases h1
      rw [List.getElem?_set_self (List.getElem?_eq_some_iff.mp hc).1] at h2
      cases h2
      exact hr
    · rw [List.getElem?_set_ne (Ne.symm q)] at h2
      have hba : b ≠ a := fun e => q (nodup_idx i.nd h1 (e ▸ hn))
      exact (i.cells m b d h1 h2).mono (fun x o f e => (hs.2 x (fun w => hz (w ▸ f))).trans e) (fun _ f => f) List.prefix_rfl (fun o e => (hs.2 b hba).trans e) id
theorem Ext.cellSet {T} {a : Addr} (hm : a ∈ ρ) (hz : ¬ Z a) {h' : Heap} {tk : Nat} (hs : Heap.SameBut a s.heap h') (hl : h'.get? a ≠ none) (hfc : ¬ FCls s.heap a) : Ext T Z ρ s Z ρ { s with heap := h', toks := tk } where
  keep := fun b o e _ hr => .inl ((hs.2 b (fun q => hr (q ▸ hm))).trans e)
  fkeep := fun b o f e => (hs.2 b (fun q => hz (q ▸ f))).trans e
  fmono := fun _ f => f
  fnew := fun _ f => .inl f
  rho := List.prefix_rfl
  rnew := fun _ m => .inl m
  alive := fun b o e => by
    by_cases q : b = a
    · subst q
      show ∃ o, h'.get? b = some o
      cases q2 : h'.get? b with
      | none => exact absurd q2 hl
      | some o' => exact ⟨o', rfl⟩
    · exact ⟨o, (hs.2 b q).trans e⟩
  frm := fun b f => by
    by_cases q : b = a
    · subst q; exact absurd f hfc
    · exact f.kept fun o e => (hs.2 b q).trans e
  gens := rfl
  os := rfl
  drawn := rfl

theorem Inv.cellNew (i : Inv X Z ρ σ s) {o : Obj} {c : ACell} {tk : Nat} (hf : o.isFreed = false) (hr : CRel X (ρ ++ [s.heap.objs.size]) Z (s.heap.push o) c s.heap.objs.size) :
    Inv X Z (ρ ++ [s.heap.objs.size]) (σ ++ [c]) { s with heap := s.heap.push o, toks := tk } where
  base := fun b o' e => Heap.get?_push_of_some _ (i.base b o' e)
  fr := fun b f => by obtain ⟨o', e⟩ := i.fr b f; exact ⟨o', Heap.get?_push_of_some _ e⟩
  len := by simp [i.len]
  nd := by
    rw [List.nodup_append]
    refine ⟨i.nd, by simp, fun x hx y hy => ?_⟩
    simp at hy; subst hy
    rintro rfl
    obtain ⟨⟨o', e⟩, _⟩ := i.old _ hx
    rw [none_size] at e; cases e
  old := fun b m => by
    rcases List.mem_append.mp m with m | m
    · obtain ⟨⟨o', e⟩, r⟩ := i.old b m; exact ⟨⟨o', Heap.get?_push_of_some _ e⟩, r⟩
    · simp at m; subst m
      exact ⟨⟨o, Heap.get?_push_size _ hf⟩, (free_size i).2.2, size_sys i⟩
  cells := fun m b d h1 h2 => by
    rcases Nat.lt_trichotomy m ρ.length with hm | hm | hm
    · rw [List.getElem?_append_left hm] at h1
      rw [List.getElem?_append_left (by rw [← i.len]; exact hm)] at h2
      exact (i.cells m b d h1 h2).mono (fun x o' _ e => Heap.get?_push_of_some _ e) (fun _ f => f) (List.prefix_append _ _) (fun o' e => Heap.get?_push_of_some _ e) id
    · subst hm
      rw [List.getElem?_append_right (Nat.le_refl _)] at h1
      rw [List.getElem?_append_right (by rw [i.len]; exact Nat.le_refl _)] at h2
      simp [i.len] at h1 h2
      subst h1 h2
      exact hr
    · rw [List.getElem?_eq_none (by simp; (first | lia | omega))] at h1; cases h1
theorem Ext.cellNew {o : Obj} {tk : Nat} : Ext T0 Z ρ s Z (ρ ++ [s.heap.objs.size]) { s with heap := s.heap.push o, toks := tk } where
  keep := fun b o' e _ _ => .inl (Heap.get?_push_of_some _ e)
  fkeep := fun b o' _ e => Heap.get?_push_of_some _ e
  fmono := fun _ f => f
  fnew := fun _ f => .inl f
  rho := List.prefix_append _ _
  rnew := fun b m => by
    rcases List.mem_append.mp m with m | m
    · exact .inl m
    · simp at m; subst m; exact .inr (none_size _)
  alive := fun b o' e => ⟨o', Heap.get?_push_of_some _ e⟩
  frm := fun b f => f.kept fun o e => Heap.get?_push_of_some _ e
  gens := rfl
  os := rfl
  drawn := rfl

theorem Post.newCell {c : ACell} {σ : St} {Q : Value → Shared → Prop} (p : Post X Z ρ s (.cell σ.length) (σ ++ [c]) Q) (i : Inv X Z ρ σ s) {o : Obj} {tk : Nat} (hf : o.isFreed = false) (hr : CRel X (ρ ++ [s.heap.objs.size]) Z (s.heap.push o) c s.heap.objs.size) :
    Q (.ref s.heap.objs.size) { s with heap := s.heap.push o, toks := tk } := by
  refine p _ _ _ _ (i.cellNew hf hr) Ext.cellNew ?_
  unfold VRel
  exact ⟨_, by rw [← i.len]; simp, rfl⟩

noncomputable def mNewD : ME := fun _ σ => some (.cell σ.length, σ ++ [.dict []])
theorem s_newD {pos} : SimX X k sc vis (.Dict [] [] pos) mNewD := by
  refine ⟨?_⟩
  intro A env Z ρ σ η s c av σ' e Q E p
  refine wpAny_Dict_empty ?_
  exact (p.of e).newCell c.c.inv (tk := s.toks) rfl ⟨(free_size c.c.inv).1, [], Heap.DictOf.new _, by unfold VRelD; rfl⟩
noncomputable def mNewL (r : ML) : ME := fun η σ => oB (r η σ) fun l σ => if okS l.length then some (.cell σ.length, σ ++ [.list l]) else none
theorem s_newL {es : List Expr} {pos} {r : ML} (h : SimL X k sc vis es r) : SimX X k sc vis (.List es pos) (mNewL r) := by
  refine ⟨?_⟩
  intro A env Z ρ σ η s c av σ' e Q E p
  refine oB_inv e fun l σ₁ h1 e => ifN e fun hz e => ?_
  refine wpAny_List (h.run A env Z ρ σ η s _ c _ _ h1 _ _ fun Z₁ ρ₁ vs₁ s₁ i₁ y₁ r₁ => ⟨?_, ?_⟩)
  · rw [← r₁.length]; exact okS_le hz
  · refine ((p.of e).pass y₁).newCell i₁ (tk := s₁.toks) rfl ⟨(free_size i₁).1, vs₁, ⟨_, Heap.get?_push_size _ rfl⟩, ?_⟩
    exact r₁.mono (fun _ _ _ e => Heap.get?_push_of_some _ e) (fun _ f => f) (List.prefix_append _ _)

noncomputable def setI (l : List (Int × AV)) (kk : Int) (v : AV) : List (Int × AV) :=
  if l.any (fun p => p.1 == kk) then l.map fun p => if p.1 == kk then (p.1, v) else p else l ++ [(kk, v)]
theorem VRelI.any {h : Heap} (kk : Int) : ∀ {l : List (Int × AV)} {es : List (Int × Value)}, VRelI X ρ Z h l es → es.any (fun kv => decide (kv.1 = kk)) = l.any (fun p => p.1 == kk) := by
  intro l
  induction l with
  | nil => intro es r; unfold VRelI at r; rw [r]; rfl
  | cons p l ih =>
    intro es r
    unfold VRelI at r
    obtain ⟨w, t, hq, _, r'⟩ := r
    rw [hq, List.any_cons, List.any_cons, ih r']; rfl
theorem VRelI.put {h : Heap} (kk : Int) {v : AV} {vv : Value} (rv : VRel X ρ Z h v vv) : ∀ {l : List (Int × AV)} {es : List (Int × Value)}, VRelI X ρ Z h l es →
    VRelI X ρ Z h (l.map fun p => if p.1 == kk then (p.1, v) else p) (es.map fun kv => if kv.1 = kk then (kv.1, vv) else kv) := by
  intro l
  induction l with
  | nil => intro es r; unfold VRelI at r; rw [r]; unfold VRelI; rfl
  | cons p l ih =>
    intro es r
    obtain ⟨q, x⟩ := p
    unfold VRelI at r
    obtain ⟨w, t, hq, rw', r'⟩ := r
    rw [hq, List.map_cons, List.map_cons]
    by_cases e : q = kk
    · rw [if_pos (show (q, w).1 = kk from e), if_pos (show ((q, x).1 == kk) = true from beq_iff_eq.mpr e)]
      unfold VRelI
      exact ⟨_, _, rfl, rv, ih r'⟩
    · rw [if_neg (show ¬ (q, w).1 = kk from e), if_neg (show ¬ ((q, x).1 == kk) = true from fun z => e (beq_iff_eq.mp z))]
      unfold VRelI
      exact ⟨_, _, rfl, rw', ih r'⟩
theorem VRelI.snoc {h : Heap} (kk : Int) {v : AV} {vv : Value} (rv : VRel X ρ Z h v vv) : ∀ {l : List (Int × AV)} {es : List (Int × Value)}, VRelI X ρ Z h l es → VRelI X ρ Z h (l ++ [(kk, v)]) (es ++ [(kk, vv)]) := by
  intro l
  induction l with
  | nil => intro es r; unfold VRelI at r; rw [r, List.nil_append, List.nil_append]; unfold VRelI; exact ⟨_, _, rfl, rv, by unfold VRelI; rfl⟩
  | cons p l ih =>
    intro es r
    unfold VRelI at r
    obtain ⟨w, t, hq, rw', r'⟩ := r
    rw [hq, List.cons_append, List.cons_append]
    unfold VRelI
    exact ⟨_, _, rfl, rw', ih r'⟩
theorem VRelI.stored {h : Heap} {l : List (Int × AV)} {es : List (Int × Value)} (kk : Int) {v : AV} {vv : Value} (r : VRelI X ρ Z h l es) (rv : VRel X ρ Z h v vv) : VRelI X ρ Z h (setI l kk v) (PySem.stored es kk vv) := by
  unfold setI PySem.stored
  rw [VRelI.any kk r]
  by_cases hb : l.any (fun p => p.1 == kk) = true
  · rw [if_pos hb, if_pos hb]; exact VRelI.put kk rv r
  · rw [if_neg hb, if_neg hb]; exact VRelI.snoc kk rv r

noncomputable def putCell (c : ACell) (i v : AV) : Option ACell := match c with
  | .dict l => asS i fun kk => if okS l.length then some (.dict (setD l kk v)) else none
  | .dicti l => asI i fun kk => if okS l.length then some (.dicti (setI l kk v)) else none
  | .list l => asI i fun j => if decide (0 ≤ j) && decide (j < l.length) && okS l.length then some (.list (l.set j.toNat v)) else none
  | .dead => none
noncomputable def setCell (σ : St) (n : Nat) (i v : AV) : Option St := o1 σ[n]? fun c => o1 (putCell c i v) fun c' => some (σ.set n c')

theorem setItem_list {prog : Program} {w : World} {A : Around} {E : Value → Shared → Prop} {s : Shared} {l : Addr} {items : Array Value} {k : Int} {t : Tok} {v : Value} {Q : Unit → Shared → Prop} (hl : s.heap.PlainList l items)
    (h0 : 0 ≤ k) (hfit : k < 2 ^ 63) (hn : k < items.size)
    (hQ : ∀ h', h'.PlainList l (items.setIfInBounds k.toNat v) → Heap.SameBut l s.heap h' → Q () { s with heap := h' }) :
    wpAny (model prog w) A (setItem (.ref l) (.int k t) v) Q E s := by
  obtain ⟨m, ho⟩ := id hl
  have hl' := hl.isList
  unfold setItem
  try with_reducible refine wpAny_holding ?_
  first | refine wpAny_bind (wpAny_pure ?_) | skip
  refine wpAny_bind (wpAny_sequenceKey hl'.typeIs (by decide) ?_)
  refine wpAny_bind (wpAny_callSpecial?_slot (name := Str.ofString "__setitem__") hl'.typeIs slot_list_setitem
    (wpAny_call_entry slot_list_setitem hl'.typeIs entry_list_setitem ?_ (args_list_setitem _ _ _)))
  show wpAny _ _ (Builtin.List.listSubscript? (.int k t) >>= _) _ _ s
  refine wpAny_bind (wpAny_listSubscript_int (fitsIndex_of h0 hfit) ?_)
  clear hfit
  obtain ⟨j, rfl⟩ := Int.eq_ofNat_of_zero_le h0
  have hj : j < items.size := by (first | lia | omega)
  have hx' : items[j]? = some items[j] := Array.getElem?_eq_getElem hj
  show wpAny _ _ ((seqItemAt l j >>= fun r => pure (r.map (j, ·))) >>= _) _ _ s
  refine wpAny_bind (wpAny_bind (wpAny_seqItemAt ho rfl (wpAny_pure ?_)))
  rw [hx']
  show wpAny _ _ (setSeqItemAt l j v >>= _) _ _ s
  refine wpAny_bind (wpAny_setSeqItemAt ho rfl ?_)
  have hm : Obj.mapSeq (·.setIfInBounds j v) { cls := .type "list", data := .seq items m } = { cls := .type "list", data := .seq (items.setIfInBounds j v) m } := by simp [Obj.mapSeq]
  have hfin : (s.heap.update l (Obj.mapSeq (·.setIfInBounds j v))).PlainList l (items.setIfInBounds j v) := ⟨m, by rw [Heap.get?_update_self _ ho (by rw [hm]; rfl), hm]⟩
  first
    | exact wpAny_bind (wpAny_pure (wpAny_pure ⟨.none, rfl, wpAny_pure (hQ _ hfin (Heap.SameBut.update ..))⟩))
    | exact wpAny_pure ⟨.none, rfl, wpAny_pure (hQ _ hfin (Heap.SameBut.update ..))⟩

theorem cell_done (c : VC X k A Z ρ σ s) {n : Nat} {a : Addr} {cc c' : ACell} {h' : Heap} {tk : Nat} (hn : ρ[n]? = some a) (hl : σ[n]? = some cc) (hd : cc ≠ .dead) (nz : ¬ Z a) (hs : Heap.SameBut a s.heap h') (al : h'.get? a ≠ none)
    (hr : Ext T0 Z ρ s Z ρ { s with heap := h', toks := tk } → CRel X ρ Z h' c' a) : Inv X Z ρ (σ.set n c') { s with heap := h', toks := tk } ∧ Ext T0 Z ρ s Z ρ { s with heap := h', toks := tk } := by
  have y := Ext.cellSet (T := T0) (s := s) (tk := tk) (List.mem_of_getElem? hn) nz hs al (crel_frm (c.inv.cells n a _ hn hl) hd)
  exact ⟨c.inv.cellSet hn hl nz hs (hr y) al, y⟩
theorem setCell_ok (c : VC X k A Z ρ σ s) {n : Nat} {a : Addr} {i v : AV} {vi vv : Value} (hn : ρ[n]? = some a) (ri : VRel X ρ Z s.heap i vi) (rv : VRel X ρ Z s.heap v vv) {σ' : St} (e : setCell σ n i v = some σ') {Q : Unit → Shared → Prop} {E}
    (h : ∀ h' tk, Inv X Z ρ σ' { s with heap := h', toks := tk } → Ext T0 Z ρ s Z ρ { s with heap := h', toks := tk } → Q () { s with heap := h', toks := tk }) : wpAny (model X.prog X.w) A (setItem (.ref a) vi vv) Q E s := by
  refine o1_inv e fun cc hl e => o1_inv e fun c' h' e => ?_
  rw [← oE e] at h
  have cr := c.inv.cells n a _ hn hl
  have done : ∀ {h' tk}, cc ≠ .dead → ¬ Z a → Heap.SameBut a s.heap h' → h'.get? a ≠ none → (Ext T0 Z ρ s Z ρ { s with heap := h', toks := tk } → CRel X ρ Z h' c' a) → Q () { s with heap := h', toks := tk } := fun hd nz hs al hr =>
    let z := cell_done c hn hl hd nz hs al hr; h _ _ z.1 z.2
  clear h e
  cases cc with
  | dict l =>
    refine asS_inv h' ri fun kk t h' => ifN h' fun hz h' => ?_
    rw [← oE h'] at done
    obtain ⟨nz, es, dd, q⟩ := cr
    refine wpAny_setItem_pairs (knd := PySem.strKind X.prog X.w) (k := toStr kk) (by simp [PySem.strKind, Value.isStrOf]) dd (fun h' dd' hs => ?_) (by have := okS_le hz; simp [← q.length]; (first | lia | omega))
    exact done (fun q => nomatch q) nz hs (by obtain ⟨_, _, _, e, _⟩ := dd'; rw [e]; exact fun q => nomatch q) fun y => ⟨nz, _, dd', (q.stored kk rv).ext y⟩
  | dicti l =>
    refine asI_inv h' ri fun kk t h' => ifN h' fun hz h' => ?_
    rw [← oE h'] at done
    obtain ⟨nz, es, dd, q⟩ := cr
    refine wpAny_setItem_pairs (knd := PySem.intKind X.prog X.w) (k := kk) (by simp [PySem.intKind, Value.isInt]) dd (fun h' dd' hs => ?_) (by have := okS_le hz; simp [← q.length]; (first | lia | omega))
    exact done (fun q => nomatch q) nz hs (by obtain ⟨_, _, _, e, _⟩ := dd'; rw [e]; exact fun q => nomatch q) fun y => ⟨nz, _, dd', (q.stored kk rv).ext y⟩
  | list l =>
    refine asI_inv h' ri fun j t h' => ifN h' fun hz h' => ?_
    rw [← oE h'] at done
    have hz := Bool.and_eq_true_iff.mp hz
    have h1 := Bool.and_eq_true_iff.mp hz.1
    have h2 := of_decide_eq_true h1.2
    have hz2 := okS_le' hz.2
    obtain ⟨nz, vs, pl, q⟩ := cr
    rw [q.length] at h2 hz2
    refine setItem_list pl (of_decide_eq_true h1.1) (by (first | lia | omega)) h2 (fun h' pl' hs => ?_)
    exact done (tk := s.toks) (fun q => nomatch q) nz hs (by obtain ⟨_, e⟩ := pl'; rw [e]; exact fun q => nomatch q) fun y => ⟨nz, vs.set j.toNat vv, by simpa using pl', (q.set j.toNat rv).ext y⟩
  | dead => exact oN h'

noncomputable def asCell {β : Type} (a : AV) (f : Nat → Option β) : Option β := match a with
  | .cell n => f n
  | _ => none
@[elab_as_elim] theorem asCell_inv {β : Type} {r : β} {h : Heap} {a : AV} {v : Value} {f : Nat → Option β} {P : Value → Prop} (e : asCell a f = some r) (q : VRel X ρ Z h a v) (k : ∀ n a, ρ[n]? = some a → f n = some r → P (.ref a)) : P v := by
  cases a with
  | cell n => unfold VRel at q; obtain ⟨a, ha, q⟩ := q; rw [q]; exact k n a ha e
  | _ => exact oN e
noncomputable def aSub (m n : ME) (av : AV) : Binder := fun η σ => oB (m η σ) fun a σ => asCell a fun j => oB (n η σ) fun i σ => o1 (setCell σ j i av) fun σ => some (η, σ)
theorem a_sub {o i : Expr} {pos} {m n : ME} (hm : SimX X k sc vis o m) (hn : SimX X k sc vis i n) : SimA X k sc vis (.Subscript o i pos) (aSub m n) := by
  refine ⟨?_⟩
  intro A env Z ρ σ η s c av v r η' σ' e Q E p
  refine oB_inv e fun a' σ₁ h1 e => ?_
  rw [assign_Subscript]
  refine wpAny_bind (wpAny_holding (hm.run A env Z ρ σ η s c _ _ h1 _ _ fun Z₁ ρ₁ v₁ s₁ i₁ y₁ r₁ => ?_))
  refine asCell_inv e r₁ fun j a ha e => oB_inv e fun i' σ₂ h2 e => o1_inv e fun σ₃ h3 e => ?_
  refine wpAny_bind (wpAny_holding (hn.run A env Z₁ ρ₁ σ₁ η s₁ (c.next i₁ y₁) _ _ h2 _ _ fun Z₂ ρ₂ v₂ s₂ i₂ y₂ r₂ => ?_))
  have c₂ := (c.next i₁ y₁).next i₂ y₂
  refine wpAny_bind (wpAny_standAt (wpAny_bind (wpAny_holding (setCell_ok c₂.c (prefix_get y₂.rho ha) r₂ ((r.ext y₁).ext y₂) h3 fun h' tk i₃ y₃ => ?_))))
  exact wpAny_release (p.of e _ _ _ i₃ (((y₁.trans y₂).trans y₃).weaken fun _ f => f.elim) (c₂.e.ext y₃))
end
end Mine
end
section
open PySem PySem.W PyProof.Rows
set_option maxRecDepth 100000
set_option linter.unusedVariables false
namespace Mine
open SeqAt

section
variable {X : Cx} {k : Nat} {sc : Scope} {vis : List (Str × Nat)} {A : Around} {env cenv : Env} {Z : Addr → Prop} {ρ : List Addr} {σ : St} {η : Eta} {s : Shared}

noncomputable def oInsert : OpL := fun l σ => args l no1 no2 (fun a b x => asCell a fun n => asI b fun i => o1 (o1 σ[n]? cellL) fun l => if okS l.length && decide (0 ≤ i) && decide (i ≤ l.length) then some (.none, σ.set n (.list (l.take i.toNat ++ x :: l.drop i.toNat))) else none)
noncomputable def insF (i : Int) (u : Value) (xs : Array Value) : Array Value := let k := if i < 0 then (i + ((xs.size : Nat) : Int)).toNat else min i.toNat xs.size; (xs.extract 0 k).push u ++ xs.extract k
theorem insF_eq {i : Int} {u : Value} {vs : List Value} {m : Nat} (h0 : 0 ≤ i) (h1 : i ≤ vs.length) :
    Obj.mapSeq (insF i u) { cls := .type "list", data := .seq vs.toArray m } = { cls := .type "list", data := .seq (vs.take i.toNat ++ u :: vs.drop i.toNat).toArray (m + 1) } := by
  have harr : insF i u vs.toArray = (vs.take i.toNat ++ u :: vs.drop i.toNat).toArray := by
    unfold insF
    have hmin : min i.toNat vs.length = i.toNat := by (first | lia | omega)
    simp only [List.size_toArray, if_neg (show ¬ i < 0 by (first | lia | omega)), hmin]
    apply Array.ext'
    simp
    exact List.take_of_length_le (by simp)
  unfold Obj.mapSeq
  dsimp only
  rw [harr, if_neg (by simp; (first | lia | omega))]
theorem c_insert : CallOk X k (.builtin "list.insert") oInsert := by
  refine ⟨?_⟩
  intro A Z ρ σ s c l vs r av σ' e Q E p
  refine args3 (P := fun vs => wpAny (model X.prog X.w) A (call (.builtin "list.insert") vs) Q E s) e r fun a b x v w u r1 r2 r3 e => asCell_inv e r1 fun n a ha e => asI_inv e r2 fun i t e => o1_inv e fun l hl e => ifN e fun hz e => ?_
  refine o1_inv hl fun cc hc hl => ?_
  rw [cellL_is hl] at hc
  have hz := Bool.and_eq_true_iff.mp hz
  have hz' := Bool.and_eq_true_iff.mp hz.1
  have h0 := of_decide_eq_true hz'.2
  have h1 := of_decide_eq_true hz.2
  have hz := okS_le' hz'.1
  obtain ⟨nz, vs, ⟨m, ho⟩, q⟩ := c.inv.cells n a _ ha hc
  rw [q.length] at h1 hz
  have hfit : ¬ (!Builtin.List.listFitsIndex i) = true := by
    rw [fitsIndex_of h0 (show i < 2 ^ 63 by (first | lia | omega))]; decide
  refine call_meets F.slot_list_insert (T := "list") ⟨_, ho, rfl⟩ F.entry_list_insert (F.args_list_insert_3 _ _ _) (AutoListH.list_insert_list_int_val_1 a vs.toArray m i t u hfit (by rw [List.size_toArray, sizeLine_eq]; (first | lia | omega))) ⟨ho, ?_⟩
  show Q _ { s with heap := s.heap.update a (Obj.mapSeq (insF i u)) }
  have hm := insF_eq (u := u) (m := m) h0 h1
  have hg : (s.heap.update a (Obj.mapSeq (insF i u))).get? a = some { cls := .type "list", data := .seq (vs.take i.toNat ++ u :: vs.drop i.toNat).toArray (m + 1) } := by rw [Heap.get?_update_self _ ho (by rw [hm]; rfl), hm]
  have z := cell_done c (tk := s.toks) (c' := .list (l.take i.toNat ++ x :: l.drop i.toNat)) ha hc (fun q => nomatch q) nz (Heap.SameBut.update ..) (by rw [hg]; exact fun q => nomatch q) fun y => ⟨nz, _, ⟨_, hg⟩, ((q.take i.toNat).append (VRels.cons r3 (q.drop i.toNat))).ext y⟩
  exact p.of e _ _ _ _ z.1 z.2 vrel_none

noncomputable def cellVal : ACell → Option AV
  | .list l => some (.list l)
  | .dict l => some (.dict l)
  | .dicti l => some (.dicti l)
  | .dead => none
noncomputable def frzC (n : Nat) (σ : St) (x : Option AV) : AV × St := match x with
  | some v => (v, σ.set n .dead)
  | none => (.cell n, σ)
noncomputable def frz (a : AV) (σ : St) : AV × St := match a with
  | .cell n => frzC n σ (o1 σ[n]? cellVal)
  | a => (a, σ)

theorem Inv.dead (i : Inv X Z ρ σ s) {n : Nat} {a : Addr} (hn : ρ[n]? = some a) : Inv X (fun b => Z b ∨ b = a) ρ (σ.set n .dead) s where
  base := i.base
  fr := fun b f => by
    rcases f with f | q
    · exact i.fr b f
    · rw [q]; exact (i.old a (List.mem_of_getElem? hn)).1
  len := by simp [i.len]
  nd := i.nd
  old := i.old
  cells := fun m b d h1 h2 => by
    by_cases q : m = n
    · subst q
      have hlt := (List.getElem?_eq_some_iff.mp hn).1
      rw [List.getElem?_set_self (by rw [← i.len]; exact hlt)] at h2
      cases h2
      trivial
    · rw [List.getElem?_set_ne (Ne.symm q)] at h2
      exact (i.cells m b d h1 h2).mono (fun _ _ _ e => e) (fun _ f => .inl f) List.prefix_rfl (fun _ e => e) fun nf f => f.elim nf fun e => q (nodup_idx i.nd h1 (e ▸ hn))
theorem Ext.dead {T} {n : Nat} {a : Addr} (hn : ρ[n]? = some a) : Ext T Z ρ s (fun b => Z b ∨ b = a) ρ s where
  keep := fun _ _ e _ _ => .inl e
  fkeep := fun _ _ _ e => e
  fmono := fun _ f => .inl f
  fnew := fun b f => f.elim .inl fun q => .inr (.inl (q ▸ List.mem_of_getElem? hn))
  rho := List.prefix_rfl
  rnew := fun _ m => .inl m
  alive := fun _ o e => ⟨o, e⟩
  frm := fun _ f => f
  gens := rfl
  os := rfl
  drawn := rfl

theorem cellVal_rel {n : Nat} {b : Addr} {c : ACell} {v : AV} (i : Inv X Z ρ σ s) (hb : ρ[n]? = some b) (r : CRel X ρ Z s.heap c b) (e : cellVal c = some v) : VRel X ρ (fun x => Z x ∨ x = b) s.heap v (.ref b) := by
  cases c with
  | list l => obtain ⟨_, vs, pl, q⟩ := r; rw [← oE e]; unfold VRel; exact ⟨b, vs, rfl, .inr rfl, pl, q.mono (fun _ _ _ e => e) (fun _ f => .inl f) List.prefix_rfl⟩
  | dict l => obtain ⟨_, vs, pl, q⟩ := r; rw [← oE e]; unfold VRel; exact ⟨b, vs, rfl, .inr rfl, (i.old b (List.mem_of_getElem? hb)).2.2, pl, q.mono (fun _ _ _ e => e) (fun _ f => .inl f) List.prefix_rfl⟩
  | dicti l => obtain ⟨_, vs, pl, q⟩ := r; rw [← oE e]; unfold VRel; exact ⟨b, vs, rfl, .inr rfl, (i.old b (List.mem_of_getElem? hb)).2.2, pl, q.mono (fun _ _ _ e => e) (fun _ f => .inl f) List.prefix_rfl⟩
  | dead => exact oN e
theorem frz_ok (i : Inv X Z ρ σ s) (a : AV) : ∃ Z', Inv X Z' ρ (frz a σ).2 s ∧ Ext T0 Z ρ s Z' ρ s ∧ ∀ v, VRel X ρ Z s.heap a v → VRel X ρ Z' s.heap (frz a σ).1 v := by
  have triv : ∃ Z', Inv X Z' ρ σ s ∧ Ext T0 Z ρ s Z' ρ s ∧ ∀ v, VRel X ρ Z s.heap a v → VRel X ρ Z' s.heap a v := ⟨Z, i, Ext.refl .., fun _ r => r⟩
  cases a with
  | cell n =>
    show ∃ Z', Inv X Z' ρ (frzC n σ (o1 σ[n]? cellVal)).2 s ∧ Ext T0 Z ρ s Z' ρ s ∧ ∀ v, VRel X ρ Z s.heap (.cell n) v → VRel X ρ Z' s.heap (frzC n σ (o1 σ[n]? cellVal)).1 v
    cases h : o1 σ[n]? cellVal with
    | none => exact triv
    | some v =>
      refine o1_inv h fun c hc e => ?_
      have hlt := (List.getElem?_eq_some_iff.mp hc).1
      rw [← i.len] at hlt
      have hb := List.getElem?_eq_getElem hlt
      refine ⟨_, i.dead hb, Ext.dead hb, fun w r => ?_⟩
      unfold VRel at r
      obtain ⟨b', hb', q⟩ := r
      rw [q, ← Option.some.inj (hb.symm.trans hb')]
      exact cellVal_rel i hb (i.cells _ _ _ hb hc) e
  | _ => exact triv

noncomputable def mFrz (m : ME) : ME := fun η σ => oB (m η σ) fun a σ => some (frz a σ)
theorem s_frz {x : Expr} {m : ME} (h : SimX X k sc vis x m) : SimX X k sc vis x (mFrz m) := by
  refine ⟨?_⟩
  intro A env Z ρ σ η s c av σ' e Q E p
  refine oB_inv e fun a σ₁ h1 e => ?_
  refine h.run A env Z ρ σ η s c _ _ h1 _ _ fun Z₁ ρ₁ v₁ s₁ i₁ y₁ r₁ => ?_
  obtain ⟨Z₂, i₂, y₂, r₂⟩ := frz_ok i₁ a
  have r₂ := r₂ _ r₁
  rw [show frz a σ₁ = (av, σ') from Option.some.inj e] at i₂ r₂
  exact p _ _ _ _ i₂ (y₁.trans y₂) r₂
end
end Mine
end
section
open PySem PySem.W PyProof.Rows
set_option maxRecDepth 100000
set_option linter.unusedVariables false
namespace Mine
open SeqAt

structure FunAt (X : Cx) (a : Addr) (fd : FuncData) (body : List Stmt) (ps : List Str) : Prop where
  obj : ∃ o, X.H₀.get? a = some o ∧ o.data = .func fd
  lim : X.H₀.NoLimit
  code : X.H₀.CodeRec fd.code fd.qualname
  body : fd.body = .stmts body
  clo : fd.closure = []
  co : fd.scope.isCoroutine = false
  gen : fd.scope.isGenerator = false
  kind : fd.scope.kind = .function
  glob : fd.globals = mainGlobals
  bltn : fd.builtins = builtinsNs
  bind : ∀ vals : List Value, vals.length = ps.length → bindArgs fd ⟨vals, []⟩ = pure (ps.zip vals)

noncomputable def funOk (sc : Scope) (vis : List (Str × Nat)) (ps : List Str) (N : Nat) : Bool :=
  decide ((sc.names.map (·.1)).Nodup) && (sc.names.all fun p => p.2 != .free) && decide ps.Nodup && decide (ps.length ≤ N) &&
  (ps.all fun p => sc.names.lookup p == some .local || sc.names.lookup p == some .cell) &&
  (vis.all fun q => decide (ps.length ≤ q.2) || ps[q.2]? == some q.1) && visOk vis

noncomputable def eta0 (N : Nat) (l : List AV) : Eta := l ++ List.replicate (N - l.length) .unbound

noncomputable def oRet (x : Option (Out × Eta × St)) : Option (AV × St) := match x with
  | some (o, _, σ) => match o with
    | .ret a => some (a, σ)
    | .next => some (.none, σ)
    | .exc _ => none
  | none => none
theorem oRet_inv {x : Option (Out × Eta × St)} {r : AV × St} {P : Prop} (e : oRet x = some r) (k : ∀ a η σ, x = some (.ret a, η, σ) → some (a, σ) = some r → P) (k' : ∀ η σ, x = some (.next, η, σ) → some (.none, σ) = some r → P) : P := by
  cases x with
  | none => exact oN e
  | some w =>
    obtain ⟨o, η, σ⟩ := w
    cases o with
    | next => exact k' η σ rfl e
    | ret v => exact k v η σ rfl e
    | exc x => exact oN e
noncomputable def oFun (n N : Nat) (m : MS) : OpL := fun l σ => if l.length = n then oRet (m (eta0 N l) σ) else none

structure FOk (sc : Scope) (vis : List (Str × Nat)) (ps : List Str) : Prop where
  nd : (sc.names.map (·.1)).Nodup
  nofree : ∀ x, (x, NameKind.free) ∉ sc.names
  pnd : ps.Nodup
  par : ∀ p ∈ ps, sc.names.lookup p = some .local ∨ sc.names.lookup p = some .cell
  at' : ∀ x i, vis.lookup x = some i → ps.length ≤ i ∨ ps[i]? = some x
theorem funOk_is {sc : Scope} {vis : List (Str × Nat)} {ps : List Str} {N : Nat} (ok : funOk sc vis ps N = true) : FOk sc vis ps := by
  unfold funOk at ok
  obtain ⟨ok, h7⟩ := Bool.and_eq_true_iff.mp ok
  obtain ⟨ok, h6⟩ := Bool.and_eq_true_iff.mp ok
  obtain ⟨ok, h5⟩ := Bool.and_eq_true_iff.mp ok
  obtain ⟨ok, h4⟩ := Bool.and_eq_true_iff.mp ok
  obtain ⟨ok, h3⟩ := Bool.and_eq_true_iff.mp ok
  obtain ⟨h1, h2⟩ := Bool.and_eq_true_iff.mp ok
  refine ⟨of_decide_eq_true h1, fun x hx => ?_, of_decide_eq_true h3, fun p hp => ?_, fun x i hx => ?_⟩
  · exact Bool.noConfusion (List.all_eq_true.mp h2 _ hx)
  · exact (Bool.or_eq_true_iff.mp (List.all_eq_true.mp h5 p hp)).imp beq_iff_eq.mp beq_iff_eq.mp
  · exact (Bool.or_eq_true_iff.mp (List.all_eq_true.mp h6 _ (mem_of_lookup hx))).imp of_decide_eq_true beq_iff_eq.mp

theorem bindL_notin {kd : Str → Option NameKind} : ∀ {bs : List (Str × Value)} {m : Str → Option Value} {x : Str}, (∀ p ∈ bs, p.1 ≠ x) → bindL kd bs m x = m x
  | [], _, _, _ => rfl
  | (n, v) :: r, m, x, h => by
    unfold bindL
    rw [bindL_notin fun p hp => h p (List.mem_cons_of_mem _ hp)]
    split
    · have := h (n, v) List.mem_cons_self
      simp [Ne.symm this]
    · rfl
theorem bindL_get {kd : Str → Option NameKind} : ∀ {bs : List (Str × Value)} {m : Str → Option Value} {x : Str} {v : Value}, (bs.map (·.1)).Nodup → (x, v) ∈ bs → kd x = some .local → bindL kd bs m x = some v
  | (n, w) :: r, m, x, v, hn, hm, hk => by
    simp only [List.map_cons, List.nodup_cons] at hn
    unfold bindL
    rcases List.mem_cons.mp hm with e | hm
    · cases e
      rw [bindL_notin fun p hp q => hn.1 (List.mem_map.mpr ⟨p, hp, q⟩), if_pos hk]
      simp
    · exact bindL_get hn.2 hm hk
theorem bindC_notin {kd : Str → Option NameKind} : ∀ {bs : List (Str × Value)} {m : Str → Option Value} {x : Str}, (∀ p ∈ bs, p.1 ≠ x) → bindC kd bs m x = m x
  | [], _, _, _ => rfl
  | (n, v) :: r, m, x, h => by
    unfold bindC
    rw [bindC_notin fun p hp => h p (List.mem_cons_of_mem _ hp)]
    split
    · rfl
    · have := h (n, v) List.mem_cons_self
      simp [Ne.symm this]
theorem bindC_get {kd : Str → Option NameKind} : ∀ {bs : List (Str × Value)} {m : Str → Option Value} {x : Str} {v : Value}, (bs.map (·.1)).Nodup → (x, v) ∈ bs → kd x ≠ some .local → bindC kd bs m x = some v
  | (n, w) :: r, m, x, v, hn, hm, hk => by
    simp only [List.map_cons, List.nodup_cons] at hn
    unfold bindC
    rcases List.mem_cons.mp hm with e | hm
    · cases e
      rw [bindC_notin fun p hp q => hn.1 (List.mem_map.mpr ⟨p, hp, q⟩), if_neg hk]
      simp
    · exact bindC_get hn.2 hm hk

theorem cellsFrom_nodup : ∀ (names : List (Str × NameKind)) (n : Nat) (acc : List (Str × Addr)), (names.map (·.1)).Nodup → (acc.map (·.1)).Nodup → (∀ p ∈ names, ∀ q ∈ acc, p.1 ≠ q.1) → ((cellsFrom n names acc).map (·.1)).Nodup
  | [], _, _, _, h, _ => h
  | (x, kd) :: r, n, acc, h1, h2, h3 => by
    simp only [List.map_cons, List.nodup_cons] at h1
    unfold cellsFrom
    split
    · refine cellsFrom_nodup r _ _ h1.2 ?_ ?_
      · simp only [List.map_cons, List.nodup_cons]
        refine ⟨fun hm => ?_, h2⟩
        obtain ⟨q, hq, e⟩ := List.mem_map.mp hm
        exact h3 (x, kd) List.mem_cons_self q hq e.symm
      · intro p hp q hq
        rcases List.mem_cons.mp hq with rfl | hq
        · exact fun e => h1.1 (List.mem_map.mpr ⟨p, hp, e⟩)
        · exact h3 p (List.mem_cons_of_mem _ hp) q hq
    · exact cellsFrom_nodup r _ _ h1.2 h2 fun p hp q hq => h3 p (List.mem_cons_of_mem _ hp) q hq
theorem lookup_nodupA : ∀ {l : List (Str × Addr)} {x : Str} {c : Addr}, (l.map (·.1)).Nodup → (x, c) ∈ l → l.lookup x = some c
  | (n, k) :: r, x, c, hn, hm => by
    simp only [List.map_cons, List.nodup_cons] at hn
    rw [List.lookup_cons]
    rcases List.mem_cons.mp hm with e | hm'
    · cases e; simp
    · have : (x == n) = false := by
        rw [beq_eq_false_iff_ne]
        rintro rfl
        exact hn.1 (List.mem_map.mpr ⟨(x, c), hm', rfl⟩)
      rw [this]
      exact lookup_nodupA hn.2 hm'
theorem zip_names {ps : List Str} {vs : List Value} (h : vs.length = ps.length) : (ps.zip vs).map (·.1) = ps := by
  rw [List.map_fst_zip]; (first | lia | omega)
theorem zip_at {ps : List Str} {vs : List Value} {i : Nat} {x : Str} {v : Value} (h1 : ps[i]? = some x) (h2 : vs[i]? = some v) : (x, v) ∈ ps.zip vs := by
  refine List.mem_of_getElem? (i := i) ?_
  rw [List.getElem?_zip_eq_some]; exact ⟨h1, h2⟩

section
variable {X : Cx} {k : Nat} {sc : Scope} {vis : List (Str × Nat)} {A : Around} {env cenv : Env} {Z : Addr → Prop} {ρ : List Addr} {σ : St} {η : Eta} {s : Shared}

theorem frame_ok {a : Addr} {fd : FuncData} {body : List Stmt} {ps : List Str} {N : Nat} (F : FunAt X a fd body ps) (ok : funOk fd.scope vis ps N = true) (c : VC X k A Z ρ σ s) {l : List AV} {vs : List Value} (r : VRels X ρ Z s.heap l vs) (hl : l.length = ps.length)
    {s₁ : Shared} (I : InCallC s (callEnvC fd s.heap.objs.size a).locals (bindL (callEnvC fd s.heap.objs.size a).kindOf (ps.zip vs) fun _ => none) (callEnvC fd s.heap.objs.size a).cells (bindC (callEnvC fd s.heap.objs.size a).kindOf (ps.zip vs) fun _ => none) s₁) (hfc : FCls s₁.heap s.heap.objs.size) :
    EC X (k + 1) fd.scope vis (A.deeper (callEnvC fd s.heap.objs.size a)) (callEnvC fd s.heap.objs.size a) Z ρ σ (eta0 N l) s₁ ∧ Ext T0 Z ρ s Z ρ s₁ ∧ (∀ b, Tur vis (callEnvC fd s.heap.objs.size a) b → s.heap.get? b = none) := by
  have ok := funOk_is ok
  have hvl : vs.length = ps.length := by rw [← r.length]; exact hl
  have hzn : ((ps.zip vs).map (·.1)).Nodup := by rw [zip_names hvl]; exact ok.pnd
  obtain ⟨h', tk, hs₁, hk⟩ := I.done
  rw [hs₁] at I hfc ⊢
  have i₁ : Inv X Z ρ σ { s with heap := h', toks := tk } := c.inv.touch (W := fun _ => False) (fun b o' _ e => hk b o' e) fun a f => f.elim
  have y₁ : Ext T0 Z ρ s Z ρ { s with heap := h', toks := tk } := Ext.touch (X := X) (W := fun _ => False) (fun b o' _ e => hk b o' e) (fun a f => f.elim) (fun a f => f.elim) fun a f => f
  have rx : VRels X ρ Z h' l vs := r.ext y₁
  have fresh : ∀ b, s.heap.objs.size ≤ b → s.heap.get? b = none := fun b hb => by
    cases q : s.heap.get? b with
    | none => rfl
    | some o => exact absurd (Heap.lt_size q) (Nat.not_lt.mpr hb)
  have cellfresh : ∀ n d, (n, d) ∈ (callEnvC fd s.heap.objs.size a).cells → s.heap.get? d = none := fun n d hm => fresh d (Nat.le_of_lt (I.above n d hm))
  have cnod : ((callEnvC fd s.heap.objs.size a).cells.map (·.1)).Nodup := cellsFrom_nodup _ _ _ ok.nd List.nodup_nil (fun _ _ q hq => nomatch hq)
  have fr : ∀ d, s.heap.get? d = none → Free X Z ρ d := fun d hd => by
    refine ⟨fun f => ?_, fun f => ?_, ?_⟩
    · obtain ⟨o, e⟩ := c.inv.fr _ f; rw [hd] at e; exact nomatch e
    · obtain ⟨⟨o, e⟩, _⟩ := c.inv.old _ f; rw [hd] at e; exact nomatch e
    · cases q : X.H₀.get? d with
      | none => rfl
      | some o => have := c.inv.base _ _ q; rw [hd] at this; exact nomatch this
  -- what a parameter's slot holds
  have slot : ∀ x i av, vis.lookup x = some i → (eta0 N l)[i]? = some av → av = .unbound ∨ ∃ v, (x, v) ∈ ps.zip vs ∧ VRel X ρ Z h' av v := fun x i av hx hη => by
    unfold eta0 at hη
    by_cases hi : i < l.length
    · rw [List.getElem?_append_left hi] at hη
      obtain ⟨v, hv, rv⟩ := rx.get hη
      rcases ok.at' x i hx with q | q
      · exact absurd (Nat.lt_of_lt_of_le hi (hl ▸ q)) (Nat.lt_irrefl _)
      · exact .inr ⟨v, zip_at q hv, rv⟩
    · rw [List.getElem?_append_right (by (first | lia | omega))] at hη
      have := List.mem_of_getElem? hη
      exact .inl (List.eq_of_mem_replicate this)
  refine ⟨⟨⟨c.hnd, ?_, ?_, ?_, i₁⟩, rfl, ?_, fun _ => ?_⟩, y₁, fun b t => ?_⟩
  · have := c.dep; show A.depth + 1 ≤ X.dep + (k + 1); (first | lia | omega)
  · have := c.uni; show A.units + 3 ≤ X.uni + 8 * (k + 1); (first | lia | omega)
  · obtain ⟨fs, e1, e2⟩ := c.frs
    refine ⟨callEnvC fd s.heap.objs.size a :: fs, by show A.frames.map _ = _; rw [e1]; rfl, ⟨fun ev hev => ?_⟩⟩
    rcases List.mem_cons.mp hev with q | hev
    · have f0 := fr _ (fresh _ (Nat.le_refl _))
      rw [q]
      exact ⟨by show fd.scope.kind ≠ _; rw [F.kind]; decide, _, rfl, f0.1, f0.2.1, f0.2.2, hfc, _, I.toInCall.ns⟩
    · exact (e2.ext y₁ fun _ _ _ _ t => t.elim).each ev hev
  · refine ⟨F.kind, F.glob, F.bltn, ⟨_, I.toInCall.ns, fun x i av hx hkd hη => ?_⟩, fun x i hx hkd => ?_, free_size c.inv, fun n d hm => ?_, I.apart⟩
    · rcases slot x i av hx hη with q | ⟨v, hv, rv⟩
      · exact .inl q
      · exact .inr ⟨v, bindL_get hzn hv hkd, rv⟩
    · have hkd' : (x, NameKind.cell) ∈ fd.scope.names := by
        rcases hkd with q | q
        · exact mem_of_lookup q
        · exact absurd (mem_of_lookup q) (ok.nofree x)
      obtain ⟨new, hnew, _, _, hn3⟩ := cellsFrom_spec fd.scope.names (s.heap.push { cls := .type "frame", data := .dict #[] }) []
      rw [Heap.size_push, List.append_nil] at hnew
      obtain ⟨d, hd⟩ := hn3 x hkd'
      have hd' : (x, d) ∈ (callEnvC fd s.heap.objs.size a).cells := by show (x, d) ∈ cellsFrom (s.heap.objs.size + 1) fd.scope.names []; rw [hnew]; exact hd
      have hlk := lookup_nodupA cnod hd'
      refine ⟨d, _, hlk, I.cell x d hlk, fun av hη => ?_⟩
      rcases slot x i av hx hη with q | ⟨v, hv, rv⟩
      · exact .inl q
      · refine .inr ⟨v, bindC_get hzn hv ?_, rv⟩
        rcases hkd with q | q <;> rw [q] <;> decide
    · have hf := cellfresh n d hm
      refine ⟨(fr d hf).1, (fr d hf).2.1, (fr d hf).2.2, Nat.ne_of_gt (I.above n d hm), _, I.cell n d (lookup_nodupA cnod hm)⟩
  · obtain ⟨fs, e1, _⟩ := c.frs
    exact ⟨fs, by show A.frames.map _ = _; rw [e1]; rfl⟩
  · rcases t with q | ⟨n, hm, _⟩
    · rw [q]; exact fresh _ (Nat.le_refl _)
    · exact cellfresh n b hm

theorem bindParamsC {M : Model} {A : Around} {E : Value → Shared → Prop} {s₀ : Shared} {env : Env} (f : Str × Value → PUnit → Sem (ForInStep PUnit)) (hf : ∀ n v u, f (n, v) u = (do storeName env n v; pure (.yield ⟨⟩))) (hk : env.scope.kind = .function) :
    ∀ (binds : List (Str × Value)) (m cm : Str → Option Value) (s : Shared) (Q : PUnit → Shared → Prop), InCallC s₀ env.locals m env.cells cm s → FCls s.heap env.locals →
      (∀ x ∈ binds, env.kindOf x.1 = some .local ∨ (env.kindOf x.1 = some .cell ∧ (env.cells.lookup x.1).isSome = true)) →
      (∀ s', InCallC s₀ env.locals (bindL env.kindOf binds m) env.cells (bindC env.kindOf binds cm) s' → FCls s'.heap env.locals → Q ⟨⟩ s') → wpAny M A (forIn binds ⟨⟩ f) Q E s
  | [], m, cm, s, Q, x, hc, _, h => by rw [List.forIn_nil]; exact wpAny_pure (h s x hc)
  | (n, v) :: r, m, cm, s, Q, x, hfc, hkind, h => by
    rw [List.forIn_cons, hf]
    have hr : ∀ y ∈ r, env.kindOf y.1 = some .local ∨ (env.kindOf y.1 = some .cell ∧ (env.cells.lookup y.1).isSome = true) := fun y hy => hkind y (List.mem_cons_of_mem _ hy)
    rcases hkind (n, v) List.mem_cons_self with hl | ⟨hl, hc⟩
    · refine wpAny_bind (wpAny_bind (storeName_localC hl x.toInCall.ns (fun h' hn' hs' hcl => wpAny_pure (bindParamsC (s₀ := s₀) f hf hk r (fun y => if y = n then some v else m y) cm _ Q ?_ (hcl hfc) hr fun s'' x'' f'' => h s'' ?_ f'')) (by rw [hk]; rfl)))
      · refine ⟨⟨?_, hn', fun b o e => ?_, x.toInCall.fresh⟩, fun k c hc => ?_, x.apart, x.above⟩
        · obtain ⟨h₁, tk, rfl⟩ := x.toInCall.same
          exact ⟨h', _, rfl⟩
        · exact hs'.extBut b o (Nat.ne_of_lt (Nat.lt_of_lt_of_le (Heap.lt_size e) x.toInCall.fresh)) (x.toInCall.keep b o e)
        · exact (x.cell k c hc).sameBut hs' (Nat.ne_of_gt (x.above k c (mem_of_lookup hc)))
      · unfold bindL bindC; rw [if_pos hl, if_pos hl]; exact x''
    · obtain ⟨c, hc⟩ := Option.isSome_iff_exists.mp hc
      have hnl : ¬ env.kindOf n = some .local := by rw [hl]; decide
      have hLc := x.above n c (mem_of_lookup hc)
      refine wpAny_bind (wpAny_bind (wpAny_storeName_cell hk hl hc (x.cell n c hc) fun h' hc' hs' => wpAny_pure (bindParamsC (s₀ := s₀) f hf hk r m (fun y => if y = n then some v else cm y) _ Q ?_ (hfc.kept fun o e => (hs'.2 _ (Nat.ne_of_lt hLc)).trans e) hr fun s'' x'' f'' => h s'' ?_ f'')))
      · refine ⟨⟨?_, x.toInCall.ns.sameBut hs' (Nat.ne_of_lt hLc), fun b o e => ?_, x.toInCall.fresh⟩, fun k c' hk' => ?_, x.apart, x.above⟩
        · obtain ⟨h₁, tk, rfl⟩ := x.toInCall.same
          exact ⟨h', _, rfl⟩
        · exact hs'.extBut b o (Nat.ne_of_lt (Nat.lt_trans (Nat.lt_of_lt_of_le (Heap.lt_size e) x.toInCall.fresh) hLc)) (x.toInCall.keep b o e)
        · by_cases hkn : k = n
          · subst hkn
            rw [hc] at hk'; cases hk'
            simpa using hc'
          · rw [if_neg hkn]
            exact (x.cell k c' hk').sameBut hs' fun e => hkn (name_of_addr x.apart (mem_of_lookup hk') (e ▸ mem_of_lookup hc))
      · unfold bindL bindC; rw [if_neg hnl, if_neg hnl]; exact x''

theorem code_call {prog : Program} {w : World} {A : Around} {s : Shared} {R : Result → Shared → Prop} {a : Addr} {o : Obj} {fd : FuncData} {body : List Stmt} {vals : List Value} {binds : List (Str × Value)}
    (hroom : A.depth < recursionLimit) (ho : s.heap.get? a = some o) (hdata : o.data = .func fd) (hlim : s.heap.NoLimit) (hcd : s.heap.CodeRec fd.code fd.qualname)
    (hbody : fd.body = .stmts body) (hbind : bindArgs fd ⟨vals, []⟩ = pure binds) (hclo : fd.closure = [])
    (hkind : ∀ x ∈ binds, fd.scope.names.lookup x.1 = some .local ∨ (fd.scope.names.lookup x.1 = some .cell ∧ ((cellsFrom (s.heap.objs.size + 1) fd.scope.names []).lookup x.1).isSome = true))
    (h : ∀ s₁, InCallC s (callEnvC fd s.heap.objs.size a).locals (bindL (callEnvC fd s.heap.objs.size a).kindOf binds fun _ => none) (callEnvC fd s.heap.objs.size a).cells
        (bindC (callEnvC fd s.heap.objs.size a).kindOf binds fun _ => none) s₁ → FCls s₁.heap s.heap.objs.size →
      wpAny (model prog w) (A.deeper (callEnvC fd s.heap.objs.size a)) (execs body (callEnvC fd s.heap.objs.size a)) (fun f s' => R (.ok (.ret (match f with | .ret v => v | _ => .none))) s')
        (fun e s' => wpAny (model prog w) (A.deeper (callEnvC fd s.heap.objs.size a)) (leaving (callEnvC fd s.heap.objs.size a) e) (fun _ s'' => R (.error e) s'') (fun e' s'' => R (.error e') s'') s') s₁)
    (hco : fd.scope.isCoroutine = false) (hgen : fd.scope.isGenerator = false) (hk : fd.scope.kind = .function) :
    codeAny (model prog w) A (.call (.ref a) ⟨vals, []⟩) R s := by
  refine codeAny_call_function hroom ho hdata hco hgen hbody hcd ?_
  rw [hbind, hclo]
  refine wpAny_pure ?_
  simp only [newFunctionEnv, Option.isSome_none, Bool.false_eq_true, if_false]
  refine wpAny_bind (wpAny_alloc ?_)
  refine wpAny_bind (wpAny_layCells _ (fun name kind cells => by cases hkc : kind == NameKind.cell <;> simp [hkc]) _ _ _ _ ?_)
  have ok := cellsFrom_ok fd.scope.names (s.heap.push { cls := .type "frame", data := .dict #[] }) (s.heap.objs.size + 1) [] ⟨fun _ _ hm => (nomatch hm), List.Pairwise.nil⟩ (by rw [Heap.size_push]; exact Nat.le_refl _)
  rw [Heap.size_push] at ok
  rw [show ({ s with heap := s.heap.push { cls := .type "frame", data := .dict #[] } } : Shared).heap.objs.size = s.heap.objs.size + 1 from Heap.size_push ..]
  refine wpAny_bind (bindParamsC (s₀ := s) (env := callEnvC fd s.heap.objs.size a) _ (fun _ _ _ => rfl) hk binds (fun _ => none) (fun _ => none) _ _
    ⟨⟨⟨_, _, rfl⟩, (Heap.Ns.new s.heap (.type "frame")).keeps (pushCells_keeps _ _), fun b o e => pushCells_keeps _ _ b o (Heap.get?_push_of_some _ e), Nat.le_refl _⟩,
      fun n c hc => (ok.empty n c (mem_of_lookup hc)).1, ok.apart, fun n c hm => (ok.empty n c hm).2⟩
    ⟨_, _, _, pushCells_keeps _ _ _ _ (Heap.get?_push_size _ rfl), rfl, rfl⟩
    hkind fun s' x hfc => wpAny_pure ⟨hlim.keeps x.toInCall.keep, codeAny_func (h s' x hfc)⟩)

theorem par_kind {sc : Scope} {ps : List Str} {vs : List Value} (ok : FOk sc vis ps) (hvl : vs.length = ps.length) (n : Nat) : ∀ x ∈ ps.zip vs, sc.names.lookup x.1 = some .local ∨ (sc.names.lookup x.1 = some .cell ∧ ((cellsFrom (n + 1) sc.names []).lookup x.1).isSome = true) := by
  intro x hx
  have hx1 : x.1 ∈ ps := by have := List.mem_map_of_mem (f := (·.1)) hx; rw [zip_names hvl] at this; exact this
  rcases ok.par _ hx1 with q | q
  · exact .inl q
  · refine .inr ⟨q, ?_⟩
    have key : ∀ (names : List (Str × NameKind)) (n : Nat) (acc : List (Str × Addr)), ((x.1, NameKind.cell) ∈ names ∨ ∃ c, (x.1, c) ∈ acc) → ∃ c, (x.1, c) ∈ cellsFrom n names acc := by
      intro names
      induction names with
      | nil => intro n acc h; exact h.elim (fun h => nomatch h) id
      | cons p r ih =>
        obtain ⟨m, kd⟩ := p
        intro n acc h
        unfold cellsFrom
        split
        · refine ih _ _ ?_
          rcases h with h | ⟨c, h⟩
          · rcases List.mem_cons.mp h with h | h
            · exact .inr ⟨n, by rw [congrArg Prod.fst h]; exact List.mem_cons_self⟩
            · exact .inl h
          · exact .inr ⟨c, List.mem_cons_of_mem _ h⟩
        · rename_i hk
          refine ih _ _ (h.imp_left fun h => ?_)
          rcases List.mem_cons.mp h with h | h
          · exact absurd (beq_iff_eq.mpr (congrArg Prod.snd h).symm) hk
          · exact h
    obtain ⟨d, hd⟩ := key sc.names (n + 1) [] (.inl (mem_of_lookup q))
    obtain ⟨d', hd'⟩ := lookup_some_of_mem hd
    rw [hd']; rfl
theorem c_fun {a : Addr} {fd : FuncData} {body : List Stmt} {ps : List Str} {N : Nat} {m : MS} (U : UOk X k) (F : FunAt X a fd body ps) (ok : funOk fd.scope vis ps N = true) (hB : SimB X (k + 1) fd.scope vis body m) :
    CallOk X k (.ref a) (oFun ps.length N m) := by
  refine ⟨?_⟩
  intro A Z ρ σ s c l vs r av σ' e Q E p
  refine ifN e fun hl e => ?_
  obtain ⟨o, ho, hd⟩ := F.obj
  have hvl : vs.length = ps.length := by rw [← r.length]; exact hl
  have hroom : A.depth < recursionLimit := by have := c.dep; have := U.2; (first | lia | omega)
  refine wpAny_call (code_call hroom (c.inv.base _ _ ho) hd (F.lim.keeps c.inv.base) (F.code.keeps c.inv.base) F.body (F.bind vs hvl) F.clo (par_kind (funOk_is ok) hvl _) (fun s₁ I hfc => ?_) F.co F.gen F.kind)
  obtain ⟨ec, y₁, ht⟩ := frame_ok F ok c r hl I hfc
  refine oRet_inv e (fun av' η' σ₁ h1 e => ?_) fun η' σ₁ h1 e => ?_
  · refine hB.run _ _ Z ρ σ _ s₁ ec _ _ _ h1 _ _ fun Z₂ ρ₂ v₂ s₂ i₂ y₂ e₂ r₂ => ?_
    exact p.of e _ _ _ _ i₂ ((y₁.weaken fun _ f => f.elim).trans y₂ |>.drop fun b t => .inr (ht b t)) r₂
  · refine hB.run _ _ Z ρ σ _ s₁ ec _ _ _ h1 _ _ fun Z₂ ρ₂ s₂ i₂ y₂ e₂ => ?_
    exact p.of e _ _ _ _ i₂ ((y₁.weaken fun _ f => f.elim).trans y₂ |>.drop fun b t => .inr (ht b t)) vrel_none

theorem s_callF {x : Str} {p pos : Pos} {es : List Expr} {a : Addr} {fd : FuncData} {r : ML} {op : OpL} (G : GName X x (.ref a)) (hf : ∃ o, X.H₀.get? a = some o ∧ o.data = .func fd) (ok : CallOk X k (.ref a) op) (hr : SimL X k sc vis es r) (hk : sc.names.lookup x = some .globalImplicit := by decide +kernel)
    (hd : (x == ("__debug__" : Str)) = false := by decide +kernel) (hp : ∀ env, (backTo pos (starEach es env)).any (·.1) = false := by intro _; rfl) : SimX X k sc vis (.Call (.Name x p) es [] pos) (mCall r op) := by
  refine ⟨?_⟩
  intro A env Z ρ σ η s c av σ' e Q E p
  refine oB_inv e fun l σ₁ h1 e => ?_
  have hk' : env.kindOf x = some .globalImplicit := by unfold Env.kindOf; rw [c.sc]; exact hk
  obtain ⟨o, ho, hd'⟩ := hf
  refine wpAny_Call_NameR (wpAny_Name ?_ hd)
  rw [PyProof.Rows.loadName_read c.e.kind hk']
  refine G _ _ _ _ _ c.e.glob c.e.bltn c.c.inv.base ?_
  refine PySem.Calls.callWith_function (o := o) (fd := fd) (evalArgs_any (hp env) (hr.run A env Z ρ σ η s pos c _ _ h1 _ _ fun Z₁ ρ₁ vs₁ s₁ i₁ y₁ r₁ => ⟨⟨i₁.base _ _ ho, hd'⟩, ?_⟩))
  exact ok.run A Z₁ ρ₁ σ₁ s₁ (c.next i₁ y₁).c l vs₁ r₁ _ _ e _ _ (p.pass y₁)
end
end Mine
end
section
open PySem PySem.W PyProof.Rows
set_option maxRecDepth 100000
set_option linter.unusedVariables false
namespace Mine
open SeqAt

noncomputable def ExcAt (X : Cx) (x : Str) : Prop := ∃ mg B nid initId Bn newId inN bm bmN, OwnClsQ x X.exc bm newId mg X.H₀ ∧ ExcBaseFacts Bn newId inN bmN ∧ bm.contains (.type Bn) = true ∧ ExcBaseFacts B nid initId bm

noncomputable def sFail : MS := fun _ _ => none
noncomputable def sRaise (r : ML) : MS := fun η σ => oB (r η σ) fun l σ => args l (fun a => asS a fun x => some (.exc x, η, σ)) no2 no3

section
variable {X : Cx} {k : Nat} {sc : Scope} {vis : List (Str × Nat)} {A : Around} {env cenv : Env} {Z : Addr → Prop} {ρ : List Addr} {σ : St} {η : Eta} {s : Shared}

theorem st_fail (st : Stmt) : SimS X k sc vis st sFail := by
  refine ⟨?_⟩
  intro A env Z ρ σ η s c o η' σ' e
  exact oN e
theorem st_raise {x : Str} {np cpos pos : Pos} {es : List Expr} {r : ML} (G : GName X x (.ref X.exc)) (O : ExcAt X x) (hr : SimL X k sc vis es r) (hk : sc.names.lookup x = some .globalImplicit := by decide +kernel)
    (hd : (x == ("__debug__" : Str)) = false := by decide +kernel) (hp : ∀ env, (backTo cpos (starEach es env)).any (·.1) = false := by intro _; rfl) : SimS X k sc vis (.Raise (some (.Call (.Name x np) es [] cpos)) none pos) (sRaise r) := by
  refine ⟨?_⟩
  intro A env Z ρ σ η s c o η' σ' e Q E p
  refine oB_inv e fun l σ₁ h1 e => ?_
  obtain ⟨mg, B, nid, initId, Bn, newId, inN, bm, bmN, O, Fn, hBn, FB⟩ := O
  obtain ⟨tl, N, nm, q, bs, hdct, sn, sub, ab, col, dd, k0, k1, k2, k3, k5, mN, hC, hN, hni, T⟩ := O.own.obj
  have hk' : env.kindOf x = some .globalImplicit := by unfold Env.kindOf; rw [c.sc]; exact hk
  refine wpAny_Raise_call_subU (C := X.exc) (nm := nm) (q := q) (N := N) (bs := bs) (bm := tl) (hdct := hdct) (sn := sn) (sub := sub) (ab := ab) (col := col) (dd := dd) (k0 := k0) (k1 := k1) (k2 := k2) (k3 := k3) (k5 := k5)
    Fn hBn FB (mN := mN) (T.hasType FB.hasBase) c.c.hnd (hp env) hni (wpAny_Name ?_ hd)
  rw [PyProof.Rows.loadName_read c.e.kind hk']
  refine G _ _ _ _ _ c.e.glob c.e.bltn c.c.inv.base ⟨rfl, evalArgs_any (hp env) (hr.run A env Z ρ σ η s cpos c _ _ h1 _ _ fun Z₁ ρ₁ vs₁ s₁ i₁ y₁ r₁ => ?_)⟩
  obtain ⟨y, t, hv, e⟩ := args1 (P := fun vs => ∃ y t, vs = [.str (toStr y) t] ∧ some (.exc y, η, σ₁) = some (o, η', σ')) e r₁ fun a v rv e => asS_inv (P := fun v => ∃ y t, [v] = [.str (toStr y) t] ∧ some (.exc y, η, σ₁) = some (o, η', σ')) e rv fun y t e => ⟨y, t, rfl, e⟩
  rw [hv]
  exact ⟨rfl, by show 1 ≤ sizeLine; rw [sizeLine_eq]; decide, i₁.base _ _ hC, hN.keeps i₁.base, T.keeps i₁.base, fun h' ex hm => p.of e _ _ _ t i₁ (y₁.weaken fun _ f => f.elim) (c.e.ext y₁) h' ex hm⟩

noncomputable def Stands (X : Cx) (A : Around) (s₀ : Shared) (Z : Addr → Prop) (ρ : List Addr) (base h : Heap) : Prop :=
  ∀ b o, h.get? b = some o → (Z b ∨ b ∈ ρ ∨ X.H₀.get? b ≠ none ∨ (s₀.heap.get? b ≠ none ∧ NoFrame A b)) → base.get? b = some o

theorem fly_turn {Z' ρ' σ' s'} (c : VC X k A Z ρ σ s) (i : Inv X Z' ρ' σ' s') (y : Ext T0 Z ρ s Z' ρ' s') {base h : Heap} (B : Stands X A s Z' ρ' base s'.heap) (st : base.StaysIn h) (up : s'.heap.UpToSlots h) {tk : Nat} :
    Inv X Z' ρ' σ' { s' with heap := h, toks := tk } ∧ Ext T0 Z ρ s Z' ρ' { s' with heap := h, toks := tk } ∧ Stands X A s Z' ρ' base h := by
  have kz : ∀ b o, Z' b → s'.heap.get? b = some o → h.get? b = some o := fun b o f e => st _ _ (B b o e (.inl f))
  have kr : ∀ b o, b ∈ ρ' → s'.heap.get? b = some o → h.get? b = some o := fun b o f e => st _ _ (B b o e (.inr (.inl f)))
  have kh : ∀ b o, X.H₀.get? b ≠ none → s'.heap.get? b = some o → h.get? b = some o := fun b o f e => st _ _ (B b o e (.inr (.inr (.inl f))))
  have kn : ∀ b o, s.heap.get? b ≠ none → NoFrame A b → s'.heap.get? b = some o → h.get? b = some o := fun b o f g e => st _ _ (B b o e (.inr (.inr (.inr ⟨f, g⟩))))
  obtain ⟨fs, hfs, fr⟩ := c.frs
  have frame : ∀ b, ¬ NoFrame A b → FCls s.heap b ∧ b ∉ ρ := fun b hb => by
    refine Classical.byContradiction fun no => hb fun fs' hfs' ev hev hL => no ?_
    rw [← Option.some.inj (hfs.symm.trans hfs')] at hev
    obtain ⟨_, L, hL', _, h2, _, hfc, _⟩ := fr.each ev hev
    rw [Option.some.inj (hL.symm.trans hL')]
    exact ⟨hfc, h2⟩
  have upF : ∀ b, FCls s'.heap b → ∃ o sl, s'.heap.get? b = some o ∧ o.cls = .type "frame" ∧ h.get? b = some { o with slots := sl } := fun b f => by
    obtain ⟨o, es, ep, e, hc, hd⟩ := f
    obtain ⟨sl, hs⟩ := up b o e (fun vs q => nomatch hd.symm.trans q)
    exact ⟨o, sl, e, hc, hs⟩
  refine ⟨⟨?_, ?_, i.len, i.nd, ?_, ?_⟩, ⟨?_, ?_, y.fmono, y.fnew, y.rho, y.rnew, ?_, ?_, y.gens, y.os, y.drawn⟩, ?_⟩
  · intro b o e
    exact kh b o (by rw [e]; exact fun q => nomatch q) (i.base b o e)
  · intro b f
    obtain ⟨o, e⟩ := i.fr b f
    exact ⟨o, kz b o f e⟩
  · intro b m
    obtain ⟨⟨o, e⟩, r⟩ := i.old b m
    exact ⟨⟨o, kr b o m e⟩, r⟩
  · intro n b d h1 h2
    exact (i.cells n b d h1 h2).mono (fun x o f e => kz x o f e) (fun _ f => f) List.prefix_rfl (fun o e => kr b o (List.mem_of_getElem? h1) e) id
  · intro b o e ht hr
    have ko := y.keep b o e ht hr
    obtain ⟨o', e'⟩ := ko.some
    by_cases hb : NoFrame A b
    · rw [e'] at ko
      refine ko.trans (.inl (kn b o' (by rw [e]; exact fun q => nomatch q) hb e'))
    · have hf := (frame b hb).1
      obtain ⟨o'', sl, e'', hc, hs⟩ := upF b (y.frm b hf)
      rw [e''] at ko
      exact ko.trans (.inr ⟨hc, sl, hs⟩)
  · intro b o f e
    exact kz b o (y.fmono b f) (y.fkeep b o f e)
  · intro b o e
    obtain ⟨o', e'⟩ := y.alive b o e
    by_cases hb : NoFrame A b
    · exact ⟨o', kn b o' (by rw [e]; exact fun q => nomatch q) hb e'⟩
    · obtain ⟨o'', sl, _, _, hs⟩ := upF b (y.frm b (frame b hb).1)
      exact ⟨_, hs⟩
  · intro b f
    obtain ⟨o, es, ep, e, hc, hd⟩ := y.frm b f
    obtain ⟨sl, hs⟩ := up b o e (fun vs q => nomatch hd.symm.trans q)
    exact ⟨_, es, ep, hs, hc, hd⟩
  · intro b o e hb
    have al : ∃ o', s'.heap.get? b = some o' := by
      rcases hb with f | m | hh | ⟨hs, _⟩
      · exact i.fr b f
      · exact (i.old b m).1
      · cases q : X.H₀.get? b with
        | none => exact absurd q hh
        | some o' => exact ⟨o', i.base b o' q⟩
      · cases q : s.heap.get? b with
        | none => exact absurd q hs
        | some o' => exact y.alive b o' q
    obtain ⟨o', e'⟩ := al
    have hb' := B b o' e' hb
    rw [Option.some.inj (e.symm.trans (st b o' hb'))]
    exact hb'

noncomputable def FlyPost (X : Cx) (A : Around) (Z : Addr → Prop) (ρ : List Addr) (s : Shared) (x : List Nat) (σ' : St) (E : Value → Shared → Prop) : Prop :=
  ∀ Z' ρ' s' fs base e t tk, A.frames = some fs → Inv X Z' ρ' σ' s' → Ext T0 Z ρ s Z' ρ' s' → Stands X A s Z' ρ' base s'.heap → Heap.FlyingW base fs e (.ref X.exc) (.ref t) s'.heap → s'.heap.TupAt t [.str (toStr x) tk] → base.get? t = none → E (.ref e) s'

noncomputable def OutL := List AV → St → Option (Out × St)
noncomputable def oRetX (x : Option (Out × Eta × St)) : Option (Out × St) := match x with
  | some (o, _, σ) => match o with
    | .ret a => some (.ret a, σ)
    | .next => some (.ret .none, σ)
    | .exc x => some (.exc x, σ)
  | none => none
noncomputable def oFunX (n N : Nat) (m : MS) : OutL := fun l σ => if l.length = n then oRetX (m (eta0 N l) σ) else none
noncomputable def OutPo (X : Cx) (A : Around) (Z : Addr → Prop) (ρ : List Addr) (s : Shared) (o : Out) (σ' : St) (Q : Value → Shared → Prop) (E : Value → Shared → Prop) : Prop := match o with
    | .ret av => Post X Z ρ s av σ' Q
    | .exc x => FlyPost X A Z ρ s x σ' E
    | .next => False
theorem oRetX_inv {x : Option (Out × Eta × St)} {o : Out} {σ' : St} {Q : Value → Shared → Prop} {E : Value → Shared → Prop} {P : Prop} (e : oRetX x = some (o, σ')) (p : OutPo X A Z ρ s o σ' Q E) (k : ∀ a η σ, x = some (.ret a, η, σ) → Post X Z ρ s a σ Q → P) (k' : ∀ η σ, x = some (.next, η, σ) → Post X Z ρ s .none σ Q → P)
    (k'' : ∀ y η σ, x = some (.exc y, η, σ) → FlyPost X A Z ρ s y σ E → P) : P := by
  cases x with
  | none => exact oN e
  | some w =>
    obtain ⟨o₁, η, σ⟩ := w
    cases o₁ with
    | next => exact k' η σ rfl (out2 (P := fun o σ' => OutPo X A Z ρ s o σ' Q E) (Option.some.inj e) p)
    | ret v => exact k v η σ rfl (out2 (P := fun o σ' => OutPo X A Z ρ s o σ' Q E) (Option.some.inj e) p)
    | exc x => exact k'' x η σ rfl (out2 (P := fun o σ' => OutPo X A Z ρ s o σ' Q E) (Option.some.inj e) p)

structure CallX (X : Cx) (k : Nat) (f : Value) (op : OutL) : Prop where
  run : ∀ A Z ρ σ s, VC X k A Z ρ σ s → ∀ l vs, VRels X ρ Z s.heap l vs → ∀ o σ', op l σ = some (o, σ') → ∀ Q E, OutPo X A Z ρ s o σ' Q E → wpAny (model X.prog X.w) A (call f vs) Q E s
theorem leave_ok {A : Around} {Z Z₂ : Addr → Prop} {ρ ρ₂ : List Addr} {σ σ₁ : St} {s s₂ : Shared} {cenv : Env} {ex : Addr} {x : List Nat} {t : Tok} {h' : Heap} {E : Value → Shared → Prop} (hfr : cenv.frame = some s.heap.objs.size) (c : VC X k A Z ρ σ s) (c₂ : VC X (k + 1) (A.deeper cenv) Z₂ ρ₂ σ₁ s₂)
    (y02 : Ext T0 Z ρ s Z₂ ρ₂ s₂) (p : FlyPost X A Z ρ s x σ₁ E) (hm : Heap.MadeExcOf s₂.heap h' ex (.ref X.exc) [.str (toStr x) t]) :
    wpAny (model X.prog X.w) (A.deeper cenv) (leaving cenv (.ref ex)) (fun _ s'' => E (.ref ex) s'') E { s₂ with heap := h' } := by
  obtain ⟨fs, hfs, fr₂⟩ := c₂.frs
  obtain ⟨fs0, hfs0, _⟩ := c.frs
  have hfs' : cenv :: fs0 = fs := by
    have : (A.deeper cenv).frames = some (cenv :: fs0) := by show A.frames.map _ = _; rw [hfs0]; rfl
    exact Option.some.inj (this.symm.trans hfs)
  subst hfs'
  have hin : ∀ b, b ∈ (cenv :: fs0).filterMap (·.frame) → FCls s₂.heap b ∧ ¬ Z₂ b ∧ b ∉ ρ₂ ∧ X.H₀.get? b = none := fun b hb => by
    obtain ⟨ev, hev, hL⟩ := List.mem_filterMap.mp hb
    obtain ⟨_, L, hL', g1, g2, g3, g4, _⟩ := fr₂.each ev hev
    rw [Option.some.inj (hL.symm.trans hL')]
    exact ⟨g4, g1, g2, g3⟩
  have ff : ∀ l : List Env, (∀ ev ∈ l, ev ∈ cenv :: fs0) → s₂.heap.FunFrames (hideAll s₂.heap ((cenv :: fs0).filterMap (·.frame))) l := by
    intro l
    induction l with
    | nil => intro _; trivial
    | cons ev l ih =>
      intro hl'
      have hev := hl' ev List.mem_cons_self
      obtain ⟨hkd, L, hL, _, _, _, ⟨oL, es, ep, eL, _, hdL⟩, _⟩ := fr₂.each ev hev
      exact ⟨hkd, ⟨L, oL, hL, hideAll_none _ (List.mem_filterMap.mpr ⟨ev, hev, hL⟩), eL, fun vs q => nomatch hdL.symm.trans q⟩, ih fun e he => hl' e (List.mem_cons_of_mem _ he)⟩
  refine wpAny_leaves_madeW (base := hideAll s₂.heap ((cenv :: fs0).filterMap (·.frame))) (h := s₂.heap) hfs hfr (fun b o q => of_hideAll _ q) (ff _ fun _ h => h) hm fun h'' t' hfl htup hnt hup => ?_
  have B0 : Stands X A s Z₂ ρ₂ (hideAll s₂.heap ((cenv :: fs0).filterMap (·.frame))) s₂.heap := fun b o e hb => by
    refine hideAll_get _ e fun hmem => ?_
    obtain ⟨g4, g1, g2, g3⟩ := hin b hmem
    rcases hb with f | f | f | ⟨f1, f2⟩
    · exact g1 f
    · exact g2 f
    · exact f g3
    · obtain ⟨ev, hev, hL⟩ := List.mem_filterMap.mp hmem
      rcases List.mem_cons.mp hev with q | hev
      · rw [q] at hL
        rw [Option.some.inj (hL.symm.trans hfr), none_size] at f1; exact f1 rfl
      · exact f2 _ hfs0 ev hev hL
  have up2 : s₂.heap.UpToSlots h'' := (Heap.UpToSlots.of_keeps hm.keeps).trans hup
  obtain ⟨i₃, y₃, B₃⟩ := fly_turn c c₂.inv y02 B0 hfl.1 up2 (tk := s₂.toks)
  exact p Z₂ ρ₂ _ fs0 _ ex t' t hfs0 i₃ y₃ B₃ hfl htup hnt

theorem c_funX {a : Addr} {fd : FuncData} {body : List Stmt} {ps : List Str} {N : Nat} {m : MS} (U : UOk X k) (F : FunAt X a fd body ps) (ok : funOk fd.scope vis ps N = true) (hB : SimB X (k + 1) fd.scope vis body m) :
    CallX X k (.ref a) (oFunX ps.length N m) := by
  refine ⟨?_⟩
  intro A Z ρ σ s c l vs r o σ' e Q E p
  refine ifN e fun hl e => ?_
  obtain ⟨ob, ho, hd⟩ := F.obj
  have hvl : vs.length = ps.length := by rw [← r.length]; exact hl
  have hroom : A.depth < recursionLimit := by have := c.dep; have := U.2; (first | lia | omega)
  refine wpAny_call (code_call hroom (c.inv.base _ _ ho) hd (F.lim.keeps c.inv.base) (F.code.keeps c.inv.base) F.body (F.bind vs hvl) F.clo (par_kind (funOk_is ok) hvl _) (fun s₁ I hfc => ?_) F.co F.gen F.kind)
  obtain ⟨ec, y₁, ht⟩ := frame_ok F ok c r hl I hfc
  refine oRetX_inv e p (fun av' η' σ₁ h1 p => ?_) (fun η' σ₁ h1 p => ?_) fun x η' σ₁ h1 p => ?_
  · refine hB.run _ _ Z ρ σ _ s₁ ec _ _ _ h1 _ _ fun Z₂ ρ₂ v₂ s₂ i₂ y₂ e₂ r₂ => ?_
    exact p _ _ _ _ i₂ ((y₁.weaken fun _ f => f.elim).trans y₂ |>.drop fun b t => .inr (ht b t)) r₂
  · refine hB.run _ _ Z ρ σ _ s₁ ec _ _ _ h1 _ _ fun Z₂ ρ₂ s₂ i₂ y₂ e₂ => ?_
    exact p _ _ _ _ i₂ ((y₁.weaken fun _ f => f.elim).trans y₂ |>.drop fun b t => .inr (ht b t)) vrel_none
  · refine hB.run _ _ Z ρ σ _ s₁ ec _ _ _ h1 _ _ fun Z₂ ρ₂ s₂ t i₂ y₂ e₂ h' ex hm => ?_
    exact leave_ok rfl c (ec.own i₂ y₂ e₂).c ((y₁.weaken fun _ f => f.elim).trans y₂ |>.drop fun b t => .inr (ht b t)) p hm
end
end Mine
end
section
open PySem PySem.W PyProof.Rows
set_option maxRecDepth 100000
set_option linter.unusedVariables false
namespace Mine
open SeqAt

section
open PySem.Builtin PySem.Builtin.Str PySem.Builtin.BaseException PySem.Builtin.Exceptions
variable {prog : Program} {w : World} {A : Around} {E : Value → Shared → Prop} {s : Shared} {e t0 C : Addr} {K : Frag}

noncomputable def OwnExc (h : Heap) (e C t0 : Addr) : Prop := ∃ o vs, h.get? e = some o ∧ o.cls = .ref C ∧ o.data = .fields vs ∧ vs[0]? = some (.ref t0)

theorem own_args {M : Model} {items : List Value} {Q : Value × List Value → Shared → Prop} (x : OwnExc s.heap e C t0) (ht : s.heap.TupAt t0 items) (hq : Q (.ref t0, items) s) : wpAny M A (bexcArgs (.ref e)) Q E s := by
  obtain ⟨o, vs, ho, _, hd, h0⟩ := x
  obtain ⟨ot, k, hto, _, htd⟩ := ht
  unfold bexcArgs
  refine wpAny_bind (wpAny_field ho hd h0 (wpAny_bind (wpAny_seqItems hto htd ?_)))
  have : items.toArray.toList = items := by simp
  show wpAny M A (pure (Value.ref t0, items.toArray.toList)) Q E s
  rw [this]; exact wpAny_pure hq

theorem own_entry {m : PySem.Str} {tk : Tok} {Q : Fin → Shared → Prop} (x : OwnExc s.heap e C t0) (ht : s.heap.TupAt t0 [.str m tk]) (hq : Q (.done (.ret (.str m tk))) s) :
    wpAny (model prog w) A (Builtin.«BaseException.__str__» ⟨[.ref e], []⟩) Q E s := by
  unfold Builtin.«BaseException.__str__»
  repeat (first | with_reducible refine own_args x ht ?_ | wp_step)
  exact hq

theorem own_type {M : Model} {h : Heap} (x : OwnExc h e C t0) : Looks M h (typeOf (.ref e)) (.ref C) := by
  obtain ⟨o, vs, ho, hc, _⟩ := x
  exact hc ▸ (Looks.ld ho).andThen .now

theorem own_call {m : PySem.Str} {tk : Tok} {Q : Value → Shared → Prop} (X : K.In s.heap) (hm : mroIn K C (.type "BaseException") = some true) (x : OwnExc s.heap e C t0) (ht : s.heap.TupAt t0 [.str m tk]) (hq : Q (.str m tk) s) :
    wpAny (model prog w) A (call (.builtin "BaseException.__str__") [.ref e]) Q E s := by
  refine wpAny_call (codeAny_call_builtin (by decide +kernel) PySem.F.entry_bexc_str (check_slot (i := "BaseException.__str__") (owner := "BaseException") (n := "__str__") (by decide +kernel) (by decide +kernel) ((own_type x).andThen (looks_mroIn X hm)) (PySem.F.args_bexc_str _) ?_))
  exact own_entry x ht hq

theorem own_special {m : PySem.Str} {tk : Tok} {Q : Option Value → Shared → Prop} (X : K.In s.heap) (hs : findIn K (.ref C) "__str__" = some (some (.builtin "BaseException.__str__"))) (hm : mroIn K C (.type "BaseException") = some true)
    (hb : ∀ self, bindSpecial (.builtin "BaseException.__str__") self = pure (.builtin "BaseException.__str__", [self]))
    (x : OwnExc s.heap e C t0) (ht : s.heap.TupAt t0 [.str m tk]) (hq : Q (some (.str m tk)) s) : wpAny (model prog w) A (callSpecial? (.ref e) "__str__" []) Q E s :=
  wpAny_bind (wpAny_bind ((own_type x).here ((looks_findIn X hs).here (wpAny_holding (wpAny_bind ((Looks.of_pure (hb _)).here (wpAny_bind (own_call X hm x ht (wpAny_pure hq)))))))))

theorem own_strOf {m : PySem.Str} {tk : Tok} {Q : Value → Shared → Prop} (hu : A.units < cLine) (X : K.In s.heap) (hs : findIn K (.ref C) "__str__" = some (some (.builtin "BaseException.__str__"))) (hm : mroIn K C (.type "BaseException") = some true)
    (hb : ∀ self, bindSpecial (.builtin "BaseException.__str__") self = pure (.builtin "BaseException.__str__", [self]))
    (x : OwnExc s.heap e C t0) (ht : s.heap.TupAt t0 [.str m tk]) (hq : Q (.str m tk) s) : wpAny (model prog w) A (PySem.Builtin.Str.strOf (.ref e)) Q E s := by
  unfold PySem.Builtin.Str.strOf
  repeat (first | with_reducible refine wpAny_cRoomFor hu ?_ | with_reducible refine own_special X hs hm hb x ht ?_ | wp_step)
  exact hq

theorem own_str {m : PySem.Str} {tk : Tok} {Q : Value → Shared → Prop} (hu : A.units + 2 < cLine) (X : K.In s.heap) (hs : findIn K (.ref C) "__str__" = some (some (.builtin "BaseException.__str__"))) (hm : mroIn K C (.type "BaseException") = some true)
    (hb : ∀ self, bindSpecial (.builtin "BaseException.__str__") self = pure (.builtin "BaseException.__str__", [self]))
    (x : OwnExc s.heap e C t0) (ht : s.heap.TupAt t0 [.str m tk]) (h : Q (.str m tk) s) : wpAny (model prog w) A (call (.type "str") [.ref e]) Q E s :=
  callType_new PySem.F.called_str (by decide) (PySem.F.typeCall_str_1 _) (PySem.F.newCall_str_1 _) (fun obj => PySem.F.args_object_init_2 obj _) PySem.F.entry_str_new
    (meets_str_new (S := fun A' R s' => A'.units + 1 < cLine ∧ K.In s'.heap ∧ OwnExc s'.heap e C t0 ∧ s'.heap.TupAt t0 [.str m tk] ∧ R (.ok (.ret (.str m tk))) s')
      fun _ _ A' _ _ hq => own_strOf (A := A'.in1) hq.1 hq.2.1 hs hm hb hq.2.2.1 hq.2.2.2.1 hq.2.2.2.2)
    ⟨(show A.units + 1 + 1 < cLine from hu), X, x, ht, typeIs_str _ _ _, h⟩
end

theorem bind_bexc (self : Value) : bindSpecial (.builtin "BaseException.__str__") self = pure (.builtin "BaseException.__str__", [self]) :=
  (Slot.of (T := "BaseException") (name := "__str__") (owner := "BaseException") (n := "__str__") (by rw [typeLookup_type, builtinLookup_eq_fast]; kernel_rfl) (by decide +kernel) (by decide +kernel) (by decide +kernel)
    (.inl (by decide +kernel)) (by rw [isSubtype_type]; kernel_rfl)).bind self

theorem nsDelC {M : Model} {A : Around} {E : Value → Shared → Prop} {s : Shared} {a : Addr} {m : Str → Option Value} {name : Str} {Q : Bool → Shared → Prop} (hn : s.heap.Ns a m)
    (h : ∀ h' v, h'.Ns a (fun x => if x = name then v else m x) → Heap.SameBut a s.heap h' → (FCls s.heap a → FCls h' a) → Q (m name).isSome { s with heap := h' }) : wpAny M A (nsDel a name) Q E s := by
  have big := wpAny_nsDel_keeps (M := M) (A := A) (E := E) (s := s) (a := a) (m := m) (name := name) (Q := fun b s' => (∃ v, s'.heap.Ns a (fun x => if x = name then v else m x)) ∧ Heap.SameBut a s.heap s'.heap ∧ b = (m name).isSome ∧ s' = { s with heap := s'.heap }) hn
    fun h' v x y => ⟨⟨v, x⟩, y, rfl, rfl⟩
  obtain ⟨o, es, ep, ho, hd, hk, hm⟩ := id hn
  intro Γ p hp
  have h1 := big Γ p hp
  have hany : es.any (·.refKey) = false := by
    rw [Array.any_eq_false']
    intro e he
    obtain ⟨n, t, h⟩ := hk e he
    simp [DictEntry.refKey, h]
  have hhas : nsHas name o = pure (es.any (·.key.isStr name)) := by
    rw [nsHas_eq]; unfold nsHasByArray; rw [hd]
    show (if (es.any fun x => x.key.isStr name) = true then _ else _) = _
    generalize (es.any fun x => x.key.isStr name) = b
    cases b <;> simp [hany]
  simp only [nsDel, Sem.wp_bind'] at h1 ⊢
  rw [Sem.wp_loadPart_of M Γ _ p s (o := o) _ ho] at h1 ⊢
  rw [hhas] at h1 ⊢
  simp only [Sem.wp_pure'] at h1 ⊢
  cases hb : es.any (·.key.isStr name) with
  | false =>
    rw [hb] at h1
    simp only [Bool.false_eq_true, if_false, Sem.wp_pure'] at h1 ⊢
    obtain ⟨⟨v, h3⟩, h4, h5, _⟩ := h1
    rw [h5]
    exact h _ v h3 h4 id
  | true =>
    rw [hb] at h1
    simp only [if_true, Sem.wp_bind', Sem.wp_cmd_updatePart, Sem.wp_pure'] at h1 ⊢
    obtain ⟨h2, ⟨v, h3⟩, h4, h5, _⟩ := h1
    refine ⟨h2, ?_⟩
    rw [h5]
    refine h _ v h3 h4 fun f => ?_
    obtain ⟨o', es', ep', e', hc, hd'⟩ := f
    rw [ho] at e'; cases e'
    obtain ⟨c, d, dt, sl⟩ := o
    subst hd
    cases hi : es.findIdx? (·.key.isStr name) with
    | some i => exact ⟨_, _, _, Heap.get?_update_self _ ho (by simp only [Obj.dropName_eq, Obj.dropNameByArray, hi] <;> rfl), by simp only [Obj.dropName_eq, Obj.dropNameByArray, hi] <;> exact hc, by simp only [Obj.dropName_eq, Obj.dropNameByArray, hi] <;> rfl⟩
    | none => exact ⟨_, _, _, Heap.get?_update_self _ ho (by simp only [Obj.dropName_eq, Obj.dropNameByArray, hi] <;> rfl), by simp only [Obj.dropName_eq, Obj.dropNameByArray, hi] <;> exact hc, by simp only [Obj.dropName_eq, Obj.dropNameByArray, hi] <;> rfl⟩
theorem unbindC {M : Model} {A : Around} {E : Value → Shared → Prop} {s : Shared} {env : Env} {n : Str} {m : Str → Option Value} {v : Value} {Q : Unit → Shared → Prop} (hl : env.kindOf n = some .local) (hn : s.heap.Ns env.locals m) (hv : m n = some v)
    (hp : (env.scope.kind == .class || (env.scope.kind == .module && env.locals != env.globals)) = false)
    (h : ∀ h' u, h'.Ns env.locals (fun x => if x = n then u else m x) → Heap.SameBut env.locals s.heap h' → (FCls s.heap env.locals → FCls h' env.locals) → Q () { s with heap := h' }) :
    wpAny M A (unbindName env n) Q E s := by
  unfold unbindName
  refine wpAny_bind (wpAny_point (wpAny_bind ?_))
  unfold deleteName
  simp only [hl, hp]
  rw [if_neg (by decide)]
  refine wpAny_bind (nsDelC hn fun h₂ u hn₂ hs₂ hf => ?_)
  simp only [hv, Option.isSome_some, Bool.not_true, Bool.false_eq_true, if_false]
  exact wpAny_pure (wpAny_point (h h₂ u hn₂ hs₂ hf))
end Mine
end
section
open PySem PySem.W PyProof.Rows
set_option maxRecDepth 100000
set_option linter.unusedVariables false
namespace Mine
open SeqAt

structure KAt (X : Cx) (K : Frag) : Prop where
  inn : K.In X.H₀
  str : findIn K (.ref X.exc) "__str__" = some (some (.builtin "BaseException.__str__"))
  mro : mroIn K X.exc (.type "BaseException") = some true

section
variable {X : Cx} {k : Nat} {sc : Scope} {vis : List (Str × Nat)} {A : Around} {env cenv : Env} {Z : Addr → Prop} {ρ : List Addr} {σ : St} {η : Eta} {s : Shared}

theorem EnvRel.hidden (e : EnvRel X Z ρ s.heap env vis η) {n : Str} (hv : vis.lookup n = none) {m : Str → Option Value} {w : Option Value} {h' : Heap}
    (hm : ∀ x i av, vis.lookup x = some i → env.kindOf x = some .local → η[i]? = some av → (av = .unbound ∨ ∃ v, m x = some v ∧ VRel X ρ Z s.heap av v))
    (hn : h'.Ns env.locals (fun y => if y = n then w else m y)) (hs : Heap.SameBut env.locals s.heap h') : EnvRel X Z ρ h' env vis η := by
  have kz : Kept Z s.heap h' := fun b o f q => (hs.2 b (fun z => e.own.1 (z ▸ f))).trans q
  have mv : ∀ {a : AV} {w : Value}, VRel X ρ Z s.heap a w → VRel X ρ Z h' a w := fun r => r.mono kz (fun _ f => f) List.prefix_rfl
  refine ⟨e.kind, e.glob, e.bltn, ⟨_, hn, fun x i av h1 h2 h3 => ?_⟩, fun x i h1 h2 => ?_, e.own, fun y c hc => ?_, e.apart⟩
  · have hx : x ≠ n := fun q => by rw [q, hv] at h1; exact nomatch h1
    exact (hm x i av h1 h2 h3).imp id fun h => h.imp fun v z => ⟨(if_neg hx).trans z.1, mv z.2⟩
  · obtain ⟨c, w, hc, hw, hcv⟩ := e.cel x i h1 h2
    exact ⟨c, w, hc, hw.sameBut hs (e.ownc x c (mem_of_lookup hc)).2.2.2.1, fun a h3 => (hcv a h3).imp id fun h => h.imp fun v z => ⟨z.1, mv z.2⟩⟩
  · obtain ⟨a1, a2, a3, a4, w, a5⟩ := e.ownc y c hc
    exact ⟨a1, a2, a3, a4, w, a5.sameBut hs a4⟩

structure InH (X : Cx) (k : Nat) (vis : List (Str × Nat)) (A : Around) (env : Env) (n : Str) (Z₀ : Addr → Prop) (ρ₀ : List Addr) (s₀ : Shared) (η : Eta) (σ' : St) (w : Option Value) (Z : Addr → Prop) (ρ : List Addr) (s : Shared) : Prop where
  i : Inv X Z ρ σ' s
  y : Ext (Tur vis env) Z₀ ρ₀ s₀ Z ρ s
  e : EnvRel X Z ρ s.heap env vis η
  ns : ∃ m, s.heap.Ns env.locals m ∧ m n = w ∧ ∀ x i av, vis.lookup x = some i → env.kindOf x = some .local → η[i]? = some av → (av = .unbound ∨ ∃ v, m x = some v ∧ VRel X ρ Z s.heap av v)

theorem InH.of (i : Inv X Z ρ σ s) {Z₀ ρ₀ s₀} (y : Ext (Tur vis env) Z₀ ρ₀ s₀ Z ρ s) (e : EnvRel X Z ρ s.heap env vis η) {n : Str} : ∃ w, InH X k vis A env n Z₀ ρ₀ s₀ η σ w Z ρ s := by
  obtain ⟨m, hn, hm⟩ := e.ns
  exact ⟨m n, i, y, e, m, hn, rfl, hm⟩

theorem InH.store {n : Str} {Z₀ ρ₀ s₀ w} (H : InH X k vis A env n Z₀ ρ₀ s₀ η σ w Z ρ s) (hv : vis.lookup n = none) (hk : env.kindOf n = some .local) {B : Around} {v : Value} {Q : Unit → Shared → Prop} {E}
    (h : ∀ h' tk, InH X k vis A env n Z₀ ρ₀ s₀ η σ (some v) Z ρ { s with heap := h', toks := tk } → Heap.SameBut env.locals s.heap h' → Q () { s with heap := h', toks := tk }) : wpAny (model X.prog X.w) B (storeName env n v) Q E s := by
  obtain ⟨m, hn, _, hm⟩ := H.ns
  refine storeName_localC hk hn (fun h' hn' hs hfc => ?_) (by rw [H.e.kind]; rfl)
  have al : s.heap.get? env.locals ≠ none → h'.get? env.locals ≠ none := fun _ => ns_there hn'
  have kz : Kept Z s.heap h' := fun b o f q => (hs.2 b (fun z => H.e.own.1 (z ▸ f))).trans q
  refine h _ _ ⟨H.i.turn hs (locals_free H.e) al, H.y.trans (Ext.turn hs (locals_free H.e) al (.inl rfl) hfc), H.e.hidden hv hm hn' hs, _, hn', if_pos rfl, fun x i av h1 h2 h3 => ?_⟩ hs
  have hx : x ≠ n := fun q => by rw [q, hv] at h1; exact nomatch h1
  exact (hm x i av h1 h2 h3).imp id fun h => h.imp fun v z => ⟨(if_neg hx).trans z.1, z.2.mono kz (fun _ f => f) List.prefix_rfl⟩

theorem InH.drop {n : Str} {Z₀ ρ₀ s₀ v} (H : InH X k vis A env n Z₀ ρ₀ s₀ η σ (some v) Z ρ s) (hv : vis.lookup n = none) (hk : env.kindOf n = some .local) {B : Around} {Q : Unit → Shared → Prop} {E}
    (h : ∀ h' w, InH X k vis A env n Z₀ ρ₀ s₀ η σ w Z ρ { s with heap := h' } → Heap.SameBut env.locals s.heap h' → Q () { s with heap := h' }) : wpAny (model X.prog X.w) B (unbindName env n) Q E s := by
  obtain ⟨m, hn, hmn, hm⟩ := H.ns
  refine unbindC hk hn hmn (by rw [H.e.kind]; rfl) (fun h' u hn' hs hfc => ?_)
  have al : s.heap.get? env.locals ≠ none → h'.get? env.locals ≠ none := fun _ => ns_there hn'
  have kz : Kept Z s.heap h' := fun b o f q => (hs.2 b (fun z => H.e.own.1 (z ▸ f))).trans q
  refine h _ u ⟨H.i.turn (tk := s.toks) hs (locals_free H.e) al, H.y.trans (Ext.turn (tk := s.toks) hs (locals_free H.e) al (.inl rfl) hfc), H.e.hidden hv hm hn' hs, _, hn', if_pos rfl, fun x i av h1 h2 h3 => ?_⟩ hs
  have hx : x ≠ n := fun q => by rw [q, hv] at h1; exact nomatch h1
  exact (hm x i av h1 h2 h3).imp id fun h => h.imp fun v z => ⟨(if_neg hx).trans z.1, z.2.mono kz (fun _ f => f) List.prefix_rfl⟩

noncomputable def oTry (x : Option (Out × St)) (η : Eta) : Option (Out × Eta × St) := match x with
  | some (o, σ) => match o with
    | .ret a => some (.ret a, η, σ)
    | .exc x => some (.ret (.tup [.str x]), η, σ)
    | .next => none
  | none => none
theorem oTry_inv {x : Option (Out × St)} {η : Eta} {r : Out × Eta × St} {P : Prop} (e : oTry x η = some r) (k : ∀ a σ, x = some (.ret a, σ) → some (.ret a, η, σ) = some r → P) (k' : ∀ y σ, x = some (.exc y, σ) → some (.ret (.tup [.str y]), η, σ) = some r → P) : P := by
  cases x with
  | none => exact oN e
  | some w =>
    obtain ⟨o, σ⟩ := w
    cases o with
    | ret v => exact k v σ rfl e
    | exc y => exact k' y σ rfl e
    | next => exact oN e
noncomputable def sTry (r : ML) (op : OutL) : MS := fun η σ => oB (r η σ) fun l σ => oTry (op l σ) η

theorem try_call {f : Str} {fp cpos rpos : Pos} {es : List Expr} {a : Addr} {fd : FuncData} {r : ML} {op : OutL} (G : GName X f (.ref a)) (hf : ∃ o, X.H₀.get? a = some o ∧ o.data = .func fd) (ok : CallX X k (.ref a) op) (hr : SimL X k sc vis es r)
    (hkf : sc.names.lookup f = some .globalImplicit) (hdf : (f == ("__debug__" : Str)) = false) (hpl : ∀ env, (backTo cpos (starEach es env)).any (·.1) = false)
    (c : EC X k sc vis A env Z ρ σ η s) {l : List AV} {σ₁ : St} (h1 : r η σ = some (l, σ₁)) {Q' : Flow → Shared → Prop} {E' : Value → Shared → Prop} {o : Out} {σ₂ : St} (ho' : op l σ₁ = some (o, σ₂))
    (hpost : ∀ Z₁ ρ₁ s₁, Inv X Z₁ ρ₁ σ₁ s₁ → Ext T0 Z ρ s Z₁ ρ₁ s₁ → OutPo X A Z₁ ρ₁ s₁ o σ₂ (fun v s' => Q' (.ret v) s') E') : wpAny (model X.prog X.w) A (exec (.Return (some (.Call (.Name f fp) es [] cpos)) rpos) env) Q' E' s := by
  obtain ⟨ob, ho, hd⟩ := hf
  have kf : env.kindOf f = some .globalImplicit := by unfold Env.kindOf; rw [c.sc]; exact hkf
  refine wpAny_Return_some (wpAny_Call_NameR (wpAny_Name ?_ hdf))
  rw [PyProof.Rows.loadName_read c.e.kind kf]
  refine G _ _ _ _ _ c.e.glob c.e.bltn c.c.inv.base ?_
  refine PySem.Calls.callWith_function (o := ob) (fd := fd) (evalArgs_any (hpl env) (hr.run A env Z ρ σ η s cpos c _ _ h1 _ _ fun Z₁ ρ₁ vs₁ s₁ i₁ y₁ r₁ => ⟨⟨i₁.base _ _ ho, hd⟩, ?_⟩))
  exact ok.run A Z₁ ρ₁ σ₁ s₁ (c.next i₁ y₁).c l vs₁ r₁ o σ₂ ho' _ _ (hpost Z₁ ρ₁ s₁ i₁ y₁)

theorem handler_ret {K : Frag} (U : UOk X k) (KA : KAt X K) {n : Str} {spn npn scp tp rp : Pos} {kd : Nat} (GS : GName X "str" (.type "str")) (hks : sc.names.lookup ("str" : Str) = some .globalImplicit) (hkn : sc.names.lookup n = some .local) (hdn : (n == ("__debug__" : Str)) = false)
    {Z₀ : Addr → Prop} {ρ₀ : List Addr} {s₀ : Shared} {ex t : Addr} {xx : List Nat} {tk : Tok} (hu : A.units + 2 < cLine) (hsc : env.scope = sc) (H : InH X k vis A env n Z₀ ρ₀ s₀ η σ (some (.ref ex)) Z ρ s) (he : OwnExc s.heap ex X.exc t) (ht : s.heap.TupAt t [.str (toStr xx) tk])
    {B : Around} (hB : B.units = A.units) {Q : Flow → Shared → Prop} {E : Value → Shared → Prop} (h : ∀ Z' ρ' s' v w, InH X k vis A env n Z₀ ρ₀ s₀ η σ w Z' ρ' s' → VRel X ρ' Z' s'.heap (.tup [.str xx]) v → Q (.ret v) s') :
    wpAny (model X.prog X.w) B (exec (.Return (some (.Tuple [.Call (.Name "str" spn) [.Name n npn] [] scp] kd tp)) rp) env) Q E s := by
  have ks : env.kindOf ("str" : Str) = some .globalImplicit := by unfold Env.kindOf; rw [hsc]; exact hks
  have kn : env.kindOf n = some .local := by unfold Env.kindOf; rw [hsc]; exact hkn
  obtain ⟨m, hn, hmn, _⟩ := H.ns
  refine wpAny_Return_some (wpAny_Tuple (wpAny_items_cons (wpAny_Call_NameR (wpAny_Name ?_ (by decide +kernel))) (by rfl)))
  rw [PyProof.Rows.loadName_read H.e.kind ks]
  refine GS _ _ _ _ _ H.e.glob H.e.bltn H.i.base ?_
  refine callWith_machine (fun _ q => nomatch q) rfl (wpAny_items_cons (wpAny_Name (wpAny_loadName_local H.e.kind kn hn hmn (wpAny_items_nil ?_)) hdn) (by rfl))
  refine own_str (t0 := t) (by rw [hB]; exact hu) (KA.inn.keeps H.i.base) KA.str KA.mro bind_bexc he ht ?_
  refine wpAny_items_nil ⟨by show 1 ≤ sizeLine; rw [sizeLine_eq]; decide, ?_⟩
  have p : Post X Z ρ s (.tup [.str xx]) σ (fun v s' => Q (.ret v) s') := fun Z' ρ' v s' i y r =>
    (InH.of (A := A) (k := k) i (H.y.trans (y.weaken fun _ f => f.elim)) (H.e.ext y) (n := n)).elim fun w H' => h Z' ρ' s' v w H' r
  exact p.newTup H.i (VRels.cons (vrel_str ..) (VRels.nil_iff.mpr rfl)) (tk := s.toks)

theorem exc_kept {n : Str} {Z₀ : Addr → Prop} {ρ₀ : List Addr} {s₀ : Shared} {w : Option Value} {ex t : Addr} {xx : List Nat} {tk : Tok} {base : Heap} {fs : List Env} {h₇ : Heap} (H : InH X k vis A env n Z₀ ρ₀ s₀ η σ w Z ρ s) (hfl : Heap.FlyingW base fs ex (.ref X.exc) (.ref t) s.heap)
    (htup : s.heap.TupAt t [.str (toStr xx) tk]) (hs : Heap.SameBut env.locals s.heap h₇) : OwnExc h₇ ex X.exc t ∧ h₇.TupAt t [.str (toStr xx) tk] := by
  obtain ⟨oe, vs, T, oT, ts, hoe, ⟨hcls, hv0⟩, hdat, _⟩ := hfl.2.2.2
  obtain ⟨ot, nt, hot, hotc, hotd⟩ := htup
  have nsL : ∀ b o, s.heap.get? b = some o → (∀ es ep, o.data ≠ .dict es ep) → b ≠ env.locals := fun b o e hd q => by
    obtain ⟨m, ⟨o', es, ep, e', hd', _⟩, _⟩ := H.ns
    rw [← q] at e'
    exact hd _ _ (Option.some.inj (e'.symm.trans e) ▸ hd')
  exact ⟨⟨oe, vs, (hs.2 _ (nsL _ _ hoe fun es ep q => nomatch hdat.symm.trans q)).trans hoe, hcls, hdat, hv0⟩, ⟨ot, nt, (hs.2 _ (nsL _ _ hot fun es ep q => nomatch hotd.symm.trans q)).trans hot, hotc, hotd⟩⟩
theorem st_tryRet {K : Frag} (U : UOk X k) (KA : KAt X K) {f x n : Str} {fp cpos rpos np spn npn scp tp rp hp pos : Pos} {es : List Expr} {kd : Nat} {a : Addr} {fd : FuncData} {r : ML} {op : OutL} (G : GName X f (.ref a)) (hf : ∃ o, X.H₀.get? a = some o ∧ o.data = .func fd) (ok : CallX X k (.ref a) op) (hr : SimL X k sc vis es r)
    (GX : GName X x (.ref X.exc)) (O : ExcAt X x) (GS : GName X "str" (.type "str"))
    (hkf : sc.names.lookup f = some .globalImplicit := by decide +kernel) (hkx : sc.names.lookup x = some .globalImplicit := by decide +kernel) (hks : sc.names.lookup ("str" : Str) = some .globalImplicit := by decide +kernel)
    (hkn : sc.names.lookup n = some .local := by decide +kernel) (hvn : vis.lookup n = none := by decide +kernel) (hdot : sc.names.lookup (".0" : Str) = none := by decide +kernel)
    (hdf : (f == ("__debug__" : Str)) = false := by decide +kernel) (hdx : (x == ("__debug__" : Str)) = false := by decide +kernel) (hdn : (n == ("__debug__" : Str)) = false := by decide +kernel)
    (hpl : ∀ env, (backTo cpos (starEach es env)).any (·.1) = false := by intro _; rfl) :
    SimS X k sc vis (.Try [.Return (some (.Call (.Name f fp) es [] cpos)) rpos] [.ExceptHandler (some (.Name x np)) (some n) [.Return (some (.Tuple [.Call (.Name "str" spn) [.Name n npn] [] scp] kd tp)) rp] hp] [] [] pos) (sTry r op) := by
  refine ⟨?_⟩
  intro A env Z ρ σ η s c o η' σ' e Q E p
  refine oB_inv e fun l σ₁ h1 e => ?_
  refine wpAny_Try_except (wpAny_execs_cons ?_)
  refine oTry_inv e (fun av σ₂ h2 e => ?_) fun xx σ₂ h2 e => ?_
  · refine try_call G hf ok hr hkf hdf hpl c h1 h2 fun Z₁ ρ₁ s₁ i₁ y₁ => ?_
    intro Z₂ ρ₂ v₂ s₂ i₂ y₂ r₂
    exact p.of e _ _ _ _ i₂ ((y₁.trans y₂).weaken fun _ f => f.elim) (c.e.ext (y₁.trans y₂)) r₂
  · replace p := p.of e
    have kx : env.kindOf x = some .globalImplicit := by unfold Env.kindOf; rw [c.sc]; exact hkx
    have kn : env.kindOf n = some .local := by unfold Env.kindOf; rw [c.sc]; exact hkn
    have hu : A.units + 2 < cLine := by have := c.c.uni; have := U.1; (first | lia | omega)
    refine try_call G hf ok hr hkf hdf hpl c h1 h2 fun Z₁ ρ₁ s₁ i₁ y₁ => ?_
    intro Z₂ ρ₂ s₂ fs base ex t tk hfs i₂ y₂ B₂ hfl htup hnt
    have c₁ := c.next i₁ y₁
    obtain ⟨outer, hfr⟩ := c.top (by rw [c.sc]; exact hdot)
    have hfs := Option.some.inj (hfr.symm.trans hfs)
    subst hfs
    obtain ⟨fs', hfs', fr'⟩ := c.c.frs
    obtain ⟨_, L, hL, _⟩ := fr'.each env (Option.some.inj (hfr.symm.trans hfs') ▸ List.mem_cons_self)
    refine wpAny_looks_onW hfr hL hfl fun h₄ hheld₄ hsm₄ => ?_
    obtain ⟨i₄, y₄, B₄⟩ := fly_turn c₁.c i₂ y₂ B₂ hheld₄.1 hsm₄ (tk := s₂.toks)
    refine wpAny_landsW hheld₄ fun h₅ hfl₅ hsm₅ => ?_
    obtain ⟨i₅, y₅, B₅⟩ := fly_turn c₁.c i₄ y₄ B₄ hfl₅.1 hsm₅ (tk := s₂.toks)
    obtain ⟨mg, B, nid, initId, Bn, newId, inN, bm, bmN, O, Fn, hBn, FB⟩ := O
    refine handleBy_own_as (C := X.exc) (mg := mg) (x := x) (newId := newId) FB.hasBase (wpAny_Name ?_ hdx)
    rw [PyProof.Rows.loadName_read c.e.kind kx]
    obtain ⟨oe5, hoe5, hoc5⟩ := hfl₅.there
    refine GX _ _ _ _ _ c.e.glob c.e.bltn i₅.base ⟨rfl, O.keeps i₅.base, ⟨oe5, hoe5, hoc5⟩, ?_⟩
    refine lands_againW hfl₅ fun h₆ hfl₆ hsm₆ => ?_
    obtain ⟨i₆, y₆, B₆⟩ := fly_turn c₁.c i₅ y₅ B₅ hfl₆.1 hsm₆ (tk := s₂.toks)
    have htup₆ := ((htup.of_slots hsm₄).of_slots hsm₅).of_slots hsm₆
    have y06 := y₁.trans y₆
    obtain ⟨w₀, H₆⟩ := InH.of (A := A) (k := k) i₆ (y06.weaken (T' := Tur vis env) fun _ f => f.elim) (c.e.ext y06) (n := n)
    refine H₆.store hvn kn fun h₇ tk₇ H₇ hs₇ => ?_
    obtain ⟨he₇, ht₇⟩ := exc_kept H₆ hfl₆ htup₆ hs₇
    refine wpAny_execs_cons (handler_ret (A := A) (B := A.mark (some (.ref ex))) U KA GS hks hkn hdn hu c.sc H₇ he₇ ht₇ rfl fun Z' ρ' s' v w H₈ r₈ => ?_)
    refine wpAny_bind (wpAny_bindName (H₈.store hvn kn fun h₉ tk₉ H₉ hs₉ => ?_))
    unfold unbindBehindTheSuite
    refine wpAny_onRaise (H₉.drop hvn kn fun h₀ w₀ H₀ hs₀ => ?_)
    have hk : ∀ a, Z' a → a ≠ env.locals := fun a f q => H₈.e.own.1 (q ▸ f)
    exact p _ _ _ _ H₀.i H₀.y H₀.e (r₈.mono (fun a o f e => (hs₀.2 a (hk a f)).trans ((hs₉.2 a (hk a f)).trans e)) (fun _ f => f) List.prefix_rfl)
end
end Mine
end
section
open PySem PySem.W PyProof.Rows
set_option maxRecDepth 100000
set_option linter.unusedVariables false
namespace Mine
open SeqAt

noncomputable def joinT (sep : List Nat) : List (List Nat) → List Nat
  | [] => []
  | [x] => x
  | x :: r => x ++ sep ++ joinT sep r
noncomputable def strsOf : List AV → Option (List (List Nat))
  | [] => some []
  | a :: r => asS a fun x => o1 (strsOf r) fun l => some (x :: l)
theorem join_eq (sep : List Nat) (ts : List (List Nat)) : Txt.join (toStr sep) (ts.map toStr) = toStr (joinT sep ts) := by
  unfold Txt.join Builtin.Str.glued
  have key : ∀ (r : List (List Nat)) (acc : Array Nat), (r.map toStr).foldl (fun acc p => acc ++ (toStr sep).cps ++ p.cps) acc = acc ++ ((r.map fun x => sep ++ x).flatten).toArray := by
    intro r
    induction r with
    | nil => intro acc; simp
    | cons x r ih =>
      intro acc
      simp only [List.map_cons, List.foldl_cons, ih]
      simp [toStr]
  have jn : ∀ (r : List (List Nat)) (x : List Nat), joinT sep (x :: r) = x ++ (r.map fun x => sep ++ x).flatten := by
    intro r
    induction r with
    | nil => intro x; simp [joinT]
    | cons y r ih => intro x; simp [joinT, ih y]
  cases ts with
  | nil => rfl
  | cons x r =>
    simp only [List.map_cons, List.drop_one, List.tail_cons, List.headD_cons, key, jn]
    simp [toStr]

section
variable {X : Cx} {k : Nat} {sc : Scope} {vis : List (Str × Nat)} {A : Around} {env cenv : Env} {Z : Addr → Prop} {ρ : List Addr} {σ : St} {η : Eta} {s : Shared}

theorem strsOf_ok {h : Heap} : ∀ {l : List AV} {ts : List (List Nat)} {vs : List Value}, strsOf l = some ts → VRels X ρ Z h l vs → ∃ ps : List (Str × Tok), vs = strValues ps ∧ ps.map (·.1) = ts.map toStr := by
  intro l
  induction l with
  | nil => intro ts vs e r; rw [← oE e]; exact ⟨[], VRels.nil_iff.mp r, rfl⟩
  | cons a l ih =>
    intro ts vs e r
    obtain ⟨v, t, hv, r1, r2⟩ := VRels.cons_iff.mp r
    rw [hv]
    refine asS_inv (P := fun v => ∃ ps : List (Str × Tok), v :: t = strValues ps ∧ ps.map (·.1) = ts.map toStr) e r1 fun x u e => o1_inv e fun l' hl e => ?_
    obtain ⟨ps, h1, h2⟩ := ih hl r2
    rw [h1, ← oE e]
    exact ⟨(toStr x, u) :: ps, rfl, by rw [List.map_cons, List.map_cons, h2]⟩

noncomputable def oJoin : OpL := fun l σ => args l no1 (fun s a => asS s fun sep => o1 (viewL σ a) fun xs => o1 (strsOf xs) fun ts => if okS ((ts.map List.length).sum + ts.length * sep.length) then some (.str (joinT sep ts), σ) else none) no3
theorem joinOk_of (sep : List Nat) (ts : List (List Nat)) (h : okS ((ts.map List.length).sum + ts.length * sep.length) = true) : JoinOk (toStr sep) (ts.map toStr) = true := by
  have key : ∀ (r : List (List Nat)) (acc : Nat), (r.map toStr).foldl (fun (a : Nat) (x : Str) => a + x.length + (toStr sep).length) acc = acc + ((r.map List.length).sum + r.length * sep.length) := by
    intro r
    induction r with
    | nil => intro acc; simp
    | cons x r ih =>
      intro acc
      rw [List.map_cons, List.foldl_cons, ih]
      simp only [List.map_cons, toStr_length, List.sum_cons, List.length_cons, Nat.add_mul, Nat.one_mul]
      (first | lia | omega)
  unfold JoinOk Builtin.Str.tooLong
  have := key ts 0
  simp only [List.foldl_toArray'] at *
  rw [this]
  have := okS_le h
  simp
  (first | lia | omega)
theorem c_join : CallOk X k (.builtin "str.join") oJoin := by
  refine ⟨?_⟩
  intro A Z ρ σ s c l vs r av σ' e Q E p
  refine args2 (P := fun vs => wpAny (model X.prog X.w) A (call (.builtin "str.join") vs) Q E s) e r fun a b v w r1 r2 e => asS_inv e r1 fun sep t e => o1_inv e fun xs hx e => o1_inv e fun ts hts e => ifN e fun hz e => ?_
  obtain ⟨b, ws, hw, pl, q⟩ := view_list c.inv r2 hx
  obtain ⟨ps, hp', hp⟩ := strsOf_ok hts q
  rw [hw]
  rw [hp'] at pl
  refine SC.join pl.isList hp (joinOk_of sep ts hz) fun t' k' => ?_
  rw [join_eq]
  exact (p.of e).tok c.inv (vrel_str ..) _
end

noncomputable def asc (l : List Nat) : Bool := l.all (fun c => decide (c < 128))
noncomputable def toB (l : List Nat) : List UInt8 := l.map fun c => c.toUInt8
noncomputable def ofB (b : List UInt8) : List Nat := b.map fun c => c.toNat

theorem range_steps {S : Type} (f : Nat → S → Sem (ForInStep S)) (g : Nat → S) : ∀ (n lo : Nat), (∀ i, lo ≤ i → i < lo + n → f i (g i) = pure (.yield (g (i + 1)))) → forIn (List.range' lo n) (g lo) f = pure (g (lo + n))
  | 0, lo, _ => rfl
  | n + 1, lo, h => by
    rw [List.range'_succ, List.forIn_cons, h lo (Nat.le_refl _) (by (first | lia | omega)), pure_bind]
    have := range_steps f g n (lo + 1) (fun i h1 h2 => h i (by (first | lia | omega)) (by (first | lia | omega)))
    simp only [this]
    rw [show lo + 1 + n = lo + (n + 1) by (first | lia | omega)]
theorem range_steps_bind {S R : Type} {f : Nat → S → Sem (ForInStep S)} {k : S → Sem R} {r : R} {n : Nat} {init : S} (g : Nat → S) (h0 : init = g 0) (hs : ∀ i, i < n → f i (g i) = pure (.yield (g (i + 1)))) (hk : k (g n) = pure r) :
    (forIn (List.range' 0 n) init f >>= k) = pure r := by
  rw [h0, range_steps f g n 0 fun i _ h => hs i (by (first | lia | omega)), pure_bind]
  rw [Nat.zero_add]
  exact hk
theorem range_once {S : Type} (f : Nat → S → Sem (ForInStep S)) (a b : S) (n : Nat) (h0 : f 0 a = pure (.yield b)) (h1 : ∀ i, f i b = pure (.done b)) : forIn (List.range' 0 (n + 1)) a f = pure b := by
  rw [List.range'_succ, List.forIn_cons, h0, pure_bind]
  cases n with
  | zero => rfl
  | succ n => simp only [List.range'_succ, List.forIn_cons, h1, pure_bind]

open PySem.Builtin PySem.Builtin._codecs in
theorem decode_run (id : String) (b : List UInt8) (hb : ∀ c ∈ b, c.toNat < 128) (hs : b.length ≤ sizeLine) : runDecoder id utf8Decoder none true b.toArray 0 [] = pure ((toStr (ofB b)).cps, b.length) := by
  unfold runDecoder
  simp only [Std.Legacy.Range.forIn_eq_forIn_range', Std.Legacy.Range.size, Nat.sub_zero, Nat.add_one_sub_one, Nat.div_one]
  refine range_steps_bind (fun i => (i, ((ofB b).take i).toArray, ({ held := [] } : Faults))) (by simp) ?_ ?_
  · intro i hi
    have hi : i < b.length := by simpa using hi
    dsimp only
    have hsz : ¬ ((ofB b).take i).toArray.size > sizeLine := by simp [ofB]; (first | lia | omega)
    rw [if_neg hsz, if_neg (by simp; (first | lia | omega))]
    have hc : (b.toArray.getD i 0) = b[i] := by simp [Array.getD, hi]
    have hf : utf8Decoder.find true b.toArray i = Found.text [b[i].toNat] (i + 1) := by
      show (match Bytes.utf8At b.toArray i with | (.char c, nx) => Found.char c nx | (.bad _ stop reason, _) => _) = _
      unfold Bytes.utf8At
      rw [hc]
      simp only [if_pos (hb _ (List.getElem_mem hi))]
      rfl
    rw [hf]
    show pure (ForInStep.yield (i + 1, ((ofB b).take i).toArray ++ [b[i].toNat].toArray, _)) = _
    have : ((ofB b).take i).toArray ++ [b[i].toNat].toArray = ((ofB b).take (i + 1)).toArray := by
      rw [List.take_add_one]
      simp [ofB, List.getElem?_eq_getElem hi]
    rw [this]
  · have : (ofB b).take b.length = ofB b := List.take_of_length_le (by simp [ofB])
    simp only [List.size_toArray, this]
    rfl
open PySem.Builtin PySem.Builtin._codecs in
theorem enc_fold : ∀ (b : List Nat) (_ : ∀ c ∈ b, c < 128) (acc : Array UInt8), b.toArray.foldl (fun acc y => acc ++ (utf8Codec.bytesOf y).toArray) acc = acc ++ (toB b).toArray := by
  intro b
  induction b with
  | nil => intro _ acc; simp [toB]
  | cons y b ih =>
    intro hb acc
    have hy : utf8Codec.bytesOf y = [y.toUInt8] := by
      show Str.utf8Of y = _
      unfold Str.utf8Of
      rw [if_pos (show y < 0x80 from hb y List.mem_cons_self)]
    have := ih (fun c hc => hb c (List.mem_cons_of_mem _ hc)) (acc ++ [y.toUInt8].toArray)
    rw [List.foldl_toArray] at this ⊢
    rw [List.foldl_cons, hy, this]
    simp [toB]
theorem enc_pure {n : Nat} {a b : Array UInt8} {f : _root_.PySem.Builtin._codecs.Faults} (h : a = #[] ++ b) : (pure (ForInStep.yield (n, a, f)) : Sem _) = pure (ForInStep.yield (n, b, f)) := by rw [h]; simp
open PySem.Builtin PySem.Builtin._codecs in
theorem encode_run (id : String) (self : Value) (l : List Nat) (hl : asc l = true) (hs : l.length ≤ sizeLine) : encodeNarrow id utf8Codec none self (toStr l) = pure (toB l).toArray := by
  have hl := List.all_eq_true.mp hl
  unfold encodeNarrow
  simp only [Std.Legacy.Range.forIn_eq_forIn_range', Std.Legacy.Range.size, Nat.sub_zero, Nat.add_one_sub_one, Nat.div_one, toStr_length]
  cases l with
  | nil => rfl
  | cons x r =>
    rw [List.length_cons]
    have hbad : ∀ c ∈ x :: r, utf8Codec.bad c = false := fun c hc => by
      have := of_decide_eq_true (hl c hc)
      show Str.isSurrogate c = false
      unfold Str.isSurrogate
      simp
      (first | lia | omega)
    rw [range_once (b := ((x :: r).length, (toB (x :: r)).toArray, ({} : Faults)))]
    · rfl
    · dsimp only
      rw [if_neg (show ¬ (#[] : Array UInt8).size > sizeLine from Nat.not_lt_zero _)]
      have e1 : (toStr (x :: r)).cps[0]? = some x := rfl
      have e2 : (toStr (x :: r)).cps.extract 0 = (x :: r).toArray := by simp [toStr]
      have e3 : (x :: r).toArray.findIdx? utf8Codec.bad = none := by
        rw [Array.findIdx?_eq_none_iff]
        intro c hc
        exact hbad c (List.mem_toArray.mp hc)
      rw [e1]
      dsimp only
      rw [hbad x List.mem_cons_self, if_pos (show (!false) = true from rfl), e2, e3, Option.getD_none, Array.extract_size, Nat.zero_add]
      exact enc_pure (enc_fold (x :: r) (fun c hc => of_decide_eq_true (hl c hc)) #[])
    · intro i
      dsimp only
      rw [if_neg (by simp [toB]; (first | lia | omega))]
      have e1 : (toStr (x :: r)).cps[(x :: r).length]? = none := by simp [toStr]
      rw [e1]

section
variable {X : Cx} {k : Nat} {sc : Scope} {vis : List (Str × Nat)} {A : Around} {env cenv : Env} {Z : Addr → Prop} {ρ : List Addr} {σ : St} {η : Eta} {s : Shared}

theorem vrel_bytes {h : Heap} (b : List UInt8) (t : Tok) : VRel X ρ Z h (.bytes b) (.bytes b.toArray t) := by unfold VRel; exact ⟨t, rfl⟩

noncomputable def oEncode : OpL := fun l σ => args l (fun a => asS a fun x => if asc x && okS x.length then some (.bytes (toB x), σ) else none) no2 no3
theorem c_encode : CallOk X k (.builtin "str.encode") oEncode := by
  refine ⟨?_⟩
  intro A Z ρ σ s c l vs r av σ' e Q E p
  refine args1 (P := fun vs => wpAny (model X.prog X.w) A (call (.builtin "str.encode") vs) Q E s) e r fun a v r e => asS_inv e r fun x t e => ifN e fun hz e => ?_
  have hz := Bool.and_eq_true_iff.mp hz
  refine call_gives F.slot_str_encode (typeIs_str _ _ _) F.entry_str_encode (F.args_str_encode_1 _) (m := .bytes (toB x).toArray) ?_ ⟨by have := okS_le hz.2; simpa [toB] using this, (p.of e).tok c.inv (vrel_bytes ..) _⟩
  refine .of_eq ?_
  rw [encode_tree, encodeRoad_utf8, encode_run _ _ x hz.1 (okS_le hz.2)]
  rfl

noncomputable def oDecode : OpL := fun l σ => args l (fun a => asY a fun x => lC x fun b bs => if (b :: bs).all (fun c => decide (c.toNat < 128)) && okS (b :: bs).length then some (.str (ofB (b :: bs)), σ) else none) no2 no3
theorem c_decode : CallOk X k (.builtin "bytes.decode") oDecode := by
  refine ⟨?_⟩
  intro A Z ρ σ s c l vs r av σ' e Q E p
  refine args1 (P := fun vs => wpAny (model X.prog X.w) A (call (.builtin "bytes.decode") vs) Q E s) e r fun a v r e => asY_inv e r fun x t e => ?_
  refine lC_inv (P := fun x => wpAny (model X.prog X.w) A (call (.builtin "bytes.decode") [.bytes x.toArray t]) Q E s) e fun b bs e => ifN e fun hz e => ?_
  have hz := Bool.and_eq_true_iff.mp hz
  refine PySem.W.KBd.decode (x := toStr (ofB (b :: bs))) (n := (b :: bs).length) (fun id => decode_run id (b :: bs) (fun c hc => of_decide_eq_true (List.all_eq_true.mp hz.1 c hc)) (okS_le hz.2)) ?_ fun t' k' => (p.of e).tok c.inv (vrel_str ..) _
  rw [toStr_length, ofB, List.length_map]
  exact okS_le' hz.2
end
end Mine
end
section
open PySem PySem.W PyProof.Rows
set_option maxRecDepth 100000
set_option linter.unusedVariables false
namespace Mine
open SeqAt

section
variable {X : Cx} {k : Nat} {sc : Scope} {vis : List (Str × Nat)} {A : Around} {env cenv : Env} {Z : Addr → Prop} {ρ : List Addr} {σ : St} {η : Eta} {s : Shared}

noncomputable def mItems (m : ME) : ME := fun η σ => oB (m η σ) fun a σ => o1 (viewD σ a) fun l => if tyOf σ a = some "dict" && okS l.length then some (.list (l.map fun p => .tup [.str p.1, p.2]), σ) else none

theorem VRelD.at {h : Heap} : ∀ {xs : List (List Nat × AV)} {es : List (Str × Value)}, VRelD X ρ Z h xs es → ∀ (j : Nat) (p : List Nat × AV), xs[j]? = some p → ∃ v, es[j]? = some (toStr p.1, v) ∧ VRel X ρ Z h p.2 v
  | [], es, r, j, p, e => nomatch e
  | (l, x) :: xs, es, r, j, p, e => by
    unfold VRelD at r
    obtain ⟨w, t, hq, q, q'⟩ := r
    rw [hq]
    cases j with
    | zero => rw [← oE e]; exact ⟨w, rfl, q⟩
    | succ j => exact VRelD.at q' j p e

theorem items_rel {h : Heap} {lo : Addr} {Z' : Addr → Prop} (l : List (List Nat × AV)) {es : List (Str × Value)} {as : List Addr} (r : VRelD X ρ Z' h l es) (g : KdxG (PySem.strKind X.prog X.w) es lo h as) (hl : as.length = es.length) (hz : ∀ a ∈ as, Z' a) :
    VRels X ρ Z' h (l.map fun p => .tup [.str p.1, p.2]) (as.map Value.ref) := by
  have hlen : l.length = es.length := VRelD.length r
  have key : ∀ (n : Nat) (j : Nat), j + n = l.length → VRels X ρ Z' h ((l.drop j).map fun p => .tup [.str p.1, p.2]) ((as.drop j).map Value.ref) := by
    intro n
    induction n with
    | zero =>
      intro j hj
      rw [List.drop_of_length_le (by (first | lia | omega)), List.drop_of_length_le (by (first | lia | omega))]
      exact VRels.nil_iff.mpr rfl
    | succ n ih =>
      intro j hj
      have h1 : j < l.length := by (first | lia | omega)
      have h2 : j < as.length := by (first | lia | omega)
      rw [List.drop_eq_getElem_cons h1, List.drop_eq_getElem_cons h2, List.map_cons, List.map_cons]
      refine VRels.cons ?_ (ih (j + 1) (by (first | lia | omega)))
      obtain ⟨key, kk, x, e1, e2, e3⟩ := g.pairs j as[j] (List.getElem?_eq_getElem h2)
      obtain ⟨v, e4, rv⟩ := VRelD.at r j l[j] (List.getElem?_eq_getElem h1)
      rw [e4] at e1; cases e1
      obtain ⟨t, rfl⟩ := Value.isStrOf_shape e2
      exact vrel_tup (vs := [.str (toStr l[j].1) t, x]) (hz _ (List.getElem_mem h2)) ⟨0, e3⟩ (VRels.cons (vrel_str ..) (VRels.cons rv (VRels.nil_iff.mpr rfl)))
  have := key l.length 0 (by (first | lia | omega))
  simpa using this

theorem items_post {l : List (List Nat × AV)} {es : List (Str × Value)} {as : List Addr} {acc : Array Value} {cc : Nat} {h0 h' : Heap} {tk : Nat} {Q : Value → Shared → Prop} (p : Post X Z ρ s (.list (l.map fun p => .tup [.str p.1, p.2])) σ Q) (i : Inv X Z ρ σ s) (q : VRelD X ρ Z s.heap l es)
    (sz : h0.objs.size = s.heap.objs.size + 1) (hk : ∀ b o, s.heap.get? b = some o → h'.get? b = some o) (hS : h'.get? h0.objs.size = some { cls := .type "list", data := .seq acc cc }) (hl : as.length = es.length)
    (g : KdxG (PySem.strKind X.prog X.w) es h0.objs.size h' as) (hacc : acc.toList = as.map Value.ref) : Q (.ref h0.objs.size) { s with heap := h', toks := tk } := by
  have fresh : ∀ b, s.heap.objs.size ≤ b → s.heap.get? b = none := fun b hb => by
    cases q : s.heap.get? b with
    | none => rfl
    | some o => exact absurd (Heap.lt_size q) (Nat.not_lt.mpr hb)
  refine p.grow i (P := fun b => b ∈ as ∨ b = h0.objs.size) hk (fun b hb => ?_) ?_
  · rcases hb with hb | hb
    · refine ⟨fresh b (by have h := g.above b hb; rw [sz] at h; exact Nat.le_of_lt (Nat.lt_of_succ_lt h)), ?_⟩
      obtain ⟨j, hj⟩ := List.mem_iff_getElem?.mp hb
      obtain ⟨_, _, _, _, _, e⟩ := g.pairs j b hj
      rw [e]; exact fun q => nomatch q
    · rw [hb]
      exact ⟨fresh _ (by (first | lia | omega)), by rw [hS]; exact fun q => nomatch q⟩
  · have q' : VRelD X ρ (fun b => Z b ∨ (b ∈ as ∨ b = h0.objs.size)) h' l es := q.mono (fun b o _ e => hk b o e) (fun _ f => .inl f) List.prefix_rfl
    have e1 : acc = (as.map Value.ref).toArray := by rw [← hacc, Array.toArray_toList]
    rw [e1] at hS
    exact vrel_list (.inr (.inr rfl)) ⟨_, hS⟩ (items_rel l q' g hl fun b hb => .inr (.inl hb))
theorem s_listItems {x : Expr} {lp apos ipos pos : Pos} {m : ME} (GL : GName X "list" (.type "list")) (hm : SimX X k sc vis x m) (hk : sc.names.lookup ("list" : Str) = some .globalImplicit := by decide +kernel)
    (hbase : ∀ env, attributeBase x "items" env (eval x env) = eval x env := by intro _; rfl) (hline : (apos.endLine == ipos.line) = true := by rfl) :
    SimX X k sc vis (.Call (.Name "list" lp) [.Call (.Attribute x "items" apos) [] [] ipos] [] pos) (mItems m) := by
  refine ⟨?_⟩
  intro A env Z ρ σ η s c av σ' e Q E p
  refine oB_inv e fun a σ₁ h1 e => o1_inv e fun l hv e => ifN e fun hz e => ?_
  replace p := p.of e
  have hz := Bool.and_eq_true_iff.mp hz
  have hty : tyOf σ₁ a = some "dict" := of_decide_eq_true hz.1
  have hk' : env.kindOf ("list" : Str) = some .globalImplicit := by unfold Env.kindOf; rw [c.sc]; exact hk
  refine wpAny_Call_NameR (wpAny_Name ?_ (by decide +kernel))
  rw [PyProof.Rows.loadName_read c.e.kind hk']
  refine GL _ _ _ _ _ c.e.glob c.e.bltn c.c.inv.base ?_
  refine callWith_machine (fun _ q => nomatch q) rfl (wpAny_items_cons ?_ (by rfl))
  refine wpAny_Call_method (hbase env) (by rfl) hline PySem.F.plainAttrs_dict PySem.F.slot_dict_items PySem.F.type_dict_items (hm.run A env Z ρ σ η s c _ _ h1 _ _ fun Z₁ ρ₁ v₁ s₁ i₁ y₁ r₁ => ?_)
  obtain ⟨t1, t2⟩ := tyOf_ok i₁ r₁ hty
  refine ⟨t1, t2, callWith_machine (fun _ q => nomatch q) rfl (wpAny_items_nil ?_)⟩
  obtain ⟨d, es, hv', hs, dd, q⟩ := view_dict i₁ r₁ hv
  rw [hv'] at t1 ⊢
  refine call_meetsIn PySem.F.slot_dict_items t1 PySem.F.entry_dict_items (PySem.F.args_dict_items_1 _) (meets_dict_items (PySem.strKind X.prog X.w) d hs) ⟨⟨es, dd⟩, ?_⟩
  refine wpAny_items_nil ?_
  obtain ⟨ep, hat⟩ := dd.dictAt
  refine kdx_call (knd := PySem.strKind X.prog X.w) (kvs := es) (ep := ep) (r := s₁.heap.objs.size) (d := d) c.c.hnd ⟨_, Heap.get?_push_size _ rfl, rfl, rfl⟩ (hat.push _) (by have := okS_le hz.2; rw [← VRelD.length q]; exact this) fun h' tk acc cc as hk hS hl g hacc => ?_
  exact items_post (s := s₁) (h0 := s₁.heap.push { cls := .type "dict_items", data := .fields #[.ref d] }) (p.pass y₁) i₁ q (Heap.size_push ..) (fun b o e => hk b o (Heap.get?_push_of_some _ e)) hS hl g hacc
end
end Mine
end
section
open PySem PySem.W PyProof.Rows
set_option maxRecDepth 100000
set_option linter.unusedVariables false
namespace Mine
open SeqAt

section
variable {X : Cx} {k : Nat} {sc : Scope} {vis : List (Str × Nat)} {A : Around} {env cenv : Env} {Z : Addr → Prop} {ρ : List Addr} {σ : St} {η : Eta} {s : Shared}

structure TSt (X : Cx) (fp wr : List Addr) (n : Nat) (P : Nat → Array Value → Prop) (St : Nat → Heap → Prop) (env : Env) (xs : List (List AV)) (m : List AV → Binder) (Z : Addr → Prop) (ρ : List Addr) (r : List Binder) (s : Shared) (i : Nat) : Prop where
  hi : i ≤ n
  hr : r = (xs.drop i).map m
  st : St i s.heap
  hz : ∀ b ∈ fp, b ∉ wr → Z b
  hf : ∀ a ∈ wr, Free X Z ρ a ∧ ¬ Own env a
  hp : ∀ j vals, j < n → P j vals → ∃ x, xs[j]? = some x ∧ VRels X ρ Z s.heap x vals.toList
section
variable {I : Addr} {fp wr : List Addr} {n : Nat} {P : Nat → Array Value → Prop} {St : Nat → Heap → Prop} {Mid : Nat → Addr → Heap → Prop} {xs : List (List AV)} {m : List AV → Binder} {r : List Binder} {i : Nat}
theorem TSt.next (w : TSt X fp wr n P St env xs m Z ρ r s i) (Wk : WalksT X.prog X.w A I fp wr n P St Mid) (pl : ∀ a ∈ wr, PlainAt a s.heap) {T : Addr → Prop} {Z' ρ' s'} (ht : ∀ a ∈ wr, ¬ T a) (y : Ext T Z ρ s Z' ρ' s') : TSt X fp wr n P St env xs m Z' ρ' r s' i where
  hi := w.hi
  hr := w.hr
  st := Wk.frame _ _ _ w.st fun b hb o e => by
    by_cases hbI : b ∈ wr
    · exact (pl b hbI).kept e (y.keep b o e (ht b hbI) (w.hf b hbI).1.2.1)
    · exact y.fkeep b o (w.hz b hb hbI) e
  hz := fun b hb hne => y.fmono b (w.hz b hb hne)
  hf := fun a ha => ⟨(w.hf a ha).1.next y (pl a ha).there, (w.hf a ha).2⟩
  hp := fun j v hj hv => (w.hp j v hj hv).imp fun x h => ⟨h.1, h.2.ext y⟩
end
theorem Src.tuples {ts : List Expr} {kd : Nat} {tp : Pos} {I : Addr} {fp wr : List Addr} {n : Nat} {Pt : Nat → Array Value → Prop} {St : Nat → Heap → Prop} {Mid : Nat → Addr → Heap → Prop} (Wk : WalksT X.prog X.w A I fp wr n Pt St Mid) {r : List AV → Binder} (hr : SimAs X k sc vis ts r)
    (xs : List (List AV)) (hn : xs.length = n) (hlen : ∀ env, (assignEach ts env).length = 2) (hst : ∀ env, (assignEach ts env).findIdx? (·.1) = none)
    (hcls : ∀ i h a, St i h → a ∈ wr → PlainAt a h) (hsz : ∀ j vals, Pt j vals → vals.size = 2) :
    Src X k sc vis A env (.Tuple ts kd tp) I (fun a => a ∈ wr) (fun Z ρ q s => ∃ i, TSt X fp wr n Pt St env xs r Z ρ q s i) where
  cons := by
    rintro Z ρ σ η s b q c ⟨i, w⟩ η' σ' e Q E p
    have hlt : i < n := by
      rcases Nat.lt_or_ge i n with h | h
      · exact h
      · have hq := w.hr; rw [List.drop_of_length_le (by (first | lia | omega))] at hq; exact nomatch hq
    have hlt' : i < xs.length := by (first | lia | omega)
    have hq := w.hr
    rw [List.drop_eq_getElem_cons hlt'] at hq
    injection hq with hb hq
    refine Wk.item i s _ _ hlt w.st fun T vals h' tk hv hle hT mid hk => ⟨_, rfl, Wk.go ts kd tp i T _ _ _ mid fun h'' st' hk' => ?_⟩
    have hs : ∀ b o, ¬ (b ∈ wr) → s.heap.get? b = some o → h''.get? b = some o := fun b o hb e => hk' b o hb (hk b o hb e)
    have hfr : ∀ a, a ∈ wr → Free X Z ρ a := fun a q => (w.hf a q).1
    have pl := fun a ha => hcls _ _ a w.st ha
    have pl' := fun a ha => hcls _ _ a st' ha
    have i1 := c.c.inv.touch (tk := tk) hs hfr
    have y1 : Ext (fun a => a ∈ wr) Z ρ s Z ρ { s with heap := h'', toks := tk } := Ext.touch hs hfr (fun a q => (pl' a q).there) (fun _ q => q) fun a q => (pl a q).noFrame
    have e1 := c.e.extT y1 (fun a q => (w.hf a q).2)
    have c1 : EC X k sc vis A env Z ρ σ η { s with heap := h'', toks := tk } := c.after i1 y1 e1 fun a q => .inr (pl a q).noNs
    obtain ⟨x, hx, rx⟩ := w.hp i vals hlt hv
    rw [List.getElem?_eq_getElem hlt'] at hx
    rw [← Option.some.inj hx] at rx
    have hT' : h''.IsTuple T vals := by
      obtain ⟨o, e, hc, m, hd⟩ := hT
      exact ⟨o, hk' T o (Wk.apart i T _ mid) e, hc, m, hd⟩
    rw [hb] at e
    refine wpAny_assign_Tuple c1.c.hnd hT' (by rw [hlen, hsz _ _ hv]) (hst env) fun h3 hx3 => ?_
    have hk3 := grow_of_extBut hx3
    have i3 := i1.touch (W := fun _ => False) (h' := h3) (tk := tk) (fun b o' _ e => hk3 b o' e) fun a f => f.elim
    have y3 : Ext T0 Z ρ { s with heap := h'', toks := tk } Z ρ { s with heap := h3, toks := tk } := Ext.touch (X := X) (W := fun _ => False) (tk := tk) (fun b o' _ e => hk3 b o' e) (fun a f => f.elim) (fun a f => f.elim) fun a f => f
    refine hr.run A env Z ρ σ η _ (c1.next i3 y3) _ _ ((rx.ext y1).ext y3) _ _ e _ _ fun Z2 ρ2 s2 i2 y2 e2 => ?_
    have y32 : Ext (Tur vis env) Z ρ { s with heap := h'', toks := tk } Z2 ρ2 s2 := (y3.weaken fun _ f => f.elim).trans y2
    have w1 : TSt X fp wr n Pt St env xs r Z ρ q { s with heap := h'', toks := tk } (i + 1) := ⟨hlt, hq, st', w.hz, w.hf, fun j v hj hv => (w.hp j v hj hv).imp fun x h => ⟨h.1, h.2.ext y1⟩⟩
    exact p Z2 ρ2 s2 i2 ((y1.weaken fun _ q => .inr q).trans (y32.weaken fun _ q => .inl q)) e2 ⟨i + 1, w1.next Wk pl' (fun a ha t => (w.hf a ha).2 t.own) y32⟩
  nil := by
    rintro Z ρ s ⟨i, w⟩ Q E p
    have hin : i = n := by
      rcases Nat.lt_or_ge i n with h | h
      · have hq := w.hr; rw [List.drop_eq_getElem_cons (by (first | lia | omega) : i < xs.length)] at hq; exact nomatch hq
      · exact Nat.le_antisymm w.hi h
    have st := w.st
    rw [hin] at st
    exact Wk.done s _ _ st fun h' tk hk => p h' tk fun b o hb e => hk b o hb e
  free := by rintro Z ρ q s ⟨i, w⟩ a ha; exact w.hf a ha
  keep := by rintro T Z ρ q s Z' ρ' s' ⟨i, w⟩ hWT y; exact ⟨i, w.next Wk (fun a ha => hcls _ _ a w.st ha) hWT y⟩
  self := by rintro Z ρ q s Q E ⟨i, w⟩ hQ; exact Wk.self i s _ _ w.st hQ
  priv := by rintro Z ρ q s ⟨i, w⟩ a m ha; exact (hcls _ _ a w.st ha).noNs m

noncomputable def iEnum (m : ME) (r : List AV → Binder) : MI := fun η σ => oB (m η σ) fun a σ => asL a fun xs => some ((xs.zipIdx.map fun p => [AV.int p.2, p.1]).map r, σ)
theorem mem2 {a x y : Addr} (h : a ∈ [x, y]) : a = x ∨ a = y := (List.mem_cons.mp h).imp_right List.mem_singleton.mp
theorem mem3 {a x y z : Addr} (h : a ∈ [x, y, z]) (n : a ∉ [x, y]) : a = z := by
  rcases List.mem_cons.mp h with h | h
  · exact absurd (h ▸ List.mem_cons_self) n
  · rcases mem2 h with h | h
    · exact absurd (h ▸ List.mem_cons_of_mem _ List.mem_cons_self) n
    · exact h
theorem enum_itOk {ts : List Expr} {kd : Nat} {tp : Pos} {sc2 vis2} {r : List AV → Binder} {l : Addr} {vs : List Value} {xs : List AV} {h' : Heap} {old : Value} {C : Prop} (i₁ : Inv X Z ρ σ s) (hh : A.handled = none) (hr : SimAs X k sc2 vis2 ts r)
    (hlen : ∀ env, (assignEach ts env).length = 2) (hst : ∀ env, (assignEach ts env).findIdx? (·.1) = none) (pl : s.heap.PlainList l vs.toArray) (zl : Z l) (hk : ∀ b o, s.heap.get? b = some o → h'.get? b = some o)
    (hE : IsEnum h' (s.heap.objs.size + 1) s.heap.objs.size ((0 : Nat) : Int) old) (hI : h'.IsListIter s.heap.objs.size l 0) (q : VRels X ρ Z h' xs vs)
    (done : True → (∀ (Q : Value → Shared → Prop) (E : Value → Shared → Prop), Q (.ref (s.heap.objs.size + 1)) { s with heap := h' } → wpAny (model X.prog X.w) A (pyIter (.ref (s.heap.objs.size + 1))) Q E { s with heap := h' }) →
      (∀ {s₀ : Shared}, (∀ a o, s₀.heap.get? a = some o → ∃ o', s.heap.get? a = some o') → ItOk X k sc2 vis2 A (.Tuple ts kd tp) s₀ ((xs.zipIdx.map fun p => [AV.int p.2, p.1]).map r) Z ρ (s.heap.objs.size + 1) { s with heap := h' }) → C) : C := by
  have hll : l < s.heap.objs.size := by obtain ⟨n, e⟩ := pl; exact Heap.lt_size e
  have hne1 : s.heap.objs.size + 1 ≠ s.heap.objs.size := by (first | lia | omega)
  have Wk := WalksT.enumerate (prog := X.prog) (w := X.w) (A := A) hh (s.heap.objs.size + 1) s.heap.objs.size l hne1 (Nat.ne_of_lt (Nat.lt_succ_of_lt hll)) (Nat.ne_of_lt hll) vs.toArray
  have pl' : h'.PlainList l vs.toArray := by obtain ⟨n, e⟩ := pl; exact ⟨n, hk _ _ e⟩
  have st0 : (∃ old, IsEnum h' (s.heap.objs.size + 1) s.heap.objs.size ((0 : Nat) : Int) old) ∧ h'.IsListIter s.heap.objs.size l 0 ∧ h'.IsList l vs.toArray := ⟨⟨_, hE⟩, hI, pl'.isList⟩
  have fresh : ∀ a, a ∈ [s.heap.objs.size + 1, s.heap.objs.size] → s.heap.get? a = none := fun a ha => by
    cases q : s.heap.get? a with
    | none => rfl
    | some o =>
      have := Heap.lt_size q
      rcases mem2 ha with h | h
      · exact absurd (Nat.lt_of_succ_lt (h ▸ this)) (Nat.lt_irrefl _)
      · exact absurd (h ▸ this) (Nat.lt_irrefl _)
  have free : ∀ a, a ∈ [s.heap.objs.size + 1, s.heap.objs.size] → Free X Z ρ a := fun a ha => by
    have hd := fresh a ha
    refine ⟨fun f => ?_, fun f => ?_, ?_⟩
    · obtain ⟨o, e⟩ := i₁.fr _ f; rw [hd] at e; exact nomatch e
    · obtain ⟨⟨o, e⟩, _⟩ := i₁.old _ f; rw [hd] at e; exact nomatch e
    · cases q : X.H₀.get? a with
      | none => rfl
      | some o => have := i₁.base _ _ q; rw [hd] at this; exact nomatch this
  have hcls : ∀ (i : Nat) (h : Heap) (a : Addr), ((∃ old, IsEnum h (s.heap.objs.size + 1) s.heap.objs.size (i : Int) old) ∧ h.IsListIter s.heap.objs.size l i ∧ h.IsList l vs.toArray) → a ∈ [s.heap.objs.size + 1, s.heap.objs.size] → PlainAt a h := by
    rintro i h a ⟨⟨old, h1⟩, ⟨o, h2, h3, h4⟩, _⟩ ha
    rcases mem2 ha with q | q
    · rw [q]; exact ⟨_, _, h1, rfl, by show Value.type "enumerate" ≠ _; decide⟩
    · rw [q]; exact ⟨o, _, h2, h4, by rw [h3]; decide⟩
  refine done trivial (fun Q E hq => Wk.self 0 _ _ _ st0 hq) fun al => ⟨fun a => a ∈ [s.heap.objs.size + 1, s.heap.objs.size], fun a ha => ⟨none_of_alive al (fresh a ha), (hcls 0 h' a st0 ha).there, free a ha⟩,
    fun env2 => ⟨_, Src.tuples (env := env2) Wk hr (xs.zipIdx.map fun p => [AV.int p.2, p.1]) (by rw [List.length_map, List.length_zipIdx, q.length]; rfl) hlen hst hcls ?_, fun Z' ρ' s' y hw => ⟨0, ⟨Nat.zero_le _, rfl, ?_, ?_, hw, ?_⟩⟩⟩⟩
  · rintro j vals ⟨t, x, _, hv⟩; rw [hv]; rfl
  · refine Wk.frame _ _ _ st0 fun b hb o e => ?_
    by_cases hbI : b ∈ [s.heap.objs.size + 1, s.heap.objs.size]
    · exact (hcls 0 h' b st0 hbI).kept e (y.keep b o e (fun f => f) (free b hbI).2.1)
    · rw [mem3 hb hbI] at e ⊢
      exact y.fkeep l o zl e
  · intro b hb hne
    rw [mem3 hb hne]
    exact y.fmono l zl
  · rintro j vals hj ⟨t, x, hx, hv⟩
    have hjx : j < xs.length := by rw [q.length]; exact hj
    obtain ⟨v, hv', rv⟩ := (VRels.ext (s := { s with heap := h' }) y q).get (List.getElem?_eq_getElem hjx)
    have hx : vs[j]? = some x := by simpa using hx
    rw [Option.some.inj (hv'.symm.trans hx)] at rv
    rw [hv]
    exact ⟨[AV.int j, xs[j]], by simp [hjx], VRels.cons (vrel_int ..) (VRels.cons rv (VRels.nil_iff.mpr rfl))⟩

theorem i_enum {x : Expr} {np pos tp : Pos} {ts : List Expr} {kd : Nat} {sc2 vis2} {m : ME} {r : List AV → Binder} (GE : GName X "enumerate" (.type "enumerate")) (hm : SimX X k sc vis x m) (hr : SimAs X k sc2 vis2 ts r)
    (hlen : ∀ env, (assignEach ts env).length = 2 := by intro _; rfl) (hst : ∀ env, (assignEach ts env).findIdx? (·.1) = none := by intro _; rfl)
    (hk : sc.names.lookup ("enumerate" : Str) = some .globalImplicit := by decide +kernel) (hp : ∀ env, (backTo pos (starEach [x] env)).any (·.1) = false := by intro _; rfl)
    (he : ∀ env, starEach [x] env = (false, eval x env) :: starEach [] env := by intro _; rfl) :
    SimI X k sc vis sc2 vis2 (.Call (.Name "enumerate" np) [x] [] pos) (.Tuple ts kd tp) (iEnum m r) := by
  refine ⟨?_⟩
  intro A env Z ρ σ η s c bs σ' e Q E p
  refine oB_inv e fun a σ₁ h1 e => ?_
  have hk' : env.kindOf ("enumerate" : Str) = some .globalImplicit := by unfold Env.kindOf; rw [c.sc]; exact hk
  refine wpAny_Call_NameR (wpAny_Name ?_ (by decide +kernel))
  rw [PyProof.Rows.loadName_read c.e.kind hk']
  refine GE _ _ _ _ _ c.e.glob c.e.bltn c.c.inv.base ?_
  refine callWith_machine (fun _ q => nomatch q) (hp env) (wpAny_items_cons (hm.run A env Z ρ σ η s c _ _ h1 _ _ fun Z₁ ρ₁ v₁ s₁ i₁ y₁ r₁ => wpAny_items_nil ?_) (he env))
  refine asL_inv e r₁ fun xs l vs zl pl q e => ?_
  replace p := out2 (P := fun bs σ' => ∀ Z' ρ' s' I, Inv X Z' ρ' σ' s' → Ext T0 Z ρ s Z' ρ' s' → ItOk X k sc2 vis2 A (.Tuple ts kd tp) s bs Z' ρ' I s' → Q (.ref I) s') (Option.some.inj e) p
  refine call_enumerate_list pl.isList fun h' hE hI hsz hk => ?_
  have i₂ := i₁.touch (W := fun _ => False) (h' := h') (tk := s₁.toks) (fun b o' _ e => hk b o' e) fun a f => f.elim
  have y₂ : Ext T0 Z₁ ρ₁ s₁ Z₁ ρ₁ { s₁ with heap := h' } := Ext.touch (X := X) (W := fun _ => False) (tk := s₁.toks) (fun b o' _ e => hk b o' e) (fun a f => f.elim) (fun a f => f.elim) fun a f => f
  refine enum_itOk (kd := kd) (tp := tp) i₁ c.c.hnd hr hlen hst pl zl hk hE hI (q.ext y₂) fun wk self ok => ?_
  exact self _ _ (p Z₁ ρ₁ _ (s₁.heap.objs.size + 1) i₂ (y₁.trans y₂) (ok y₁.alive))
end
end Mine
end
section
open PySem PySem.W PyProof.Rows
set_option maxRecDepth 100000
set_option linter.unusedVariables false
namespace Mine
open PySem.Sre

noncomputable def fcode : Array Nat := #[14,4,0,8,4294967295,24,5,0,4294967295,2,1,16,70,16,76,16,65,16,71,16,83,16,32,16,40,17,0,24,6,0,4294967295,20,41,1,17,1,16,41,1]

structure FS where
  pc : Nat
  pos : Nat
  hd : Nat
  mrk : Array (Option Nat)
  lm : Int
  li : Int
  fr : List Sre.Frame
  wt : Nat
  an : Option Bool
  sn : Sre.Seen

noncomputable def fm (tx : Array Nat) (f : FS) : M :=
  { code := fcode, text := tx, lim := tx.size, start := 0, pc := f.pc, pos := f.pos, handed := f.hd, outermost := true, marks := f.mrk, lastmark := f.lm, lastindex := f.li, frames := f.fr, weight := f.wt, answer := f.an, seen := f.sn }

noncomputable def Rch (m m' : M) (k : Nat) : Prop := ∀ n, M.runFor (k + n) m = M.runFor n m'
theorem Rch.refl (m : M) : Rch m m 0 := fun n => by rw [Nat.zero_add]
theorem Rch.trans {m m' m'' : M} {k k' : Nat} (a : Rch m m' k) (b : Rch m' m'' k') : Rch m m'' (k + k') := fun n => by rw [Nat.add_assoc, a, b]
theorem Rch.one {m m' : M} (ho : m.outcome.isSome = false) (h : m.step = m') : Rch m m' 1 := fun n => by
  rw [Nat.add_comm]
  show (if m.outcome.isSome then m else M.runFor n m.step) = _
  rw [ho, h]; rfl

variable {tx : Array Nat}

theorem step_lit {f : FS} {c : Nat} (h0 : fcode.getD f.pc 0 = 16) (h1 : fcode.getD (f.pc + 1) 0 = c) (hp : f.pc < 39) (ha : f.an = none) :
    (fm tx f).step = if f.pos < tx.size ∧ tx.getD f.pos 0 = c then fm tx { f with pc := f.pc + 2, pos := f.pos + 1, sn := f.sn.add 16 } else fm tx { f with an := some false, sn := f.sn.add 16 } := by
  obtain ⟨pc, pos, hd, mrk, lm, li, fr, wt, an, sn⟩ := f
  dsimp only at h0 h1 hp ha ⊢
  subst ha
  unfold M.step fm
  have hs : pc < fcode.size := hp
  simp only [Option.isSome_none, Bool.false_eq_true, if_false, hs, if_true]
  unfold M.exec M.word
  dsimp only
  rw [show fcode.getD (pc + 0) 0 = 16 from h0]
  have : ops[16]? = some Op.LITERAL := rfl
  rw [this]
  dsimp only
  by_cases hlt : pos < tx.size
  · rw [if_neg (by (first | lia | omega))]
    unfold accepts
    simp only [h0, this, h1]
    by_cases hc : tx.getD pos 0 = c
    · rw [if_pos ⟨hlt, hc⟩]
      simp only [hc, beq_self_eq_true]
      unfold itemWidth
      simp only [h0, this]
    · rw [if_neg (fun q => hc q.2)]
      have : (tx.getD pos 0 == c) = false := by simpa using hc
      simp only [this]
      rfl
  · rw [if_pos (by (first | lia | omega)), if_neg (by simp [hlt])]
    rfl

theorem lits : ∀ (cs : List Nat) (f : FS), f.an = none → f.pc + 2 * cs.length ≤ 39 → (∀ i, (h : i < cs.length) → fcode.getD (f.pc + 2 * i) 0 = 16 ∧ fcode.getD (f.pc + 2 * i + 1) 0 = cs[i]) →
    ∃ k sn, k ≤ cs.length ∧ ((cs.isPrefixOf (tx.toList.drop f.pos) = true ∧ Rch (fm tx f) (fm tx { f with pc := f.pc + 2 * cs.length, pos := f.pos + cs.length, sn := sn }) k) ∨
      (cs.isPrefixOf (tx.toList.drop f.pos) = false ∧ ∃ pc pos, Rch (fm tx f) (fm tx { f with pc := pc, pos := pos, an := some false, sn := sn }) k))
  | [], f, ha, hl, hc => ⟨0, f.sn, Nat.le_refl _, .inl ⟨by simp, Rch.refl _⟩⟩
  | c :: cs, f, ha, hl, hc => by
    have h0 := hc 0 (by simp)
    simp only [Nat.mul_zero, Nat.add_zero, List.getElem_cons_zero] at h0
    simp only [List.length_cons] at hl
    have st := step_lit (tx := tx) h0.1 h0.2 (by (first | lia | omega)) ha
    have ho : (fm tx f).outcome.isSome = false := rfl
    by_cases hlt : f.pos < tx.size ∧ tx.getD f.pos 0 = c
    · rw [if_pos hlt] at st
      obtain ⟨k, sn, hk, r⟩ := lits cs { f with pc := f.pc + 2, pos := f.pos + 1, sn := f.sn.add 16 } ha (by dsimp only; (first | lia | omega)) (fun i h => by
        have := hc (i + 1) (by simpa using h)
        simp only [List.getElem_cons_succ] at this
        dsimp only
        rw [show f.pc + 2 + 2 * i = f.pc + 2 * (i + 1) by (first | lia | omega)]
        exact this)
      have e : tx.toList.drop f.pos = c :: tx.toList.drop (f.pos + 1) := by
        rw [List.drop_eq_getElem_cons (by simpa using hlt.1)]
        congr 1
        have := hlt.2
        simp only [Array.getD, hlt.1, dif_pos] at this
        simpa using this
      refine ⟨1 + k, sn, by simp only [List.length_cons]; (first | lia | omega), ?_⟩
      rw [e]
      simp only [List.isPrefixOf, beq_self_eq_true, Bool.true_and]
      rcases r with ⟨q, r⟩ | ⟨q, pc, pos, r⟩
      · refine .inl ⟨q, ?_⟩
        have z := (Rch.one ho st).trans r
        dsimp only at z
        simp only [List.length_cons]
        rw [show f.pc + 2 * (cs.length + 1) = f.pc + 2 + 2 * cs.length by (first | lia | omega), show f.pos + (cs.length + 1) = f.pos + 1 + cs.length by (first | lia | omega)]
        exact z
      · exact .inr ⟨q, pc, pos, (Rch.one ho st).trans r⟩
    · rw [if_neg hlt] at st
      refine ⟨1, f.sn.add 16, by simp, .inr ⟨?_, f.pc, f.pos, Rch.one ho st⟩⟩
      cases q : tx.toList.drop f.pos with
      | nil => rfl
      | cons d r =>
        have hlt' : f.pos < tx.size := by
          rcases Nat.lt_or_ge f.pos tx.size with h | h
          · exact h
          · rw [List.drop_of_length_le (by simpa using h)] at q; cases q
        have e : tx.getD f.pos 0 = d := by
          rw [List.drop_eq_getElem_cons (by simpa using hlt')] at q
          injection q with q _
          simp only [Array.getD, hlt', dif_pos]
          simpa using q
        simp only [List.isPrefixOf]
        have : (c == d) = false := by
          rw [beq_eq_false_iff_ne]; rintro rfl
          exact hlt ⟨hlt', e⟩
        rw [this, Bool.false_and]
end Mine
end
section
open PySem PySem.W PyProof.Rows
set_option maxRecDepth 100000
set_option linter.unusedVariables false
namespace Mine
open PySem.Sre
variable {tx : Array Nat}

theorem run_ok {i : Nat} {P : Nat → Bool} (hP : ∀ c sn, accepts fcode i c sn = .ok (P c, sn)) : ∀ (n p found : Nat) (sn : Sre.Seen), p + n = tx.size →
    Sre.run fcode tx i n p found sn = .ok (found + ((tx.toList.drop p).takeWhile P).length, sn)
  | 0, p, found, sn, h => by
    unfold Sre.run
    rw [List.drop_of_length_le (by simp; (first | lia | omega))]; rfl
  | n + 1, p, found, sn, h => by
    have hlt : p < tx.size := by (first | lia | omega)
    have e : tx.toList.drop p = tx.getD p 0 :: tx.toList.drop (p + 1) := by
      rw [List.drop_eq_getElem_cons (by simpa using hlt)]
      congr 1
      simp only [Array.getD, hlt, dif_pos]; simp
    unfold Sre.run
    rw [hP]
    simp only [bind, Except.bind]
    rw [e]
    by_cases q : P (tx.getD p 0) = true
    · rw [q]
      rw [if_pos rfl, run_ok hP n (p + 1) (found + 1) sn (by (first | lia | omega))]
      rw [List.takeWhile_cons, q, if_pos rfl]
      simp only [List.length_cons]
      congr 2; (first | lia | omega)
    · rw [Bool.not_eq_true] at q
      rw [q, if_neg (by decide), List.takeWhile_cons, q, if_neg (by decide)]
      rfl

theorem acc_any (c : Nat) (sn : Sre.Seen) : accepts fcode 9 c sn = .ok (c != 10, sn) := rfl
theorem acc_not (c : Nat) (sn : Sre.Seen) : accepts fcode 31 c sn = .ok (c != 41, sn) := rfl

noncomputable def gb (pc pos n : Nat) (lm li : Int) : Sre.Frame := { wait := .giveBack, pc := pc, pos := pos, outermost := true, count := n, kept := { lastmark := lm, lastindex := li } }

theorem step_rep5 {f : FS} {n : Nat} (h0 : f.pc = 5) (ha : f.an = none) (hw : f.wt < 100) (hp : f.pos ≤ tx.size) (hs : tx.size ≤ 16777216) (hn : ((tx.toList.drop f.pos).takeWhile (fun c => c != 10)).length = n) :
    ∃ sn, (fm tx f).step = fm tx { f with pc := 11, pos := f.pos + n, hd := f.pos + n, fr := gb 5 (f.pos + n) n f.lm f.li :: f.fr, wt := f.wt + 1, sn := sn } := by
  obtain ⟨pc, pos, hd, mrk, lm, li, fr, wt, an, sn⟩ := f
  dsimp only at h0 ha hw hp hn ⊢
  subst ha h0 hn
  refine ⟨(sn.add 24).add 2, ?_⟩
  unfold M.step fm
  have hsz : 5 < fcode.size := by decide
  simp only [Option.isSome_none, Bool.false_eq_true, if_false, hsz, if_true]
  unfold M.exec M.word
  have w0 : fcode.getD (5 + 0) 0 = 24 := rfl
  have w1 : fcode.getD (5 + 1) 0 = 5 := rfl
  have w2 : fcode.getD (5 + 2) 0 = 0 := rfl
  have w3 : fcode.getD (5 + 3) 0 = 4294967295 := rfl
  have w4 : fcode.getD (5 + 4) 0 = 2 := rfl
  have o : ops[24]? = some Op.REPEAT_ONE := rfl
  simp only [w0, o, w2, w3, w4]
  rw [if_neg (by (first | lia | omega))]
  have : min 4294967295 ((tx.size : Int) - (pos : Int)).toNat = tx.size - pos := by (first | lia | omega)
  simp only [Bool.false_eq_true, if_false, this]
  rw [run_ok (P := fun c => c != 10) acc_any _ _ _ _ (by (first | lia | omega))]
  simp only [Nat.zero_add, Nat.not_lt_zero, if_false]
  unfold M.afterRun M.attempt M.frame M.word M.keep
  simp only [w1, Option.isSome_none, Bool.false_eq_true, if_false, List.size_toArray, List.length_nil, Nat.add_zero]
  rw [if_neg (by (first | lia | omega))]
  rfl

theorem step_rep27 {f : FS} {n : Nat} (h0 : f.pc = 27) (ha : f.an = none) (hw : f.wt < 100) (hp : f.pos ≤ tx.size) (hs : tx.size ≤ 16777216) (hn : ((tx.toList.drop f.pos).takeWhile (fun c => c != 41)).length = n) :
    ∃ sn, (fm tx f).step = fm tx { f with pc := 34, pos := f.pos + n, hd := f.pos + n, fr := gb 27 (f.pos + n) n f.lm f.li :: f.fr, wt := f.wt + 1, sn := sn } := by
  obtain ⟨pc, pos, hd, mrk, lm, li, fr, wt, an, sn⟩ := f
  dsimp only at h0 ha hw hp hn ⊢
  subst ha h0 hn
  refine ⟨(sn.add 24).add 20, ?_⟩
  unfold M.step fm
  have hsz : 27 < fcode.size := by decide
  simp only [Option.isSome_none, Bool.false_eq_true, if_false, hsz, if_true]
  unfold M.exec M.word
  have w0 : fcode.getD (27 + 0) 0 = 24 := rfl
  have w1 : fcode.getD (27 + 1) 0 = 6 := rfl
  have w2 : fcode.getD (27 + 2) 0 = 0 := rfl
  have w3 : fcode.getD (27 + 3) 0 = 4294967295 := rfl
  have w4 : fcode.getD (27 + 4) 0 = 20 := rfl
  have o : ops[24]? = some Op.REPEAT_ONE := rfl
  simp only [w0, o, w2, w3, w4]
  rw [if_neg (by (first | lia | omega))]
  have : min 4294967295 ((tx.size : Int) - (pos : Int)).toNat = tx.size - pos := by (first | lia | omega)
  simp only [Bool.false_eq_true, if_false, this]
  rw [run_ok (P := fun c => c != 41) acc_not _ _ _ _ (by (first | lia | omega))]
  simp only [Nat.zero_add, Nat.not_lt_zero, if_false]
  unfold M.afterRun M.attempt M.frame M.word M.keep
  simp only [w1, Option.isSome_none, Bool.false_eq_true, if_false, List.size_toArray, List.length_nil, Nat.add_zero]
  rw [if_neg (by (first | lia | omega))]
  rfl

theorem step_mark0 {f : FS} (h0 : f.pc = 25) (ha : f.an = none) (hl : f.lm = -1) : ∃ sn, (fm tx f).step = fm tx { f with pc := 27, mrk := f.mrk.setIfInBounds 0 (some f.pos), lm := 0, sn := sn } := by
  obtain ⟨pc, pos, hd, mrk, lm, li, fr, wt, an, sn⟩ := f
  dsimp only at h0 ha hl ⊢
  subst ha h0 hl
  exact ⟨_, rfl⟩
theorem step_mark1 {f : FS} (h0 : f.pc = 34) (ha : f.an = none) (hl : f.lm = 0) : ∃ sn, (fm tx f).step = fm tx { f with pc := 36, mrk := f.mrk.setIfInBounds 1 (some f.pos), lm := 1, li := 1, sn := sn } := by
  obtain ⟨pc, pos, hd, mrk, lm, li, fr, wt, an, sn⟩ := f
  dsimp only at h0 ha hl ⊢
  subst ha h0 hl
  refine ⟨sn.add 17, ?_⟩
  unfold M.step fm
  have hsz : 34 < fcode.size := by decide
  simp only [Option.isSome_none, Bool.false_eq_true, if_false, hsz, if_true]
  unfold M.exec M.word
  have w0 : fcode.getD (34 + 0) 0 = 17 := rfl
  have w1 : fcode.getD (34 + 1) 0 = 1 := rfl
  have o : ops[17]? = some Op.MARK := rfl
  simp only [w0, w1, o]
  unfold M.mark
  have c1 : (((1 : Nat) : Int) ≤ (0 : Int) + 1) := by decide
  simp only [c1, if_true]
  rfl
theorem step_succ {f : FS} (h0 : f.pc = 38) (ha : f.an = none) : ∃ sn, (fm tx f).step = fm tx { f with hd := f.pos, an := some true, sn := sn } := by
  obtain ⟨pc, pos, hd, mrk, lm, li, fr, wt, an, sn⟩ := f
  dsimp only at h0 ha ⊢
  subst ha h0
  exact ⟨_, rfl⟩
theorem step_yes {f : FS} {pc pos n : Nat} {lm li : Int} {r : List Sre.Frame} (hf : f.fr = gb pc pos n lm li :: r) (ha : f.an = some true) : ∃ wt, (fm tx f).step = fm tx { f with pc := pc, pos := pos, fr := r, wt := wt } := by
  obtain ⟨pc, pos, hd, mrk, lm, li, fr, wt, an, sn⟩ := f
  dsimp only at hf ha ⊢
  subst ha hf
  exact ⟨_, rfl⟩
theorem step_no {f : FS} {pc pos n : Nat} {lm li : Int} {r : List Sre.Frame} (hf : f.fr = gb pc pos (n + 1) lm li :: r) (ha : f.an = some false) (hw : f.wt < 100) (h1 : fcode.getD (pc + 2) 0 = 0) (hwt : 1 ≤ f.wt) :
    (fm tx f).step = fm tx { f with pc := pc + 1 + fcode.getD (pc + 1) 0, pos := pos - 1, hd := pos - 1, lm := lm, li := li, fr := gb pc (pos - 1) n lm li :: r, an := none } := by
  obtain ⟨pc', pos', hd, mrk, lm', li', fr, wt, an, sn⟩ := f
  dsimp only at hf ha hw hwt ⊢
  subst ha hf
  unfold M.step fm
  simp only [Option.isSome_none, Bool.false_eq_true, if_false]
  unfold M.resume gb M.putBack M.word
  simp only [h1, Bool.false_eq_true, if_false]
  rw [if_neg (by (first | lia | omega))]
  unfold M.afterRun M.attempt M.frame M.word
  simp only [List.size_toArray, List.length_nil, Nat.add_zero]
  rw [if_neg (by (first | lia | omega))]
  have e1 : (((n + 1 : Nat) : Int) - 1) = (n : Int) := by (first | lia | omega)
  have e2 : wt - 1 + 1 = wt := by (first | lia | omega)
  simp only [e1, e2]
theorem step_end {f : FS} {pc pos : Nat} {lm li : Int} {r : List Sre.Frame} (hf : f.fr = gb pc pos 0 lm li :: r) (ha : f.an = some false) (h1 : fcode.getD (pc + 2) 0 = 0) :
    ∃ wt, (fm tx f).step = fm tx { f with pc := pc, pos := pos, lm := lm, li := li, fr := r, an := some false, wt := wt } ∧ wt = f.wt - 1 := by
  obtain ⟨pc', pos', hd, mrk, lm', li', fr, wt, an, sn⟩ := f
  dsimp only at hf ha ⊢
  subst ha hf
  refine ⟨wt - 1, ?_, rfl⟩
  unfold M.step fm
  simp only [Option.isSome_none, Bool.false_eq_true, if_false]
  unfold M.resume gb M.putBack M.word
  simp only [h1, Bool.false_eq_true, if_false]
  rw [if_pos (by decide)]
  rfl
end Mine
end
section
open PySem PySem.W PyProof.Rows
set_option maxRecDepth 100000
set_option linter.unusedVariables false
namespace Mine
open PySem.Sre
variable {tx : Array Nat}

theorem fo (f : FS) : (fm tx f).outcome.isSome = false := rfl
theorem lit41 {f : FS} (h0 : f.pc = 36) (ha : f.an = none) : (f.pos < tx.size ∧ tx.getD f.pos 0 = 41 ∧ ∃ sn, (fm tx f).step = fm tx { f with pc := 38, pos := f.pos + 1, sn := sn }) ∨
    (¬ (f.pos < tx.size ∧ tx.getD f.pos 0 = 41) ∧ ∃ sn, (fm tx f).step = fm tx { f with an := some false, sn := sn }) := by
  obtain ⟨pc, pos, hd, mrk, lm, li, fr, wt, an, sn⟩ := f
  dsimp only at h0 ha ⊢
  subst h0
  have := step_lit (tx := tx) (f := ⟨36, pos, hd, mrk, lm, li, fr, wt, an, sn⟩) (c := 41) rfl rfl (show 36 < 39 by decide) ha
  by_cases h : pos < tx.size ∧ tx.getD pos 0 = 41
  · rw [if_pos h] at this; exact .inl ⟨h.1, h.2, _, this⟩
  · rw [if_neg h] at this; exact .inr ⟨h, _, this⟩

noncomputable def IbP (tx : Array Nat) (q : Nat) (li : Int) (r : List Sre.Frame) (m : Nat) : Prop := ∀ (f : FS), f.pc = 34 → f.pos = q + m → f.fr = gb 27 (q + m) m 0 li :: r → f.lm = 0 → f.an = none → f.wt < 100 → 1 ≤ f.wt → f.mrk.size = 2 →
    (∀ j, j ≤ m → ¬ (q + j < tx.size ∧ tx.getD (q + j) 0 = 41)) → ∃ k f', k ≤ 3 * (m + 1) ∧ Rch (fm tx f) (fm tx f') k ∧ f'.an = some false ∧ f'.fr = r ∧ f'.wt = f.wt - 1 ∧ f'.mrk.size = 2
theorem ib_step (q : Nat) (li : Int) (r : List Sre.Frame) (m : Nat) (ih : ∀ n, m = n + 1 → IbP tx q li r n) : IbP tx q li r m := by
  intro f hpc hpos hfr hlm han hw hw1 hmk hno
  obtain ⟨sn1, s1⟩ := step_mark1 (tx := tx) hpc han hlm
  have r1 := Rch.one (fo f) s1
  rcases lit41 (tx := tx) (f := { f with pc := 36, mrk := f.mrk.setIfInBounds 1 (some f.pos), lm := 1, li := 1, sn := sn1 }) rfl han with ⟨a, b, _⟩ | ⟨_, sn2, s2⟩
  · dsimp only at a b
    rw [hpos] at a b
    exact absurd ⟨a, b⟩ (hno m (Nat.le_refl _))
  · have r2 := r1.trans (Rch.one (fo _) s2)
    cases m with
    | zero =>
      obtain ⟨wt, s3, hwt⟩ := step_end (tx := tx) (f := { f with pc := 36, mrk := f.mrk.setIfInBounds 1 (some f.pos), lm := 1, li := 1, an := some false, sn := sn2 }) hfr rfl (by decide)
      exact ⟨_, _, by (first | lia | omega), r2.trans (Rch.one (fo _) s3), rfl, rfl, by dsimp only at hwt ⊢; exact hwt, by simpa using hmk⟩
    | succ m =>
      have s3 := step_no (tx := tx) (f := { f with pc := 36, mrk := f.mrk.setIfInBounds 1 (some f.pos), lm := 1, li := 1, an := some false, sn := sn2 }) hfr rfl hw (by decide) hw1
      obtain ⟨k, f', hk, r3, a1, a2, a3, a4⟩ := ih m rfl { f with pc := 27 + 1 + fcode.getD (27 + 1) 0, pos := q + (m + 1) - 1, hd := q + (m + 1) - 1, mrk := f.mrk.setIfInBounds 1 (some f.pos), lm := 0, li := li, fr := gb 27 (q + (m + 1) - 1) m 0 li :: r, an := none, sn := sn2 } rfl (by show q + (m + 1) - 1 = q + m; (first | lia | omega)) (by show gb 27 (q + (m + 1) - 1) m 0 li :: r = _; rw [show q + (m + 1) - 1 = q + m by (first | lia | omega)]) rfl rfl hw hw1 (by simpa using hmk) (fun j hj => hno j (by (first | lia | omega)))
      exact ⟨_, f', by (first | lia | omega), (r2.trans (Rch.one (fo _) s3)).trans r3, a1, a2, a3, a4⟩
theorem inner_back (q : Nat) (li : Int) (r : List Sre.Frame) : ∀ (m : Nat), IbP tx q li r m
  | 0 => ib_step q li r 0 (fun _ h => nomatch h)
  | m + 1 => ib_step q li r (m + 1) (fun n h => Nat.succ.inj h ▸ inner_back q li r m)

noncomputable def lit7 : List Nat := [70, 76, 65, 71, 83, 32, 40]
noncomputable def runL (l : List Nat) (p : Nat) : Nat := ((l.drop p).takeWhile (fun c => c != 41)).length
noncomputable def hitAt (l : List Nat) (p : Nat) : Option Nat := if lit7.isPrefixOf (l.drop p) && decide (p + 7 + runL l (p + 7) < l.length) then some (runL l (p + 7)) else none

theorem getD_toList (tx : Array Nat) (p : Nat) (h : p < tx.size) : tx.toList[p]? = some (tx.getD p 0) := by
  rw [List.getElem?_eq_getElem (by simpa using h)]
  simp only [Array.getD, h, dif_pos]; simp

theorem run_stop (tx : Array Nat) (q : Nat) (h : q + runL tx.toList q < tx.size) : tx.getD (q + runL tx.toList q) 0 = 41 := by
  unfold runL at h ⊢
  have key : ∀ (l : List Nat), (l.takeWhile (fun c => c != 41)).length < l.length → l[(l.takeWhile (fun c => c != 41)).length]? = some 41 := by
    intro l
    induction l with
    | nil => intro h; simp at h
    | cons c r ih =>
      intro h
      rw [List.takeWhile_cons] at h ⊢
      by_cases hc : (c != 41) = true
      · rw [if_pos hc] at h ⊢
        simp only [List.length_cons] at h ⊢
        rw [List.getElem?_cons_succ]; exact ih (by (first | lia | omega))
      · rw [if_neg hc]
        simp only [List.length_nil, List.getElem?_cons_zero]
        simp at hc; rw [hc]
  have := key (tx.toList.drop q) (by simp only [List.length_drop, Array.length_toList]; (first | lia | omega))
  rw [List.getElem?_drop, getD_toList tx _ h] at this
  exact Option.some.inj this
theorem run_before (tx : Array Nat) (q j : Nat) (h : j < runL tx.toList q) : ¬ (q + j < tx.size ∧ tx.getD (q + j) 0 = 41) := by
  rintro ⟨h1, h2⟩
  have key : ∀ (l : List Nat) (j : Nat), j < (l.takeWhile (fun c => c != 41)).length → l[j]? ≠ some 41 := by
    intro l
    induction l with
    | nil => intro j h; simp at h
    | cons c r ih =>
      intro j h
      rw [List.takeWhile_cons] at h
      by_cases hc : (c != 41) = true
      · rw [if_pos hc] at h
        simp only [List.length_cons] at h
        cases j with
        | zero => simp at hc ⊢; exact hc
        | succ j => rw [List.getElem?_cons_succ]; exact ih j (by (first | lia | omega))
      · rw [if_neg hc] at h; simp at h
  have := key (tx.toList.drop q) j h
  rw [List.getElem?_drop, getD_toList tx _ h1, h2] at this
  exact this rfl
theorem runL_le (tx : Array Nat) (q : Nat) (h : q ≤ tx.size) : q + runL tx.toList q ≤ tx.size := by
  have : runL tx.toList q ≤ (tx.toList.drop q).length := (List.takeWhile_sublist _).length_le
  simp only [List.length_drop, Array.length_toList] at this
  (first | lia | omega)

theorem inner_ok {f : FS} {r : List Sre.Frame} {q : Nat} (hpc : f.pc = 25) (hpos : f.pos = q) (hfr : f.fr = r) (hlm : f.lm = -1) (han : f.an = none) (hw : f.wt < 50) (hmk : f.mrk.size = 2) (hq : q ≤ tx.size) (hs : tx.size ≤ 16777216) :
    ∃ k f', k ≤ 3 * tx.size + 20 ∧ Rch (fm tx f) (fm tx f') k ∧ f'.fr = r ∧ f'.mrk.size = 2 ∧
      ((q + runL tx.toList q < tx.size ∧ f'.an = some true ∧ f'.mrk = #[some q, some (q + runL tx.toList q)] ∧ f'.lm = 1 ∧ f'.li = 1 ∧ f'.hd = q + runL tx.toList q + 1) ∨
       (¬ q + runL tx.toList q < tx.size ∧ f'.an = some false ∧ f'.wt = f.wt)) := by
  obtain ⟨sn1, s1⟩ := step_mark0 (tx := tx) hpc han hlm
  have r1 := Rch.one (fo f) s1
  obtain ⟨sn2, s2⟩ := step_rep27 (tx := tx) (f := { f with pc := 27, mrk := f.mrk.setIfInBounds 0 (some f.pos), lm := 0, sn := sn1 }) (n := runL tx.toList q) rfl han (by dsimp only; (first | lia | omega)) (by dsimp only; (first | lia | omega)) hs (by dsimp only; rw [hpos]; rfl)
  have r2 := r1.trans (Rch.one (fo _) s2)
  have hle := runL_le tx q hq
  dsimp only at r2
  rw [hpos] at r2
  by_cases hlt : q + runL tx.toList q < tx.size
  · obtain ⟨sn3, s3⟩ := step_mark1 (tx := tx) (f := { f with pc := 34, pos := q + runL tx.toList q, hd := q + runL tx.toList q, mrk := f.mrk.setIfInBounds 0 (some q), lm := 0, fr := gb 27 (q + runL tx.toList q) (runL tx.toList q) 0 f.li :: f.fr, wt := f.wt + 1, sn := sn2 }) rfl han rfl
    have r3 := r2.trans (Rch.one (fo _) s3)
    rcases lit41 (tx := tx) (f := { f with pc := 36, pos := q + runL tx.toList q, hd := q + runL tx.toList q, mrk := (f.mrk.setIfInBounds 0 (some q)).setIfInBounds 1 (some (q + runL tx.toList q)), lm := 1, li := 1, fr := gb 27 (q + runL tx.toList q) (runL tx.toList q) 0 f.li :: f.fr, wt := f.wt + 1, sn := sn3 }) rfl han with ⟨_, _, sn4, s4⟩ | ⟨no, _⟩
    · have r4 := r3.trans (Rch.one (fo _) s4)
      obtain ⟨sn5, s5⟩ := step_succ (tx := tx) (f := { f with pc := 38, pos := q + runL tx.toList q + 1, hd := q + runL tx.toList q, mrk := (f.mrk.setIfInBounds 0 (some q)).setIfInBounds 1 (some (q + runL tx.toList q)), lm := 1, li := 1, fr := gb 27 (q + runL tx.toList q) (runL tx.toList q) 0 f.li :: f.fr, wt := f.wt + 1, sn := sn4 }) rfl han
      have r5 := r4.trans (Rch.one (fo _) s5)
      obtain ⟨wt, s6⟩ := step_yes (tx := tx) (f := { f with pc := 38, pos := q + runL tx.toList q + 1, hd := q + runL tx.toList q + 1, mrk := (f.mrk.setIfInBounds 0 (some q)).setIfInBounds 1 (some (q + runL tx.toList q)), lm := 1, li := 1, fr := gb 27 (q + runL tx.toList q) (runL tx.toList q) 0 f.li :: f.fr, wt := f.wt + 1, an := some true, sn := sn5 }) rfl rfl
      have r6 := r5.trans (Rch.one (fo _) s6)
      refine ⟨_, _, by (first | lia | omega), r6, hfr, by simpa using hmk, .inl ⟨hlt, rfl, ?_, rfl, rfl, rfl⟩⟩
      dsimp only
      have two : ∀ (a : Array (Option Nat)) (x y : Option Nat), a.size = 2 → (a.setIfInBounds 0 x).setIfInBounds 1 y = #[x, y] := by
        rintro ⟨l⟩ x y h
        match l, h with
        | [a, b], _ => rfl
      exact two _ _ _ hmk
    · exact absurd ⟨hlt, run_stop tx q hlt⟩ no
  · obtain ⟨k, f', hk, r3, a1, a2, a3, a4⟩ := inner_back (tx := tx) q f.li f.fr (runL tx.toList q) { f with pc := 34, pos := q + runL tx.toList q, hd := q + runL tx.toList q, mrk := f.mrk.setIfInBounds 0 (some q), lm := 0, fr := gb 27 (q + runL tx.toList q) (runL tx.toList q) 0 f.li :: f.fr, wt := f.wt + 1, sn := sn2 }
      rfl rfl rfl rfl han (by dsimp only; (first | lia | omega)) (by dsimp only; (first | lia | omega)) (by simpa using hmk) (fun j hj => by
        rcases Nat.lt_or_eq_of_le hj with h | h
        · exact run_before tx q j h
        · rw [h]; exact fun x => hlt x.1)
    exact ⟨_, f', by (first | lia | omega), r2.trans r3, a2.trans hfr, a4, .inr ⟨hlt, a1, by rw [a3]; rfl⟩⟩

noncomputable def sk (l : List Nat) : Nat → Option (Nat × Nat)
  | 0 => (hitAt l 0).map fun n => (0, n)
  | c + 1 => match hitAt l (c + 1) with
    | some n => some (c + 1, n)
    | none => sk l c

noncomputable def Ended (m : M) (r : Option (Nat × Nat)) : Prop := match r with
  | some (p, n) => m.outcome = some .matched ∧ m.marks = #[some (p + 7), some (p + 7 + n)] ∧ m.lastmark = 1 ∧ m.lastindex = 1 ∧ m.start = 0 ∧ m.handed = p + 7 + n + 1
  | none => m.outcome = some .failed

theorem fin_true {f : FS} (ha : f.an = some true) (hf : f.fr = []) : (fm tx f).step = { fm tx f with outcome := some .matched } := by
  obtain ⟨pc, pos, hd, mrk, lm, li, fr, wt, an, sn⟩ := f
  dsimp only at ha hf
  subst ha hf; rfl
theorem fin_false {f : FS} (ha : f.an = some false) (hf : f.fr = []) : (fm tx f).step = { fm tx f with outcome := some .failed } := by
  obtain ⟨pc, pos, hd, mrk, lm, li, fr, wt, an, sn⟩ := f
  dsimp only at ha hf
  subst ha hf; rfl

theorem hit_none_l {l : List Nat} {p : Nat} (h : lit7.isPrefixOf (l.drop p) = false) : hitAt l p = none := by unfold hitAt; rw [h]; rfl
theorem hit_none_r {l : List Nat} {p : Nat} (h : ¬ p + 7 + runL l (p + 7) < l.length) : hitAt l p = none := by unfold hitAt; rw [decide_eq_false h, Bool.and_false]; rfl
theorem hit_some {l : List Nat} {p : Nat} (h : lit7.isPrefixOf (l.drop p) = true) (h' : p + 7 + runL l (p + 7) < l.length) : hitAt l p = some (runL l (p + 7)) := by unfold hitAt; rw [h, decide_eq_true h']; rfl

noncomputable def OutP (tx : Array Nat) (c : Nat) : Prop := ∀ (f : FS), c ≤ tx.size → f.pc = 11 → f.pos = c → f.fr = [gb 5 c c (-1) (-1)] → f.lm = -1 → f.li = -1 → f.an = none → f.wt = 1 → f.mrk.size = 2 →
    ∃ k m', k ≤ (c + 1) * (3 * tx.size + 40) ∧ Rch (fm tx f) m' k ∧ Ended m' (sk tx.toList c)
theorem out_step (hs : tx.size ≤ 16777216) (c : Nat) (ih : ∀ n, c = n + 1 → OutP tx n) : OutP tx c := by
  intro f hc hpc hpos hfr hlm hli han hw hmk
  have fail : hitAt tx.toList c = none → ∀ (k : Nat) (f' : FS), k ≤ 3 * tx.size + 30 → Rch (fm tx f) (fm tx f') k → f'.fr = [gb 5 c c (-1) (-1)] → f'.an = some false → f'.wt = 1 → f'.mrk.size = 2 →
      ∃ k m', k ≤ (c + 1) * (3 * tx.size + 40) ∧ Rch (fm tx f) m' k ∧ Ended m' (sk tx.toList c) := by
    intro hn k f' hk r hfr' han' hw' hmk'
    cases c with
    | zero =>
      obtain ⟨wt, s1, _⟩ := step_end (tx := tx) hfr' han' (by decide)
      have r1 := r.trans (Rch.one (fo _) s1)
      have r2 := r1.trans (Rch.one (fo _) (fin_false (tx := tx) rfl rfl))
      refine ⟨_, _, by (first | lia | omega), r2, ?_⟩
      unfold sk; rw [hn]; rfl
    | succ c =>
      have s1 := step_no (tx := tx) hfr' han' (by (first | lia | omega)) (by decide) (by (first | lia | omega))
      obtain ⟨k', m', hk', r', e'⟩ := ih c rfl { f' with pc := 5 + 1 + fcode.getD (5 + 1) 0, pos := c + 1 - 1, hd := c + 1 - 1, lm := -1, li := -1, fr := [gb 5 (c + 1 - 1) c (-1) (-1)], an := none } (by (first | lia | omega)) rfl rfl rfl rfl rfl rfl hw' hmk'
      refine ⟨_, m', ?_, (r.trans (Rch.one (fo _) s1)).trans r', ?_⟩
      · have e : (c + 1 + 1) * (3 * tx.size + 40) = (c + 1) * (3 * tx.size + 40) + (3 * tx.size + 40) := by rw [Nat.add_mul, Nat.one_mul]
        (first | lia | omega)
      · unfold sk; rw [hn]; exact e'
  obtain ⟨k, sn, hk, r⟩ := lits (tx := tx) lit7 f han (by rw [hpc]; decide) (by rw [hpc]; decide)
  have hk7 : k ≤ 7 := hk
  rw [hpos] at r
  rcases r with ⟨h1, r⟩ | ⟨h1, pc, pos, r⟩
  · have hq : c + 7 ≤ tx.size := by
      have : lit7.length ≤ (tx.toList.drop c).length := (List.isPrefixOf_iff_prefix.mp h1).length_le
      simp only [List.length_drop, Array.length_toList] at this
      have e7 : lit7.length = 7 := rfl
      (first | lia | omega)
    obtain ⟨k', f', hk', r', a1, a2, a3⟩ := inner_ok (tx := tx) (r := f.fr) (q := c + 7) (f := { f with pc := f.pc + 2 * lit7.length, pos := c + lit7.length, sn := sn }) (by dsimp only; rw [hpc]; rfl) rfl rfl hlm han (by dsimp only; (first | lia | omega)) hmk hq hs
    rcases a3 with ⟨b1, b2, b3, b4, b5, b6⟩ | ⟨b1, b2, b3⟩
    · obtain ⟨wt, s1⟩ := step_yes (tx := tx) (a1.trans hfr) b2
      have r2 := ((r.trans r').trans (Rch.one (fo _) s1)).trans (Rch.one (fo _) (fin_true (tx := tx) b2 rfl))
      refine ⟨_, _, ?_, r2, ?_⟩
      · have : 1 * (3 * tx.size + 40) ≤ (c + 1) * (3 * tx.size + 40) := Nat.mul_le_mul_right _ (by (first | lia | omega))
        (first | lia | omega)
      · have hh : hitAt tx.toList c = some (runL tx.toList (c + 7)) := hit_some h1 (by simpa using b1)
        have : sk tx.toList c = some (c, runL tx.toList (c + 7)) := by cases c with
          | zero => unfold sk; rw [hh]; rfl
          | succ c => unfold sk; rw [hh]
        rw [this]
        exact ⟨rfl, b3, b4, b5, rfl, b6⟩
    · exact fail (hit_none_r (by simpa using b1)) _ f' (by (first | lia | omega)) (r.trans r') (a1.trans hfr) b2 (by rw [b3]; exact hw) a2
  · exact fail (hit_none_l h1) _ _ (by (first | lia | omega)) r hfr rfl hw hmk
theorem outer_ok (hs : tx.size ≤ 16777216) : ∀ (c : Nat), OutP tx c
  | 0 => out_step hs 0 (fun _ h => nomatch h)
  | c + 1 => out_step hs (c + 1) (fun n h => Nat.succ.inj h ▸ outer_ok hs c)
end Mine
end
section
open PySem PySem.W PyProof.Rows
set_option maxRecDepth 100000
set_option linter.unusedVariables false
namespace Mine
open PySem.Sre
variable {tx : Array Nat}

noncomputable def lineL (l : List Nat) : Nat := (l.takeWhile (fun c => c != 10)).length
noncomputable def skF (l : List Nat) : Option (Nat × Nat) := sk l (lineL l)

theorem hit_short {l : List Nat} (h : l.length < 8) (p : Nat) : hitAt l p = none := by
  unfold hitAt
  cases e : lit7.isPrefixOf (l.drop p) && decide (p + 7 + runL l (p + 7) < l.length) with
  | false => rfl
  | true =>
    obtain ⟨a, b⟩ := Bool.and_eq_true_iff.mp e
    have a' : lit7.length ≤ (l.drop p).length := (List.isPrefixOf_iff_prefix.mp a).length_le
    have b' := of_decide_eq_true b
    simp only [List.length_drop] at a'
    have : lit7.length = 7 := rfl
    (first | lia | omega)
theorem sk_short {l : List Nat} (h : l.length < 8) : ∀ c, sk l c = none
  | 0 => by unfold sk; rw [hit_short h]; rfl
  | c + 1 => by unfold sk; rw [hit_short h]; exact sk_short h c

noncomputable def m0 (tx : Array Nat) : M := Sre.forMatch fcode tx 1 0 tx.size false false
noncomputable def f0 : FS := { pc := 5, pos := 0, hd := 0, mrk := Array.replicate 2 none, lm := -1, li := -1, fr := [], wt := 0, an := none, sn := ({} : Sre.Seen).add 14 }
theorem m0_eq (tx : Array Nat) : m0 tx = if tx.size < 8 then fm tx { f0 with an := some false } else fm tx f0 := by
  unfold m0 Sre.forMatch
  have : header fcode = (8, 5) := rfl
  simp only [this]
  by_cases h : tx.size < 8
  · rw [if_pos h, if_pos (by simp [h])]; rfl
  · rw [if_neg h, if_neg (by simp; (first | lia | omega))]; rfl

theorem sre_ok (hs : tx.size ≤ 16777216) : ∃ k m', k ≤ 2 ^ 60 ∧ M.runFor k (m0 tx) = m' ∧ m'.outcome.isSome = true ∧ Ended m' (skF tx.toList) := by
  rw [m0_eq]
  have fin : ∀ {m' : M} {r}, Ended m' r → m'.outcome.isSome = true := by
    intro m' r h
    cases r with
    | none => rw [show m'.outcome = _ from h]; rfl
    | some p => obtain ⟨p, n⟩ := p; rw [show m'.outcome = _ from h.1]; rfl
  have run : ∀ {m m' : M} {k : Nat}, Rch m m' k → M.runFor k m = m' := fun r => by have := r 0; exact this
  by_cases h : tx.size < 8
  · rw [if_pos h]
    have r := Rch.one (fo _) (fin_false (tx := tx) (f := { f0 with an := some false }) rfl rfl)
    refine ⟨1, _, by decide, run r, rfl, ?_⟩
    unfold skF
    rw [sk_short (by simpa using h)]
    rfl
  · rw [if_neg h]
    obtain ⟨sn, s1⟩ := step_rep5 (tx := tx) (f := f0) (n := lineL tx.toList) rfl rfl (by decide) (Nat.zero_le _) hs rfl
    have hl : lineL tx.toList ≤ tx.size := by
      have : lineL tx.toList ≤ tx.toList.length := (List.takeWhile_sublist _).length_le
      simpa using this
    obtain ⟨k, m', hk, r, e⟩ := outer_ok (tx := tx) hs (lineL tx.toList) { f0 with pc := 11, pos := lineL tx.toList, hd := lineL tx.toList, fr := [gb 5 (lineL tx.toList) (lineL tx.toList) (-1) (-1)], wt := 1, sn := sn } hl rfl rfl rfl rfl rfl rfl rfl rfl
    have s1' : (fm tx f0).step = fm tx { f0 with pc := 11, pos := lineL tx.toList, hd := lineL tx.toList, fr := [gb 5 (lineL tx.toList) (lineL tx.toList) (-1) (-1)], wt := 1, sn := sn } := by
      rw [s1]
      show fm tx { f0 with pc := 11, pos := 0 + lineL tx.toList, hd := 0 + lineL tx.toList, fr := [gb 5 (0 + lineL tx.toList) (lineL tx.toList) (-1) (-1)], wt := 0 + 1, sn := sn } = _
      rw [Nat.zero_add]
    have r' := (Rch.one (fo _) s1').trans r
    refine ⟨1 + k, m', ?_, run r', fin e, e⟩
    have : (lineL tx.toList + 1) * (3 * tx.size + 40) ≤ 16777217 * (3 * 16777216 + 40) := Nat.mul_le_mul (by (first | lia | omega)) (by (first | lia | omega))
    have : 16777217 * (3 * 16777216 + 40) + 1 ≤ 2 ^ 60 := by decide
    (first | lia | omega)

theorem runFor_done {m : M} (h : m.outcome.isSome = true) : ∀ n, M.runFor n m = m
  | 0 => rfl
  | n + 1 => by unfold M.runFor; rw [h, if_pos rfl]
theorem runFor_add (m : M) : ∀ (a b : Nat), M.runFor (a + b) m = M.runFor b (M.runFor a m)
  | 0, b => by rw [Nat.zero_add]; rfl
  | a + 1, b => by
    rw [Nat.add_right_comm]
    cases h : m.outcome.isSome with
    | true => rw [runFor_done h, runFor_done h, runFor_done h]
    | false =>
      have : ∀ n, M.runFor (n + 1) m = M.runFor n m.step := fun n => by
        show (if m.outcome.isSome then m else _) = _
        rw [h]; rfl
      rw [this, this, runFor_add m.step a b]

section
variable {M : Model} {A : Around} {E : Value → Shared → Prop} {s : Shared}
theorem drive_ok {Q : Sre.M → Shared → Prop} {m' : Sre.M} (hq : Q m' s) (hd : m'.outcome.isSome = true) : ∀ (T k : Nat) (m : Sre.M), Sre.M.runFor k m = m' → k ≤ 4 * T → 1 ≤ T → wpAny M A (Builtin.Re.reDrive T m) Q E s
  | 0, _, _, _, _, h => absurd h (by decide)
  | T + 1, k, m, hr, hk, _ => by
    unfold Builtin.Re.reDrive
    dsimp only
    by_cases h4 : k ≤ Builtin.Re.reTurnSteps
    · have : Sre.M.runFor Builtin.Re.reTurnSteps m = m' := by
        obtain ⟨j, hj⟩ := Nat.le.dest h4
        rw [← hj, runFor_add, hr, runFor_done hd]
      rw [this, hd, if_pos rfl]
      exact wpAny_pure hq
    · have e4 : Builtin.Re.reTurnSteps = 4 := rfl
      cases h : (Sre.M.runFor Builtin.Re.reTurnSteps m).outcome.isSome with
      | true =>
        rw [if_pos rfl]
        obtain ⟨j, hj⟩ := Nat.le.dest (Nat.le_of_lt (Nat.lt_of_not_ge h4))
        rw [← hj, runFor_add, runFor_done h] at hr
        rw [hr]
        exact wpAny_pure hq
      | false =>
        rw [if_neg (by decide)]
        refine wpAny_bind (wpAny_rule ?_)
        obtain ⟨j, hj⟩ := Nat.le.dest (Nat.le_of_lt (Nat.lt_of_not_ge h4))
        have hj' : Builtin.Re.reTurnSteps + j = k := hj
        rw [← hj', runFor_add] at hr
        exact drive_ok hq hd T j _ hr (by (first | lia | omega)) (by (first | lia | omega))

theorem rules_ok (l : List Nat) (p : Nat → Bool) (f : Nat → String) {Q : PUnit → Shared → Prop} (h : Q ⟨⟩ s) : wpAny M A (forIn l PUnit.unit fun i _ => if p i then do rule (f i); pure (ForInStep.yield PUnit.unit) else pure (ForInStep.yield PUnit.unit)) Q E s := by
  induction l with
  | nil => exact wpAny_pure h
  | cons x r ih =>
    rw [List.forIn_cons]
    by_cases hp : p x = true
    · rw [if_pos hp]; exact wpAny_bind (wpAny_bind (wpAny_rule (wpAny_pure ih)))
    · rw [if_neg hp]; exact wpAny_bind (wpAny_pure ih)

theorem toEnd_ok {m m' : Sre.M} {k : Nat} (hr : Sre.M.runFor k m = m') (hk : k ≤ 2 ^ 60) (hd : m'.outcome.isSome = true) {r : Option (Nat × Nat)} (he : Ended m' r) {Q : Option Sre.M → Shared → Prop} (h : Q (r.map fun _ => m') s) :
    wpAny M A (Builtin.Re.reRunToEnd m) Q E s := by
  unfold Builtin.Re.reRunToEnd
  refine wpAny_bind (drive_ok ?_ hd (2 ^ 64) k m hr (by (first | lia | omega)) (by decide))
  refine wpAny_bind (rules_ok _ _ _ ?_)
  cases r with
  | none => rw [show m'.outcome = _ from he]; exact wpAny_pure h
  | some p => obtain ⟨p, n⟩ := p; rw [show m'.outcome = _ from he.1]; exact wpAny_pure h
end
end Mine
end
section
open PySem PySem.W PyProof.Rows
set_option maxRecDepth 100000
set_option linter.unusedVariables false
namespace Mine
open Builtin.Re
theorem textOf_bytes (b : Array UInt8) (t : Tok) : reTextOf (.bytes b t) = pure (b.map (·.toNat), 1) := by kernel_rfl
theorem coll_bytes (b : Array UInt8) (t : Tok) : reNoCollectionInside (.bytes b t) 1 = pure () := by kernel_rfl
theorem named_one (v : Value) : reNamed "re.Pattern.match" "match" ["string", "pos", "endpos"] 1 [v] [] = pure [some v, none, none] := by kernel_rfl
theorem slot_match : Slot "re.Pattern" "match" "re.Pattern.match" :=
  .of (owner := "re.Pattern") (n := "match") (by rw [typeLookup_type, builtinLookup_eq_fast]; kernel_rfl) (by decide +kernel) (by decide +kernel) (by decide +kernel)
    (by first | exact .inl (by decide +kernel) | exact .inr (by decide +kernel)) (by rw [isSubtype_type]; kernel_rfl)
theorem type_match : typeOf (.builtin "re.Pattern.match") = pure (.type "method_descriptor") := by show builtinType _ = _; rw [builtinType_eq_fast]; kernel_rfl
theorem entry_match : entryFor table "re.Pattern.match" = some Builtin.«re.Pattern.match» := entryFor_of_tree (by kernel_rfl)
theorem args_match (a b : Value) : argsOk "re.Pattern.match" ⟨[a, b], []⟩ := by unfold argsOk; kernel_rfl
theorem pa_pat : PlainAttrs "re.Pattern" := ⟨⟨"object.__getattribute__", by rw [typeLookup_type, builtinLookup_eq_fast]; kernel_rfl, by decide +kernel⟩, by rw [typeLookup_type, builtinLookup_eq_fast]; kernel_rfl⟩
theorem slot_group : Slot "re.Match" "group" "re.Match.group" :=
  .of (owner := "re.Match") (n := "group") (by rw [typeLookup_type, builtinLookup_eq_fast]; kernel_rfl) (by decide +kernel) (by decide +kernel) (by decide +kernel)
    (by first | exact .inl (by decide +kernel) | exact .inr (by decide +kernel)) (by rw [isSubtype_type]; kernel_rfl)
theorem type_group : typeOf (.builtin "re.Match.group") = pure (.type "method_descriptor") := by show builtinType _ = _; rw [builtinType_eq_fast]; kernel_rfl
theorem entry_group : entryFor table "re.Match.group" = some Builtin.«re.Match.group» := entryFor_of_tree (by kernel_rfl)
theorem args_group (a b : Value) : argsOk "re.Match.group" ⟨[a, b], []⟩ := by unfold argsOk; kernel_rfl
theorem pa_mtch : PlainAttrs "re.Match" := ⟨⟨"object.__getattribute__", by rw [typeLookup_type, builtinLookup_eq_fast]; kernel_rfl, by decide +kernel⟩, by rw [typeLookup_type, builtinLookup_eq_fast]; kernel_rfl⟩
theorem slot_bsplit : Slot "bytes" "split" "bytes.split" :=
  .of (owner := "bytes") (n := "split") (by rw [typeLookup_type, builtinLookup_eq_fast]; kernel_rfl) (by decide +kernel) (by decide +kernel) (by decide +kernel)
    (by first | exact .inl (by decide +kernel) | exact .inr (by decide +kernel)) (by rw [isSubtype_type]; kernel_rfl)
theorem type_bsplit : typeOf (.builtin "bytes.split") = pure (.type "method_descriptor") := by show builtinType _ = _; rw [builtinType_eq_fast]; kernel_rfl
theorem entry_bsplit : entryFor table "bytes.split" = some Builtin.«bytes.split» := entryFor_of_tree (by kernel_rfl)
theorem args_bsplit (a : Value) : argsOk "bytes.split" ⟨[a], []⟩ := by unfold argsOk; kernel_rfl
theorem bopt_split (id : String) : Builtin.Bytes.bindOptional id "split" ["sep", "maxsplit"] [] [] = pure [none, none] := by kernel_rfl
theorem payload_bytes (b : Array UInt8) (t : Tok) : Builtin.Bytes.payload (.bytes b t) = pure b := by kernel_rfl
theorem same_bytes (b : Array UInt8) (t : Tok) : Builtin.Bytes.Kind.same .bytes (.bytes b t) = pure (.bytes b t) := by kernel_rfl

end Mine
end
section
open PySem PySem.W PyProof.Rows
set_option maxRecDepth 100000
set_option linter.unusedVariables false
namespace Mine
open Builtin.Re

structure PatAt (X : Cx) : Prop where
  at_ : ∃ p0 p1 t1 d nt ct t2 items n od oc t3, X.H₀.get? X.pat = some { cls := .type "re.Pattern", data := .fields #[p0, p1, .int 1 t1, .ref d, nt, .ref ct, .int 1 t2] } ∧
    X.H₀.get? ct = some oc ∧ oc.data = .seq items n ∧ (items.map reRawOf).map (fun i => i.toNat) = fcode ∧
    X.H₀.get? d = some od ∧ X.H₀.MapOf (strKind X.prog X.w) d (fun k => if k = Str.ofString "flags" then some (.int 1 t3) else none)

noncomputable def flagsG (b : List UInt8) : Option (List UInt8) := match skF (b.map (fun c => c.toNat)) with
  | some (p, n) => some ((b.drop (p + 7)).take n)
  | none => none

section
variable {X : Cx} {k : Nat} {sc : Scope} {vis : List (Str × Nat)} {A : Around} {env cenv : Env} {Z : Addr → Prop} {ρ : List Addr} {σ : St} {η : Eta} {s : Shared}

theorem s_pat {x : Str} {pos : Pos} (G : GName X x (.ref X.pat)) (hk : sc.names.lookup x = some .globalImplicit := by decide +kernel) (hd : (x == ("__debug__" : Str)) = false := by decide +kernel) :
    SimX X k sc vis (.Name x pos) (mK .pat) := by
  refine ⟨?_⟩
  intro A env Z ρ σ η s c av σ' e Q E p
  have hk' : env.kindOf x = some .globalImplicit := by unfold Env.kindOf; rw [c.sc]; exact hk
  refine wpAny_Name ?_ hd
  rw [PyProof.Rows.loadName_read c.e.kind hk']
  refine G _ _ _ _ _ c.e.glob c.e.bltn c.c.inv.base ?_
  exact (p.of e).here c.c.inv (by unfold VRel; rfl)

noncomputable def asPat {β : Type} (a : AV) (f : Option β) : Option β := match a with
  | .pat => f
  | _ => none
theorem asPat_is {β : Type} {r : β} {a : AV} {f : Option β} {P : AV → Prop} (e : asPat a f = some r) (k : f = some r → P .pat) : P a := by
  cases a with
  | pat => exact k e
  | _ => exact oN e
noncomputable def asM {β : Type} (a : AV) (f : List UInt8 → Option β) : Option β := match a with
  | .mtch g => f g
  | _ => none
theorem asM_is {β : Type} {r : β} {a : AV} {f : List UInt8 → Option β} {P : AV → Prop} (e : asM a f = some r) (k : ∀ g, f g = some r → P (.mtch g)) : P a := by
  cases a with
  | mtch g => exact k g e
  | _ => exact oN e
noncomputable def mres (x : Option (List UInt8)) : AV := match x with
  | some g => .mtch g
  | none => .none
noncomputable def oMatch : OpL := fun l σ => args l no1 (fun a b => asPat a (asY b fun b => if okS b.length then some (mres (flagsG b), σ) else none)) no3

theorem hit_bound {l : List Nat} {p n : Nat} (hm : hitAt l p = some n) : p + 7 + n < l.length :=
  ifN hm fun h e => by have := of_decide_eq_true (Bool.and_eq_true_iff.mp h).2; rw [oE e] at this; exact this
theorem sk_bound (l : List Nat) : ∀ (c p n : Nat), sk l c = some (p, n) → p + 7 + n < l.length := by
  intro c
  induction c with
  | zero =>
    intro p n e
    unfold sk at e
    obtain ⟨m, hm, q⟩ := Option.map_eq_some_iff.mp e
    rw [← show m = n from congrArg Prod.snd q, ← show 0 = p from congrArg Prod.fst q]
    exact hit_bound hm
  | succ c ih =>
    intro p n e
    unfold sk at e
    cases h : hitAt l (c + 1) with
    | some m =>
      rw [h] at e
      have q := Option.some.inj e
      rw [← show m = n from congrArg Prod.snd q, ← show c + 1 = p from congrArg Prod.fst q]
      exact hit_bound h
    | none => rw [h] at e; exact ih p n e

noncomputable def spansObj (q m : Nat) : Obj := { cls := .type "tuple", data := .seq #[rawInt 0, rawInt ((q + 7 + m + 1 : Nat) : Int), rawInt ((q + 7 : Nat) : Int), rawInt ((q + 7 + m : Nat) : Int)] }
noncomputable def mtchObj (st pt : Value) (lim sp : Nat) : Obj := { cls := .type "re.Match", data := .fields #[st, pt, rawInt 0, rawInt lim, rawInt 1, .ref sp] }
theorem newMatch_ok {M : Model} {pt st : Value} {lim q m : Nat} {m' : Sre.M} {Q : Value → Shared → Prop} {E : Value → Shared → Prop} (h2 : m'.marks = #[some (q + 7), some (q + 7 + m)]) (h3 : m'.lastmark = 1) (h4 : m'.lastindex = 1) (h5 : m'.start = 0) (h6 : m'.handed = q + 7 + m + 1)
    (h : Q (.ref (s.heap.objs.size + 1)) { s with heap := (s.heap.push (spansObj q m)).push (mtchObj st pt lim s.heap.objs.size) }) : wpAny M A (reNewMatch pt st 1 0 lim m') Q E s := by
  obtain ⟨code, text, l, start, ls, wt, ma, pc, pos, handed, om, marks, lastmark, lastindex, loops, inn, frames, weight, answer, seen, outcome⟩ := m'
  dsimp only at h2 h3 h4 h5 h6
  subst h2 h3 h4 h5 h6
  unfold reNewMatch
  show wpAny M A (if ((decide ((1 : Int) ≤ 1) && decide (q + 7 + m < q + 7)) || false) = true then _ else (do
    let sp ← newTuple [rawInt 0, rawInt ((q + 7 + m + 1 : Nat) : Int), rawInt ((q + 7 : Nat) : Int), rawInt ((q + 7 + m : Nat) : Int)]
    newFields "re.Match" [st, pt, rawInt 0, rawInt lim, rawInt 1, sp])) Q E s
  rw [decide_eq_false (show ¬ q + 7 + m < q + 7 by (first | lia | omega)), Bool.and_false, if_neg (by decide)]
  refine wpAny_bind (wpAny_newTuple ?_ (by show 4 ≤ sizeLine; rw [sizeLine_eq]; (first | lia | omega)))
  unfold newFields
  refine wpAny_newObj_type ?_ ?_
  · have : (s.heap.push (spansObj q m)).objs.size = s.heap.objs.size + 1 := Heap.size_push _ _
    rw [← this] at h
    exact h
  · simp [sizeOk]; rw [sizeLine_eq]; (first | lia | omega)
theorem answer_ok {prog : Program} {w : World} {pt st : Value} {tx : Array Nat} {R : Result → Shared → Prop} (hs : tx.size ≤ 16777216)
    (h : match skF tx.toList with
      | none => R (.ok (.ret .none)) s
      | some (q, m) => R (.ok (.ret (.ref (s.heap.objs.size + 1)))) { s with heap := (s.heap.push (spansObj q m)).push (mtchObj st pt tx.size s.heap.objs.size) }) :
    wpAny (model prog w) A.in1 (reAnswer ⟨pt, st, fcode, tx, 1, 1, 0, tx.size⟩ (Sre.forMatch fcode tx 1 0 tx.size false false))
      (fun fin s' => match fin with | .done f => R (.ok f) s' | .again c' => c'.quiet = true ∧ codeAny (model prog w) A c' R s') (fun e s' => R (.error e) s') s := by
  obtain ⟨kk, m', hk, hr, hd, he⟩ := sre_ok hs
  unfold reAnswer
  generalize hm : Sre.forMatch fcode tx 1 0 tx.size false false = mm
  have hr' : Sre.M.runFor kk mm = m' := by rw [← hm]; exact hr
  clear hr
  refine wpAny_bind (toEnd_ok hr' hk hd he ?_)
  cases hs : skF tx.toList with
  | none =>
    rw [hs] at h
    exact wpAny_pure h
  | some pr =>
    obtain ⟨q, m⟩ := pr
    rw [hs] at h he
    obtain ⟨_, h2, h3, h4, h5, h6⟩ := he
    exact wpAny_bind (newMatch_ok h2 h3 h4 h5 h6 (wpAny_pure h))
theorem match_post {b : List UInt8} {t : Tok} {q m : Nat} {Q : Value → Shared → Prop} (i : Inv X Z ρ σ s) (p : Post X Z ρ s (.mtch ((b.drop (q + 7)).take m)) σ Q) (hz : okS b.length = true) (hb : q + 7 + m < b.length) {lim : Nat} :
    Q (.ref (s.heap.objs.size + 1)) { s with heap := (s.heap.push (spansObj q m)).push (mtchObj (.bytes b.toArray t) (.ref X.pat) lim s.heap.objs.size) } := by
  have hs1 : (s.heap.push (spansObj q m)).objs.size = s.heap.objs.size + 1 := Heap.size_push _ _
  have g0 : (s.heap.push (spansObj q m)).get? s.heap.objs.size = some (spansObj q m) := Heap.get?_push_size _ rfl
  have g1 : ((s.heap.push (spansObj q m)).push (mtchObj (.bytes b.toArray t) (.ref X.pat) lim s.heap.objs.size)).get? (s.heap.objs.size + 1) = some (mtchObj (.bytes b.toArray t) (.ref X.pat) lim s.heap.objs.size) := by
    rw [← hs1]; exact Heap.get?_push_size _ rfl
  have g2 := Heap.get?_push_of_some (mtchObj (.bytes b.toArray t) (.ref X.pat) lim s.heap.objs.size) g0
  refine p.grow (tk := s.toks) (P := fun a => a = s.heap.objs.size ∨ a = s.heap.objs.size + 1) i (fun _ _ e => Heap.get?_push_of_some _ (Heap.get?_push_of_some _ e)) ?_ ?_
  · intro a ha
    rcases ha with ha | ha
    · rw [ha]; exact ⟨none_size _, by rw [g2]; exact fun e => nomatch e⟩
    · rw [ha]
      refine ⟨?_, by rw [g1]; exact fun e => nomatch e⟩
      cases q : s.heap.get? (s.heap.objs.size + 1) with
      | none => rfl
      | some o => exact absurd (Heap.lt_size q) (Nat.not_lt.mpr (Nat.le_succ _))
  · unfold VRel
    refine ⟨_, _, _, _, rfl, .inr (.inr rfl), .inr (.inl rfl), g1, g2, b.toArray, t, _, _, _, _, _, _, _, rfl, rfl, by (first | lia | omega), by (first | lia | omega), ?_, okS_le hz⟩
    rw [Int.toNat_natCast, Int.toNat_natCast]
    simp
theorem c_match (PA : PatAt X) : CallOk X k (.builtin "re.Pattern.match") oMatch := by
  refine ⟨?_⟩
  intro A Z ρ σ s c l vs r av σ' e Q E p
  refine args2 (P := fun vs => wpAny (model X.prog X.w) A (call (.builtin "re.Pattern.match") vs) Q E s) e r fun a b' v w r1 r2 e => ?_
  refine asPat_is (P := fun a => VRel X ρ Z s.heap a v → wpAny (model X.prog X.w) A (call (.builtin "re.Pattern.match") [v, w]) Q E s) e (fun e r1 => ?_) r1
  refine asY_inv e r2 fun b t e => ifN e fun hz e => ?_
  replace p := p.of e
  unfold VRel at r1
  rw [r1]
  obtain ⟨p0, p1, t1, d, nt, ct, t2, items, n, od, oc, t3, ho, hoc, hseq, hcode, _, _⟩ := PA.at_
  have ho' := c.inv.base _ _ ho
  have hoc' := c.inv.base _ _ hoc
  refine wpAny_call (codeAny_call_builtin slot_match.plain entry_match (slot_match.check _ _ _ _ _ _ _ _ ⟨_, ho', rfl⟩ (args_match _ _) ?_))
  unfold Builtin.«re.Pattern.match» reTarget
  refine wpAny_bind ?_
  dsimp only
  rw [named_one]
  refine wpAny_bind (wpAny_pure ?_)
  dsimp only
  refine wpAny_bind (wpAny_pure (wpAny_bind (wpAny_pure ?_)))
  refine wpAny_bind (wpAny_fieldsOf ho' rfl ?_)
  rw [textOf_bytes]
  refine wpAny_bind (wpAny_pure ?_)
  have w1 : reRawNat ((#[p0, p1, .int 1 t1, .ref d, nt, .ref ct, .int 1 t2] : Array Value).getD 6 .none) = 1 := rfl
  have w2 : (#[p0, p1, .int 1 t1, .ref d, nt, .ref ct, .int 1 t2] : Array Value).getD 5 .none = .ref ct := rfl
  have w3 : reRawNat ((#[p0, p1, .int 1 t1, .ref d, nt, .ref ct, .int 1 t2] : Array Value).getD 2 .none) = 1 := rfl
  dsimp only
  rw [w1, w2, w3, coll_bytes, if_neg (by decide), if_neg (by decide)]
  refine wpAny_bind (wpAny_pure (wpAny_bind ?_))
  unfold reRawItems
  refine wpAny_bind (wpAny_seqItems hoc' hseq (wpAny_pure (wpAny_pure ?_)))
  have hsz : (b.toArray.map (fun x => x.toNat)).size ≤ 16777216 := by
    have := okS_le' hz; simpa using this
  have e1 : Array.map (fun i => i.toNat) (Array.map reRawOf ((some items).getD #[])) = fcode := hcode
  have e2 : min (Int.toNat 0) (b.toArray.map (fun x => x.toNat)).size = 0 := by simp
  have e3 : min (2 ^ 63 - 1 : Int).toNat (b.toArray.map (fun x => x.toNat)).size = (b.toArray.map (fun x => x.toNat)).size := by (first | lia | omega)
  dsimp only
  rw [e1, e2, e3]
  have hl : (b.toArray.map (fun x => x.toNat)).toList = b.map (fun x => x.toNat) := by simp
  refine answer_ok (R := wants Q E) hsz ?_
  rw [hl]
  unfold flagsG at p
  cases hs : skF (b.map (fun x => x.toNat)) with
  | none =>
    rw [hs] at p
    exact p.here c.inv (by unfold mres VRel; rfl)
  | some pr =>
    rw [hs] at p
    have hb := sk_bound _ _ _ _ hs
    rw [List.length_map] at hb
    exact match_post c.inv p hz hb

noncomputable def oGroup : OpL := fun l σ => args l no1 (fun a b => asM a fun g => asS b fun x => if x = [102, 108, 97, 103, 115] then some (.bytes g, σ) else none) no3
theorem asInt_str (x : Str) (t : Tok) : asInt? (.str x t) = pure none := by kernel_rfl
theorem noIndex_str : typeLookup (.type "str") "__index__" = pure none := by rw [typeLookup_type, builtinLookup_eq_fast]; kernel_rfl
theorem mapOf_keeps {prog : Program} {w : World} {K : Type} [DecidableEq K] {knd : KeyKind prog w K} {h h' : Heap} {a : Addr} {f : K → Option Value} (k : ∀ b o, h.get? b = some o → h'.get? b = some o) (x : h.MapOf knd a f) : h'.MapOf knd a f :=
  x.imp fun _ x => x.imp fun _ x => x.imp fun _ x => ⟨k _ _ x.1, x.2⟩
theorem c_group (PA : PatAt X) : CallOk X k (.builtin "re.Match.group") oGroup := by
  refine ⟨?_⟩
  intro A Z ρ σ s c l vs r av σ' e Q E p
  refine args2 (P := fun vs => wpAny (model X.prog X.w) A (call (.builtin "re.Match.group") vs) Q E s) e r fun a' b' v w r1 r2 e => ?_
  refine asM_is (P := fun a => VRel X ρ Z s.heap a v → wpAny (model X.prog X.w) A (call (.builtin "re.Match.group") [v, w]) Q E s) e (fun g e r1 => ?_) r1
  refine asS_inv e r2 fun x t e => ifN e fun hx e' => ?_
  unfold VRel at r1
  obtain ⟨a, sp, mo, so, hv, _, _, hm, hsp, hi⟩ := r1
  obtain ⟨text, t', p1, p2, p3, i0, i1, b, e, hmo, hso, hb, he, hg, hz⟩ := hi
  rw [hmo] at hm; rw [hso] at hsp
  rw [hv, hx]
  obtain ⟨q0, q1, t1, d, nt, ct, t2, items, n, od, oc, t3, ho, _, _, _, hd, hmap⟩ := PA.at_
  have ho' := c.inv.base _ _ ho
  refine wpAny_call (codeAny_call_builtin slot_group.plain entry_group (slot_group.check _ _ _ _ _ _ _ _ ⟨_, hm, rfl⟩ (args_group _ _) ?_))
  unfold Builtin.«re.Match.group» noKeywords
  refine wpAny_bind (wpAny_pure ?_)
  dsimp only
  refine wpAny_bind ?_
  unfold reFound
  refine wpAny_bind (wpAny_fieldsOf hm rfl ?_)
  refine wpAny_bind ?_
  unfold reRawItems
  refine wpAny_bind (wpAny_seqItems hsp rfl (wpAny_pure (wpAny_pure ?_)))
  refine wpAny_bind ?_
  refine wpAny_bind ?_
  rw [asInt_str]
  refine wpAny_pure ?_
  rw [if_neg (by decide)]
  refine wpAny_bind ?_
  unfold specialOf
  refine wpAny_bind (wpAny_typeOf (typeIs_str _ _ _) ?_)
  rw [show (Str.ofString "__index__") = ("__index__" : Str) from rfl, noIndex_str]
  refine wpAny_pure ?_
  rw [if_neg (by decide)]
  have w1 : (#[Value.bytes text t', Value.ref X.pat, p1, p2, p3, Value.ref sp] : Array Value).getD 1 .none = .ref X.pat := rfl
  have w0 : (#[Value.bytes text t', Value.ref X.pat, p1, p2, p3, Value.ref sp] : Array Value).getD 0 .none = .bytes text t' := rfl
  rw [w1]
  refine wpAny_bind (wpAny_fieldsOf ho' rfl ?_)
  have w2 : (#[q0, q1, .int 1 t1, .ref d, nt, .ref ct, .int 1 t2] : Array Value).getD 3 .none = .ref d := rfl
  rw [w2]
  have hmap' : s.heap.MapOf (PySem.strKind X.prog X.w) d (fun k => if k = Str.ofString "flags" then some (.int 1 t3) else none) := mapOf_keeps c.inv.base hmap
  refine wpAny_bind (wpAny_dictGet_of (knd := PySem.strKind X.prog X.w) (k := toStr [102, 108, 97, 103, 115]) rfl hmap' ?_)
  have hk : toStr [102, 108, 97, 103, 115] = Str.ofString "flags" := by decide +kernel
  rw [if_pos hk]
  refine wpAny_bind (wpAny_pure (a := some (1 : Int)) (wpAny_bind (wpAny_pure (a := (1 : Int)) ?_)))
  have h4 : Array.map reRawOf ((some #[i0, i1, rawInt b, rawInt e]).getD #[]) = #[reRawOf i0, reRawOf i1, b, e] := by simp [reRawOf, rawInt]
  rw [h4]
  have c1 : ¬ ((decide ((1 : Int) < 0) || decide (2 * (1 : Int) ≥ ((#[reRawOf i0, reRawOf i1, b, e] : Array Int).size : Int))) = true) := by
    have : (#[reRawOf i0, reRawOf i1, b, e] : Array Int).size = 4 := rfl
    rw [this]; decide
  dsimp only
  rw [if_neg c1]
  refine wpAny_pure (wpAny_bind ?_)
  unfold reGroupText
  have s2 : (#[reRawOf i0, reRawOf i1, b, e] : Array Int).getD (2 * (1 : Int).toNat) (-1) = b := rfl
  have s3 : (#[reRawOf i0, reRawOf i1, b, e] : Array Int).getD (2 * (1 : Int).toNat + 1) (-1) = e := rfl
  dsimp only
  rw [s2, s3, w0]
  rw [if_neg (by simp; (first | lia | omega)), textOf_bytes]
  refine wpAny_bind (wpAny_pure ?_)
  have ge : ((text.map (fun x => x.toNat)).extract b.toNat e.toNat).map (fun x => x.toUInt8) = g.toArray := by
    have hid : ((fun x : Nat => x.toUInt8) ∘ fun x : UInt8 => x.toNat) = id := by
      funext x; simp
    rw [← hg, Array.toArray_toList, Array.map_extract, Array.map_map, hid, Array.map_id]
  unfold reSlice
  dsimp only
  rw [if_neg (by decide), ge]
  have hgs : g.toArray.size ≤ sizeLine := by
    rw [← hg]; simp; (first | lia | omega)
  refine wpAny_mkBytes ?_ hgs
  exact wpAny_pure ((p.of e').tok c.inv (vrel_bytes ..) _)
end
end Mine
end
section
open PySem PySem.W PyProof.Rows
set_option maxRecDepth 100000
set_option linter.unusedVariables false
namespace Mine
open Builtin.Bytes
section
variable {X : Cx} {k : Nat} {sc : Scope} {vis : List (Str × Nat)} {A : Around} {env cenv : Env} {Z : Addr → Prop} {ρ : List Addr} {σ : St} {η : Eta} {s : Shared}

noncomputable def bwords (b : List UInt8) : List (List UInt8) := words (b.length + 1) (b.length + 1) b
theorem bwords_plain {b : List UInt8} (h : b ≠ []) (hn : b.any isSpace = false) : bwords b = [b] := by
  have hd : b.dropWhile isSpace = b := by
    cases b with
    | nil => exact absurd rfl h
    | cons c r =>
      simp only [List.any_cons, Bool.or_eq_false_iff] at hn
      rw [List.dropWhile_cons, hn.1]; rfl
  have key : ∀ l : List UInt8, l.any isSpace = false → l.takeWhile (fun c => !isSpace c) = l ∧ l.dropWhile (fun c => !isSpace c) = [] := by
    intro l
    induction l with
    | nil => intro _; exact ⟨rfl, rfl⟩
    | cons c r ih =>
      intro hl
      simp only [List.any_cons, Bool.or_eq_false_iff] at hl
      obtain ⟨i1, i2⟩ := ih hl.2
      rw [List.takeWhile_cons, List.dropWhile_cons, hl.1]
      simp only [Bool.not_false, if_true]
      exact ⟨by rw [i1], i2⟩
  unfold bwords words
  rw [hd]
  obtain ⟨k1, k2⟩ := key b hn
  cases b with
  | nil => exact absurd rfl h
  | cons c r =>
    have : (((c :: r).length + 1 == 0) : Bool) = false := rfl
    rw [this]
    simp only [Bool.false_eq_true, if_false]
    rw [k1, k2]
    rfl
theorem words_len : ∀ (n m : Nat) (b : List UInt8), (words n m b).length ≤ n ∧ ∀ w ∈ words n m b, w.length ≤ b.length
  | 0, m, b => ⟨by simp [words], by simp [words]⟩
  | n + 1, m, b => by
    unfold words
    have h1 : (b.dropWhile isSpace).length ≤ b.length := (List.dropWhile_sublist _).length_le
    split
    · exact ⟨by simp, by simp⟩
    · rename_i rest hr
      split
      · exact ⟨by simp, fun w hw => by simp at hw; subst hw; exact h1⟩
      · obtain ⟨i1, i2⟩ := words_len n (m - 1) ((b.dropWhile isSpace).dropWhile (fun c => !isSpace c))
        refine ⟨by simp; exact i1, fun w hw => ?_⟩
        rcases List.mem_cons.mp hw with rfl | hw
        · exact Nat.le_trans (List.takeWhile_sublist _).length_le h1
        · exact Nat.le_trans (i2 w hw) (Nat.le_trans (List.dropWhile_sublist _).length_le h1)

noncomputable def bysFrom : Nat → List (List UInt8) → List Value
  | _, [] => []
  | n, b :: r => .bytes b.toArray n :: bysFrom (n + 1) r
theorem mapM_bytes {M : Model} {E : Value → Shared → Prop} : ∀ (xs : List (List UInt8)) (s : Shared) (Q : List Value → Shared → Prop), (∀ x ∈ xs, x.length ≤ sizeLine) → Q (bysFrom s.toks xs) { s with toks := s.toks + xs.length } →
    wpAny M A (xs.mapM fun w => Kind.new .bytes w.toArray) Q E s
  | [], s, Q, _, h => by rw [List.mapM_nil]; exact wpAny_pure h
  | x :: r, s, Q, hx, h => by
    rw [List.mapM_cons]
    refine wpAny_bind (show wpAny M A (mkBytes x.toArray) _ _ _ from wpAny_mkBytes (wpAny_bind (mapM_bytes r _ _ (fun y hy => hx y (List.mem_cons_of_mem _ hy)) (wpAny_pure ?_))) (by simpa using hx x List.mem_cons_self))
    have e : s.toks + 1 + r.length = s.toks + (x :: r).length := by simp [Nat.add_comm, Nat.add_left_comm]
    show Q (.bytes x.toArray s.toks :: bysFrom (s.toks + 1) r) { s with toks := s.toks + 1 + r.length }
    rw [e]; exact h
theorem bysFrom_rel {h : Heap} : ∀ (l : List (List UInt8)) (tk : Nat), VRels X ρ Z h (l.map .bytes) (bysFrom tk l)
  | [], tk => VRels.nil_iff.mpr rfl
  | b :: r, tk => VRels.cons (vrel_bytes ..) (bysFrom_rel r (tk + 1))
theorem bysFrom_len : ∀ (l : List (List UInt8)) (tk : Nat), (bysFrom tk l).length = l.length
  | [], tk => rfl
  | b :: r, tk => by simp [bysFrom, bysFrom_len r (tk + 1)]

noncomputable def oBSplit : OpL := fun l σ => args l (fun a => asY a fun b => if okS (b.length + 1) then some (.list ((bwords b).map .bytes), σ) else none) no2 no3
theorem c_bsplit : CallOk X k (.builtin "bytes.split") oBSplit := by
  refine ⟨?_⟩
  intro A Z ρ σ s c l vs r av σ' e Q E p
  refine args1 (P := fun vs => wpAny (model X.prog X.w) A (call (.builtin "bytes.split") vs) Q E s) e r fun a v r e => asY_inv e r fun b t e => ifN e fun hz e => ?_
  replace p := p.of e
  have hz' := okS_le hz
  refine wpAny_call (codeAny_call_builtin slot_bsplit.plain entry_bsplit (slot_bsplit.check _ _ _ _ _ _ _ _ (typeIs_bytes _ _ _) (args_bsplit _) ?_))
  unfold Builtin.«bytes.split» splitM
  dsimp only
  rw [bopt_split]
  refine wpAny_bind (wpAny_pure ?_)
  dsimp only
  refine wpAny_bind (wpAny_pure ?_)
  rw [payload_bytes]
  refine wpAny_bind (wpAny_pure ?_)
  dsimp only
  have e0 : (if (-1 : Int) < 0 then b.toArray.size + 1 else (-1 : Int).toNat) = b.toArray.size + 1 := if_pos (by decide)
  rw [e0]
  refine wpAny_bind (wpAny_rule ?_)
  by_cases hc : (decide (b.toArray.size + 1 > 0) && !b.toArray.isEmpty && !b.toArray.any isSpace) = true
  · rw [if_pos hc, same_bytes]
    refine wpAny_bind (wpAny_pure (wpAny_bind (wpAny_newList (items := [.bytes b.toArray t]) ?_ (by rw [sizeLine_eq]; show 1 ≤ 16777216; (first | lia | omega)))))
    have hc := Bool.and_eq_true_iff.mp hc
    have hc1 := (Bool.and_eq_true_iff.mp hc.1).2
    have hb : bwords b = [b] := bwords_plain (by intro h; rw [h] at hc1; exact Bool.noConfusion hc1) (by simpa using hc.2)
    rw [hb] at p
    refine wpAny_pure ?_
    exact p.newList (vs := [.bytes b.toArray t]) c.inv (VRels.cons (vrel_bytes ..) (VRels.nil_iff.mpr rfl)) (tk := s.toks)
  · rw [if_neg hc]
    rw [if_neg (by decide)]
    have e1 : words (b.toArray.size + 1) (b.toArray.size + 1) b.toArray.toList = bwords b := by simp [bwords]
    rw [e1]
    have wl := words_len (b.length + 1) (b.length + 1) b
    refine wpAny_bind (mapM_bytes _ _ _ (fun x hx => Nat.le_trans (wl.2 x hx) (by (first | lia | omega))) (wpAny_bind (wpAny_newList ?_ ?_)))
    · exact wpAny_pure (p.newList c.inv (bysFrom_rel _ _))
    · rw [bysFrom_len]; exact Nat.le_trans wl.1 hz'
end
end Mine
end
section
open PySem PySem.W PyProof.Rows
set_option maxRecDepth 100000
set_option linter.unusedVariables false
namespace Mine

structure MgrAt (X : Cx) (K : Frag) (C fI fS : Addr) (fdI fdS : FuncData) (p1 p2 p3 p4 : Pos) : Prop where
  inn : K.In X.H₀
  makes : makesIn K C = true
  init : findIn K (.ref C) "__init__" = some (some (.ref fI))
  fnI : typeIn K (.ref fI) = some (.type "function")
  keep : keepIn K (.ref C) = true
  seta : findIn K (.ref C) "__setattr__" = some (some (.builtin "object.__setattr__"))
  plain : plainOver K C = true
  taker : takerIn K C "passwd" = some none
  hasd : hasDictIn K C = true
  ga : findIn K (.ref C) "__getattribute__" = some (some (.builtin "object.__getattribute__"))
  noga : findIn K (.ref C) "__getattr__" = some none
  meth : findIn K (.ref C) "is_suburi" = some (some (.ref fS))
  fnS : typeIn K (.ref fS) = some (.type "function")
  fobj : ∃ o, X.H₀.get? fS = some o ∧ o.data = .func fdS
  FI : FunAt X fI fdI [.Assign [.Attribute (.Name "self" p1) "passwd" p2] (.Dict [] [] p3) p4] ["self"]
  self : fdI.scope.names.lookup (Str.ofString "self") = some .local

section
variable {X : Cx} {k : Nat} {sc : Scope} {vis : List (Str × Nat)} {A : Around} {env cenv : Env} {Z : Addr → Prop} {ρ : List Addr} {σ : St} {η : Eta} {s : Shared}

noncomputable def oNew (C : Addr) : OpL := fun l σ => lN l (some (.inst C, σ))
noncomputable def asInst {β : Type} (a : AV) (f : Addr → Option β) : Option β := match a with
  | .inst n => f n
  | _ => none
theorem asInst_is {β : Type} {r : β} {a : AV} {f : Addr → Option β} {P : AV → Prop} (e : asInst a f = some r) (k : ∀ n, f n = some r → P (.inst n)) : P a := by
  cases a with
  | inst n => exact k n e
  | _ => exact oN e

theorem init_run {K : Frag} {C fI fS : Addr} {fdI fdS : FuncData} {p1 p2 p3 p4 : Pos} (M : MgrAt X K C fI fS fdI fdS p1 p2 p3 p4) {h0 hh : Heap} {x : Addr} {E : Value → Shared → Prop} {R : Flow → Shared → Prop} {s₁ : Shared} {B : Around} {cenv : Env} {m : Str → Option Value} (KI : K.In h0) (hkind : cenv.scope.kind = .function) (kd : cenv.kindOf (Str.ofString "self") = some .local)
    (hm : m (Str.ofString "self") = some (.ref x)) (hns : s₁.heap.Ns cenv.locals m) (keep : ∀ b o, hh.get? b = some o → s₁.heap.get? b = some o) (k1 : ∀ b o, h0.get? b = some o → hh.get? b = some o) (hx : x = h0.objs.size + 1) (gx : hh.get? x = some (instObj C h0.objs.size)) (gdx : hh.get? h0.objs.size = some emptyDict)
    (hL : cenv.locals = h0.objs.size + 2) (fin : ∀ h' tk, (∀ b o, h0.get? b = some o → h'.get? b = some o) → (∃ od, h'.get? h0.objs.size = some od ∧ shadowIn (some od) (Str.ofString "is_suburi") = some false) → h0.get? h0.objs.size = none → h'.get? x = some (instObj C h0.objs.size) → h0.get? x = none → R .next { s₁ with heap := h', toks := tk }) :
    wpAny (model X.prog X.w) B (execs [.Assign [.Attribute (.Name "self" p1) "passwd" p2] (.Dict [] [] p3) p4] cenv) R E s₁ := by
  refine wpAny_execs_cons ?_
  refine plainObj_wpAny_Assign_Attribute ?_ rfl
  refine wpAny_Dict_empty ?_
  refine wpAny_Name (wpAny_loadName_local hkind kd (hns.keeps (fun b o e => Heap.get?_push_of_some _ e)) hm ?_) (by decide +kernel)
  have k2 : ∀ b o, hh.get? b = some o → (s₁.heap.push { cls := .type "dict", data := .dict #[] }).get? b = some o := fun b o e => Heap.get?_push_of_some _ (keep b o e)
  have no : ∀ n, h0.objs.size ≤ n → h0.get? n = none := fun n h => by
    cases q : h0.get? n with
    | none => rfl
    | some o => exact absurd (Heap.lt_size q) (Nat.not_lt.mpr h)
  have Fr2 : Fr h0 cenv.locals (s₁.heap.push { cls := .type "dict", data := .dict #[] }) m := ⟨hns.keeps (fun b o e => Heap.get?_push_of_some _ e), fun b o e => k2 _ _ (k1 _ _ e), by rw [hL]; (first | lia | omega)⟩
  have N2 : News h0 cenv.locals (s₁.heap.push { cls := .type "dict", data := .dict #[] }) [(x, instObj C h0.objs.size), (h0.objs.size, dictOf [] 0)] := by
    intro q hq
    rcases List.mem_cons.mp hq with hq | hq
    · rw [hq]; exact ⟨k2 _ _ gx, by rw [hL, hx]; exact Nat.ne_of_lt (Nat.lt_succ_self _), no _ (hx ▸ Nat.le_succ _)⟩
    · rw [List.mem_singleton.mp hq]; exact ⟨k2 _ _ gdx, by rw [hL]; exact Nat.ne_of_lt (show h0.objs.size < h0.objs.size + 2 by (first | lia | omega)), no _ (Nat.le_refl _)⟩
  refine set_dict (K := K) (dx := h0.objs.size) (es := []) (n := 0) (x := x) (C := C) (ox := instObj C h0.objs.size) Fr2 KI N2 ⟨(N2 _ (List.mem_cons_self)).1, rfl, rfl, (N2 _ (List.mem_cons_of_mem _ List.mem_cons_self)).1⟩ rfl M.seta M.plain M.taker M.hasd rfl rfl
    (Upd.tail (by show x ≠ h0.objs.size; rw [hx]; exact Nat.succ_ne_self _) (Upd.head (fun _ h => nomatch h))) (show 1 ≤ 1000 by decide) fun h' F' N' => ?_
  have n1 := N' _ List.mem_cons_self
  have n2 := N' _ (List.mem_cons_of_mem _ List.mem_cons_self)
  exact wpAny_execs_nil (fin h' _ (fun b o e => F'.keep b o e) ⟨_, n2.1, rfl⟩ n2.2.2 n1.1 n1.2.2)

theorem c_new {K : Frag} {C fI fS : Addr} {fdI fdS : FuncData} {p1 p2 p3 p4 : Pos} (U : UOk X k) (M : MgrAt X K C fI fS fdI fdS p1 p2 p3 p4) : CallOk X k (.ref C) (oNew C) := by
  refine ⟨?_⟩
  intro A Z ρ σ s c l vs r av σ' e Q E p
  refine lN_inv e fun hl e => ?_
  rw [hl] at r
  rw [VRels.nil_iff.mp r]
  replace p := p.of e
  obtain ⟨hh, g, d, t, os⟩ := s
  have KI : K.In hh := fun a o e => c.inv.base _ _ (M.inn a o e)
  refine wpAny_call (make_core (makes_of KI M.makes) (looks_findIn KI M.init) (fun self => bind_fn KI self M.fnI) (.inl rfl) ?_)
  have k1 : ∀ b o, hh.get? b = some o → ((hh.push emptyDict).push (instObj C hh.objs.size)).get? b = some o := fun b o e => Heap.get?_push_of_some _ (Heap.get?_push_of_some _ e)
  have k0 : ∀ b o, X.H₀.get? b = some o → ((hh.push emptyDict).push (instObj C hh.objs.size)).get? b = some o := fun b o e => k1 _ _ (c.inv.base _ _ e)
  have sz1 : (hh.push emptyDict).objs.size = hh.objs.size + 1 := Heap.size_push _ _
  have sz2 : ((hh.push emptyDict).push (instObj C hh.objs.size)).objs.size = hh.objs.size + 2 := by rw [Heap.size_push, sz1]
  have gdx : ((hh.push emptyDict).push (instObj C hh.objs.size)).get? hh.objs.size = some emptyDict := Heap.get?_push_of_some _ (Heap.get?_push_size _ rfl)
  have gx : ((hh.push emptyDict).push (instObj C hh.objs.size)).get? (hh.objs.size + 1) = some (instObj C hh.objs.size) := by rw [← sz1]; exact Heap.get?_push_size _ rfl
  obtain ⟨o, ho, hd⟩ := M.FI.obj
  refine code_call (binds := [("self", .ref (hh.objs.size + 1))]) ?_ (k0 _ _ ho) hd (M.FI.lim.keeps k0) (M.FI.code.keeps k0) M.FI.body (M.FI.bind [.ref (hh.objs.size + 1)] rfl) M.FI.clo ?_ (fun s₁ I hfc => ?_) M.FI.co M.FI.gen M.FI.kind
  · have h1 := c.dep; have h2 := U.2
    rw [depth_under_kw]
    (first | lia | omega)
  · intro x hx
    rw [List.mem_singleton.mp hx]
    exact .inl M.self
  · have kd : (callEnvC fdI ((hh.push emptyDict).push (instObj C hh.objs.size)).objs.size fI).kindOf (Str.ofString "self") = some .local := M.self
    have hm : bindL (callEnvC fdI ((hh.push emptyDict).push (instObj C hh.objs.size)).objs.size fI).kindOf [(Str.ofString "self", Value.ref (hh.objs.size + 1))] (fun x => none) (Str.ofString "self") = some (.ref (hh.objs.size + 1)) :=
      bindL_get (List.nodup_cons.mpr ⟨List.not_mem_nil, List.nodup_nil⟩) (List.mem_cons_self) kd
    refine init_run M KI M.FI.kind kd hm I.toInCall.ns I.toInCall.keep k1 rfl gx gdx sz2 fun h' tk' keep hod dn gi xn => ?_
    obtain ⟨h₁, tk, es₁⟩ := I.toInCall.same
    obtain ⟨od, g1, g2⟩ := hod
    refine ⟨rfl, ?_⟩
    rw [es₁]
    refine p.grow (P := fun a => a = hh.objs.size + 1 ∨ a = hh.objs.size) c.inv keep ?_ ?_
    · intro a ha
      rcases ha with ha | ha
      · rw [ha]; exact ⟨xn, by rw [gi]; exact fun e => nomatch e⟩
      · rw [ha]; exact ⟨dn, by rw [g1]; exact fun e => nomatch e⟩
    · unfold VRel
      exact ⟨_, _, _, rfl, .inr (.inl rfl), .inr (.inr rfl), gi, g1, g2⟩

theorem s_new {K : Frag} {C fI fS : Addr} {fdI fdS : FuncData} {p1 p2 p3 p4 : Pos} {x : Str} {p pos : Pos} (U : UOk X k) (M : MgrAt X K C fI fS fdI fdS p1 p2 p3 p4) (G : GName X x (.ref C)) (hk : sc.names.lookup x = some .globalImplicit := by decide +kernel)
    (hd : (x == ("__debug__" : Str)) = false := by decide +kernel) : SimX X k sc vis (.Call (.Name x p) [] [] pos) (mK (.inst C)) := by
  refine ⟨?_⟩
  intro A env Z ρ σ η s c av σ' e Q E p
  have hk' : env.kindOf x = some .globalImplicit := by unfold Env.kindOf; rw [c.sc]; exact hk
  refine wpAny_Call_NameR (wpAny_Name ?_ hd)
  rw [PyProof.Rows.loadName_read c.e.kind hk']
  refine G _ _ _ _ _ c.e.glob c.e.bltn c.c.inv.base ?_
  refine callWith_K0 (K := K) (fun a o e => c.c.inv.base _ _ (M.inn a o e)) M.keep ?_
  exact (c_new U M).run A Z ρ σ s c.c [] [] (VRels.nil_iff.mpr rfl) av σ' e Q E p

noncomputable def mSub (C : Addr) (m : ME) (r : ML) (op : OpL) : ME := fun η σ => oB (m η σ) fun a σ => asInst a fun D => if D = C then oB (r η σ) fun l σ => op (.inst C :: l) σ else none
theorem method_pos {o : Expr} {env : Env} {apos pos : Pos} (h : (apos.endLine == pos.line) = true) : methodCallPos true o env apos pos = pure pos := by unfold methodCallPos; simp [h]
theorem s_sub {K : Frag} {C fI fS : Addr} {fdI fdS : FuncData} {p1 p2 p3 p4 : Pos} {o : Expr} {apos pos : Pos} {es : List Expr} {m : ME} {r : ML} {op : OpL} (M : MgrAt X K C fI fS fdI fdS p1 p2 p3 p4)
    (ok : CallOk X k (.ref fS) op) (hm : SimX X k sc vis o m) (hr : SimL X k sc vis es r)
    (hbase : ∀ env, attributeBase o "is_suburi" env (eval o env) = eval o env := by intro _; rfl) (hp : ∀ env, (backTo pos (starEach es env)).any (·.1) = false := by intro _; rfl)
    (hfew : ∀ env, ((backTo pos (starEach es env)).all (fun x => !x.1) && (backToKw pos (keywordEach [] env)).all (fun x => x.1.isSome) && decide (es.length + ([] : List Keyword).length + (if ([] : List Keyword).isEmpty then 0 else 1) < 30)) = true := by intro _; rfl)
    (hline : (apos.endLine == pos.line) = true := by rfl) : SimX X k sc vis (.Call (.Attribute o "is_suburi" apos) es [] pos) (mSub C m r op) := by
  refine ⟨?_⟩
  intro A env Z ρ σ η s c av σ' e Q E p
  refine oB_inv e fun a' σ₁ h1 e => ?_
  rw [arm_eval_Call, hbase]
  refine wpAny_bind (hm.run A env Z ρ σ η s c _ _ h1 _ _ fun Z₁ ρ₁ v₁ s₁ i₁ y₁ r₁ => ?_)
  refine asInst_is (P := fun a' => VRel X ρ₁ Z₁ s₁.heap a' v₁ → _) e (fun D e r₁ => ?_) r₁
  refine ifN e fun hD e => oB_inv e fun l σ₂ h2 e => ?_
  rw [hD] at r₁
  have r₁' := r₁
  unfold VRel at r₁
  obtain ⟨a, dx, od, hv, _, _, ga, gd, hsh⟩ := r₁
  rw [hv] at r₁' ⊢
  refine wpAny_bind (wpAny_standAt ?_)
  have hform : methodCallForm (es.length + ([] : List Keyword).length) (backTo pos (starEach es env)) (backToKw pos (keywordEach [] env)) = true := hfew env
  unfold methodCall
  rw [hform]
  have K1 : K.In s₁.heap := fun a o e => i₁.base _ _ (M.inn a o e)
  refine wpAny_bind (wpAny_holding (method_fn K1 (x := a) (ox := instObj C dx) (od := some od) ⟨ga, rfl, rfl, gd⟩ M.ga M.noga M.meth M.fnS hsh ?_))
  refine wpAny_bind (wpAny_of_eq (method_pos hline) ?_)
  obtain ⟨of, hof, hfd⟩ := M.fobj
  refine PySem.Calls.callWith_function (o := of) (fd := fdS) (evalArgs_any (hp env) (hr.run A env Z₁ ρ₁ σ₁ η s₁ pos (c.next i₁ y₁) _ _ h2 _ _ fun Z₂ ρ₂ vs₂ s₂ i₂ y₂ r₂ => ⟨⟨i₂.base _ _ hof, hfd⟩, ?_⟩))
  exact ok.run A Z₂ ρ₂ σ₂ s₂ ((c.next i₁ y₁).next i₂ y₂).c (.inst C :: l) (.ref a :: vs₂) (VRels.cons (r₁'.ext y₂) r₂) _ _ e _ _ ((p.pass y₁).pass y₂)
end
end Mine
end
section
open PySem PySem.W PyProof.Rows
set_option maxRecDepth 100000
set_option linter.unusedVariables false
namespace Mine
section
variable {X : Cx} {k : Nat} {sc : Scope} {vis : List (Str × Nat)} {A : Around} {env cenv : Env} {Z : Addr → Prop} {ρ : List Addr} {σ : St} {η : Eta} {s : Shared}

theorem only_loc {own : List Nat} {i : Nat} (a : AV) (h : own.contains i = true := by decide) : OnlyB own (aV i a) := by
  intro η σ η' σ' e j hj
  refine ifN e fun _ e => ?_
  have : i ≠ j := fun q => by rw [← q, h] at hj; exact Bool.noConfusion hj
  rw [← show _ = η' from congrArg Prod.fst (Option.some.inj e), List.getElem?_set_ne this]
noncomputable def OnlyL (own : List Nat) (r : List AV → Binder) : Prop := ∀ l, OnlyB own (r l)
theorem onl_nil {own : List Nat} : OnlyL own aNil := by
  intro l η σ η' σ' e j hj
  refine lN_inv e fun _ e => ?_
  rw [← show _ = η' from congrArg Prod.fst (Option.some.inj e)]
theorem onl_cons {own : List Nat} {m : AV → Binder} {r : List AV → Binder} (hm : ∀ a, OnlyB own (m a)) (hr : OnlyL own r) : OnlyL own (aCons m r) := by
  intro l η σ η' σ' e j hj
  refine lC_inv (P := fun _ => η'[j]? = η[j]?) e fun x xs e => oB_inv e fun η₁ σ₁ h1 e => ?_
  rw [hr _ _ _ _ _ e j hj, hm _ _ _ _ _ h1 j hj]
theorem only_tup {own : List Nat} {n : Nat} {r : List AV → Binder} (hr : OnlyL own r) (a : AV) : OnlyB own (aTup n r a) := by
  intro η σ η' σ' e j hj
  cases a with
  | list l => exact ifN e fun _ e => hr _ _ _ _ _ e j hj
  | tup l => exact ifN e fun _ e => hr _ _ _ _ _ e j hj
  | _ => exact oN e
theorem map_only {own : List Nat} {α : Type} {t : α → Binder} (h : ∀ a, OnlyB own (t a)) {xs : List α} {bs : List Binder} {σ σ' : St} (e : some (xs.map t, σ) = some (bs, σ')) : ∀ b ∈ bs, OnlyB own b := by
  intro b hb
  rw [← show _ = bs from congrArg Prod.fst (Option.some.inj e)] at hb
  obtain ⟨a, _, q⟩ := List.mem_map.mp hb
  rw [← q]; exact h a
theorem oi_val {own : List Nat} {m : ME} {t : AV → Binder} (h : ∀ a, OnlyB own (t a)) : OnlyI own (iVal m t) := by
  intro η σ bs σ' e
  exact oB_inv e fun a σ₁ _ e => o1_inv e fun xs _ e => map_only h e
theorem oi_enum {own : List Nat} {m : ME} {r : List AV → Binder} (h : OnlyL own r) : OnlyI own (iEnum m r) := by
  intro η σ bs σ' e
  exact oB_inv e fun a σ₁ _ e => asL_is (P := fun _ => ∀ b ∈ bs, OnlyB own b) e fun xs e => map_only h e

theorem ml_insert : Meth "list" "insert" "list.insert" := ⟨F.plainAttrs_list, F.slot_list_insert, F.type_list_insert⟩
theorem ms_find : Meth "str" "find" "str.find" := ⟨F.plainAttrs_str, F.slot_str_find, F.type_str_find⟩
theorem ms_split : Meth "str" "split" "str.split" := ⟨F.plainAttrs_str, F.slot_str_split, F.type_str_split⟩
theorem ms_starts : Meth "str" "startswith" "str.startswith" := ⟨F.plainAttrs_str, F.slot_str_startswith, F.type_str_startswith⟩
theorem ms_join : Meth "str" "join" "str.join" := ⟨F.plainAttrs_str, F.slot_str_join, F.type_str_join⟩
theorem ms_encode : Meth "str" "encode" "str.encode" := ⟨F.plainAttrs_str, F.slot_str_encode, F.type_str_encode⟩
theorem mb_decode : Meth "bytes" "decode" "bytes.decode" := ⟨FB.plainAttrs_bytes, FB.slot_bytes_decode, FB.type_bytes_decode⟩
theorem mb_split : Meth "bytes" "split" "bytes.split" := ⟨FB.plainAttrs_bytes, slot_bsplit, type_bsplit⟩
theorem mp_match : Meth "re.Pattern" "match" "re.Pattern.match" := ⟨pa_pat, slot_match, type_match⟩
theorem mm_group : Meth "re.Match" "group" "re.Match.group" := ⟨pa_mtch, slot_group, type_group⟩

structure FnAt (X : Cx) (a : Addr) (body : List Stmt) (sc : Scope) (ps : List Str) : Prop where
  at_ : ∃ fd, FunAt X a fd body ps ∧ fd.scope = sc
noncomputable def fnBody (p : Program) (i : Nat) : List Stmt := match p.main.body[i]? with
  | some (.FunctionDef _ _ body _ _ _ _ _ _ _) => body
  | _ => []
noncomputable def fnScope (p : Program) (i : Nat) : Scope := match p.main.body[i]? with
  | some (.FunctionDef _ _ _ _ _ _ sc _ _ _) => sc
  | _ => default
noncomputable def clsSt (p : Program) (i : Nat) : List Stmt := match p.main.body[i]? with
  | some (.ClassDef _ _ _ body _ _ _ _ _ _ _) => body
  | _ => []
noncomputable def mtBody (p : Program) (i j : Nat) : List Stmt := match (clsSt p i)[j]? with
  | some (.FunctionDef _ _ body _ _ _ _ _ _ _) => body
  | _ => []
noncomputable def mtScope (p : Program) (i j : Nat) : Scope := match (clsSt p i)[j]? with
  | some (.FunctionDef _ _ _ _ _ _ sc _ _ _) => sc
  | _ => default

theorem c_fn {a : Addr} {body : List Stmt} {ps : List Str} {N : Nat} {m : MS} (U : UOk X k) (F : FnAt X a body sc ps) (ok : funOk sc vis ps N = true) (hB : SimB X (k + 1) sc vis body m) : CallOk X k (.ref a) (oFun ps.length N m) := by
  obtain ⟨fd, F', rfl⟩ := F.at_
  exact c_fun U F' ok hB
theorem c_fnX {a : Addr} {body : List Stmt} {ps : List Str} {N : Nat} {m : MS} (U : UOk X k) (F : FnAt X a body sc ps) (ok : funOk sc vis ps N = true) (hB : SimB X (k + 1) sc vis body m) : CallX X k (.ref a) (oFunX ps.length N m) := by
  obtain ⟨fd, F', rfl⟩ := F.at_
  exact c_funX U F' ok hB
theorem s_callG {x : Str} {p pos : Pos} {es : List Expr} {a : Addr} {body : List Stmt} {scf : Scope} {ps : List Str} {r : ML} {op : OpL} (G : GName X x (.ref a)) (F : FnAt X a body scf ps) (ok : CallOk X k (.ref a) op) (hr : SimL X k sc vis es r) (hk : sc.names.lookup x = some .globalImplicit := by decide +kernel)
    (hd : (x == ("__debug__" : Str)) = false := by decide +kernel) (hp : ∀ env, (backTo pos (starEach es env)).any (·.1) = false := by intro _; rfl) : SimX X k sc vis (.Call (.Name x p) es [] pos) (mCall r op) := by
  obtain ⟨fd, F, _⟩ := F.at_
  obtain ⟨o, h1, h2⟩ := F.obj
  exact s_callF G ⟨o, h1, h2⟩ ok hr hk hd hp

noncomputable def MgrOk (X : Cx) (K : Frag) (C fS : Addr) : Prop := ∃ fI fdI fdS p1 p2 p3 p4, MgrAt X K C fI fS fdI fdS p1 p2 p3 p4
theorem s_newW {K : Frag} {C fS : Addr} {x : Str} {p pos : Pos} (U : UOk X k) (M : MgrOk X K C fS) (G : GName X x (.ref C)) (hk : sc.names.lookup x = some .globalImplicit := by decide +kernel)
    (hd : (x == ("__debug__" : Str)) = false := by decide +kernel) : SimX X k sc vis (.Call (.Name x p) [] [] pos) (mK (.inst C)) := by
  obtain ⟨_, _, _, _, _, _, _, M⟩ := M
  exact s_new U M G hk hd
theorem s_subW {K : Frag} {C fS : Addr} {o : Expr} {apos pos : Pos} {es : List Expr} {m : ME} {r : ML} {op : OpL} (M : MgrOk X K C fS)
    (ok : CallOk X k (.ref fS) op) (hm : SimX X k sc vis o m) (hr : SimL X k sc vis es r)
    (hbase : ∀ env, attributeBase o "is_suburi" env (eval o env) = eval o env := by intro _; rfl) (hp : ∀ env, (backTo pos (starEach es env)).any (·.1) = false := by intro _; rfl)
    (hfew : ∀ env, ((backTo pos (starEach es env)).all (fun x => !x.1) && (backToKw pos (keywordEach [] env)).all (fun x => x.1.isSome) && decide (es.length + ([] : List Keyword).length + (if ([] : List Keyword).isEmpty then 0 else 1) < 30)) = true := by intro _; rfl)
    (hline : (apos.endLine == pos.line) = true := by rfl) : SimX X k sc vis (.Call (.Attribute o "is_suburi" apos) es [] pos) (mSub C m r op) := by
  obtain ⟨_, _, _, _, _, _, _, M⟩ := M
  exact s_sub M ok hm hr hbase hp hfew hline
theorem st_tryRetW {K : Frag} (U : UOk X k) (KA : KAt X K) {f x n : Str} {fp cpos rpos np spn npn scp tp rp hp pos : Pos} {es : List Expr} {kd : Nat} {a : Addr} {body : List Stmt} {scf : Scope} {ps : List Str} {r : ML} {op : OutL} (G : GName X f (.ref a)) (F : FnAt X a body scf ps) (ok : CallX X k (.ref a) op) (hr : SimL X k sc vis es r)
    (GX : GName X x (.ref X.exc)) (O : ExcAt X x) (GS : GName X "str" (.type "str"))
    (hkf : sc.names.lookup f = some .globalImplicit := by decide +kernel) (hkx : sc.names.lookup x = some .globalImplicit := by decide +kernel) (hks : sc.names.lookup ("str" : Str) = some .globalImplicit := by decide +kernel)
    (hkn : sc.names.lookup n = some .local := by decide +kernel) (hvn : vis.lookup n = none := by decide +kernel) (hdot : sc.names.lookup (".0" : Str) = none := by decide +kernel)
    (hdf : (f == ("__debug__" : Str)) = false := by decide +kernel) (hdx : (x == ("__debug__" : Str)) = false := by decide +kernel) (hdn : (n == ("__debug__" : Str)) = false := by decide +kernel)
    (hpl : ∀ env, (backTo cpos (starEach es env)).any (·.1) = false := by intro _; rfl) :
    SimS X k sc vis (.Try [.Return (some (.Call (.Name f fp) es [] cpos)) rpos] [.ExceptHandler (some (.Name x np)) (some n) [.Return (some (.Tuple [.Call (.Name "str" spn) [.Name n npn] [] scp] kd tp)) rp] hp] [] [] pos) (sTry r op) := by
  obtain ⟨fd, F, _⟩ := F.at_
  obtain ⟨o, h1, h2⟩ := F.obj
  exact st_tryRet U KA G ⟨o, h1, h2⟩ ok hr GX O GS hkf hkx hks hkn hvn hdot hdf hdx hdn hpl
end
end Mine
end
section
open PySem PySem.W PyProof.Rows
set_option maxRecDepth 100000
set_option linter.unusedVariables false
namespace Mine
section
variable {X : Cx} {K : Frag}

theorem look_ns {h : Heap} {a : Addr} {m : Str → Option Value} {o : Obj} {x : Str} {r : Option Value} (N : h.Ns a m) (ho : h.get? a = some o) (e : lookIn x o = some r) : m x = r := by
  obtain ⟨o', es, ep, ho', hd, _, hf⟩ := N
  rw [ho] at ho'; cases ho'
  rw [← hf x]
  unfold lookIn at e
  rw [hd] at e
  dsimp only at e
  unfold nsFind findBy
  split at e
  · rename_i en he
    cases e
    rw [← Array.find?_toList, he]; rfl
  · rename_i he
    split at e
    · cases e
    · cases e
      rw [← Array.find?_toList, he]; rfl

theorem gname_own {x : Str} {v : Value} {mg : Str → Option Value} {o : Obj} (N : X.H₀.Ns mainGlobals mg) (KI : K.In X.H₀) (ho : K.lookup mainGlobals = some o) (e : lookIn x o = some (some v)) : GName X x v := by
  intro A env s Q E hg hb hk hq
  have hm := look_ns N (KI _ _ ho) e
  have N' : s.heap.Ns env.globals mg := by rw [hg]; exact N.keeps hk
  exact Calls.loadGlobal_global N' hm hq
theorem gname_bi {x : Str} {v : Value} {mg mb : Str → Option Value} {o : Obj} (N : X.H₀.Ns mainGlobals mg) (B : X.H₀.Ns builtinsNs mb) (KI : K.In X.H₀) (ho : K.lookup mainGlobals = some o) (e : lookIn x o = some none) (hv : mb x = some v) : GName X x v := by
  intro A env s Q E hg hb hk hq
  have hm := look_ns N (KI _ _ ho) e
  have N' : s.heap.Ns env.globals mg := by rw [hg]; exact N.keeps hk
  have B' : s.heap.Ns env.builtins mb := by rw [hb]; exact B.keeps hk
  exact Calls.loadGlobal_builtin N' hm B' hv hq

theorem funAt_of {a : Addr} {o : Obj} {fd : FuncData} {body : List Stmt} {ps : List Str} (KI : K.In X.H₀) (lim : X.H₀.NoLimit) (ho : K.lookup a = some o) (hd : o.data = .func fd) (hb : fd.body = .stmts body)
    (hcd : codeIn K fd.code fd.qualname = true) (hclo : fd.closure = []) (hco : fd.scope.isCoroutine = false) (hgen : fd.scope.isGenerator = false) (hk : fd.scope.kind = .function) (hg : fd.globals = mainGlobals) (hbn : fd.builtins = builtinsNs)
    (hbind : ∀ vals : List Value, vals.length = ps.length → bindArgs fd ⟨vals, []⟩ = pure (ps.zip vals)) : FunAt X a fd body ps :=
  ⟨⟨o, KI _ _ ho, hd⟩, lim, codeRec_of KI hcd, hb, hclo, hco, hgen, hk, hg, hbn, hbind⟩
theorem len0 {P : List Value → Prop} (h : P []) : ∀ vals : List Value, vals.length = 0 → P vals
  | [], _ => h
theorem len1 {P : List Value → Prop} (h : ∀ a, P [a]) : ∀ vals : List Value, vals.length = 1 → P vals
  | a :: r, e => len0 (P := fun v => P (a :: v)) (h a) r (Nat.succ.inj e)
theorem len2 {P : List Value → Prop} (h : ∀ a b, P [a, b]) : ∀ vals : List Value, vals.length = 2 → P vals
  | a :: r, e => len1 (P := fun v => P (a :: v)) (h a) r (Nat.succ.inj e)
theorem len3 {P : List Value → Prop} (h : ∀ a b c, P [a, b, c]) : ∀ vals : List Value, vals.length = 3 → P vals
  | a :: r, e => len2 (P := fun v => P (a :: v)) (h a) r (Nat.succ.inj e)
theorem len4 {P : List Value → Prop} (h : ∀ a b c d, P [a, b, c, d]) : ∀ vals : List Value, vals.length = 4 → P vals
  | a :: r, e => len3 (P := fun v => P (a :: v)) (h a) r (Nat.succ.inj e)
theorem len5 {P : List Value → Prop} (h : ∀ a b c d f, P [a, b, c, d, f]) : ∀ vals : List Value, vals.length = 5 → P vals
  | a :: r, e => len4 (P := fun v => P (a :: v)) (h a) r (Nat.succ.inj e)
theorem fnAt_of {a : Addr} {o : Obj} {fd : FuncData} {body : List Stmt} {sc : Scope} {ps : List Str} (KI : K.In X.H₀) (lim : X.H₀.NoLimit) (ho : K.lookup a = some o) (hd : o.data = .func fd) (hb : fd.body = .stmts body) (hs : fd.scope = sc)
    (hcd : codeIn K fd.code fd.qualname = true) (hclo : fd.closure = []) (hco : fd.scope.isCoroutine = false) (hgen : fd.scope.isGenerator = false) (hk : fd.scope.kind = .function) (hg : fd.globals = mainGlobals) (hbn : fd.builtins = builtinsNs)
    (hbind : ∀ vals : List Value, vals.length = ps.length → bindArgs fd ⟨vals, []⟩ = pure (ps.zip vals)) : FnAt X a body sc ps :=
  ⟨fd, funAt_of KI lim ho hd hb hcd hclo hco hgen hk hg hbn hbind, hs⟩

theorem exc_of {p : Program} {loose : List Str} {mean : ExcName → Option Value} {mg mb : Str → Option Value} {o : Obj} {x : Str} (T : Top p loose mean mg mb X.H₀) (KI : K.In X.H₀) (ho : K.lookup mainGlobals = some o) (e : lookIn x o = some (some (.ref X.exc)))
    (hs : (ownsOf p).any (fun q => q.name == x && (q.newId == "Exception.__new__" && q.bm == [.type "Exception", .type "BaseException", .type "object"])) = true) : ExcAt X x := by
  obtain ⟨q, hq, hh⟩ := List.any_eq_true.mp hs
  simp only [Bool.and_eq_true, beq_iff_eq] at hh
  obtain ⟨h1, h2, h3⟩ := hh
  obtain ⟨C, OC, _⟩ := T.own q hq
  have hm := look_ns T.g (KI _ _ ho) e
  have hb := OC.bound
  rw [h1, hm] at hb
  cases hb
  rw [h1, h2, h3] at OC
  exact ⟨mg, _, _, _, _, _, _, _, _, OC, F.excBase_Exception, by decide +kernel, F.excBase_Exception⟩

theorem join_law {prog : Program} {w : World} {s₁ : Shared} {fa exc pat : Addr} {lo : ∃ b o, s₁.heap.get? b = some o ∧ sysModules < b} {pk : ∃ ob, s₁.heap.get? pat = some ob ∧ ob.cls = .type "re.Pattern" ∧ ob.dict = none} {ns : List Int} {l : Addr} {vs : List Value} {op : OpL} {σ' : St}
    (hl : s₁.heap.IsList l vs.toArray) (hI : IntsAre vs ns) (ok : CallOk ⟨prog, w, s₁.heap, callerA.depth, callerA.units, exc, pat, lo, pk⟩ 0 (.ref fa) op) (hop : op [.script ns] [] = some (.bool true, σ'))
    {Q : Value → Shared → Prop} {E : Value → Shared → Prop} (hQ : ∀ s' : Shared, (∀ b o, s₁.heap.get? b = some o → s'.heap.get? b = some o) → s'.os = s₁.os → s'.gens = s₁.gens → Q (.bool true) s') :
    wpAny (model prog w) callerA (call (.ref fa) [.ref l]) Q E s₁ := by
  refine ok.run callerA (fun _ => False) [] [] s₁ ⟨rfl, Nat.le_refl _, Nat.le_refl _, ⟨[], rfl, ⟨fun _ h => nomatch h⟩⟩, ⟨fun _ _ e => e, fun _ f => f.elim, rfl, List.nodup_nil, (fun _ h => nomatch h), (fun n a c h => by simp at h)⟩⟩
    [.script ns] [.ref l] (VRels.cons (by unfold VRel; exact ⟨l, vs, rfl, hl, hI⟩) (VRels.nil_iff.mpr rfl)) _ _ hop Q E ?_
  intro Z' ρ' v s' i y r
  unfold VRel at r
  subst r
  exact hQ s' (fun b o e => i.base b o e) y.os y.gens

theorem pat_map {prog : Program} {w : World} {h : Heap} {d : Addr} {t tk : Tok} {n : Nat} (ho : h.get? d = some { cls := .type "dict", data := .dict #[⟨PyData.keyHash w.params (Str.ofString "flags"), .str (Str.ofString "flags") t, .int 1 tk⟩] n }) :
    h.MapOf (PySem.strKind prog w) d (fun k => if k = Str.ofString "flags" then some (.int 1 tk) else none) := by
  refine ⟨_, _, _, ho, ⟨rfl, rfl, rfl⟩, rfl, ?_, ?_⟩
  · intro e he
    have he' : e = ⟨PyData.keyHash w.params (Str.ofString "flags"), .str (Str.ofString "flags") t, .int 1 tk⟩ := by simpa using he
    subst he'
    refine ⟨Str.ofString "flags", by show Value.isStrOf (Str.ofString "flags") (.str (Str.ofString "flags") t) = true; simp [Value.isStrOf], ?_⟩
    rfl
  · intro k
    unfold findBy
    show Option.map _ (Array.find? (fun (e : DictEntry) => Value.isStrOf k e.key) #[_]) = _
    dsimp only
    by_cases h : k = Str.ofString "flags"
    · rw [if_pos h]; subst h; simp [Value.isStrOf]
    · rw [if_neg h]
      have : Value.isStrOf k (.str (Str.ofString "flags") t) = false := by simp [Value.isStrOf]; exact fun e => h e.symm
      simp [this]

theorem ctx_U {prog : Program} {w : World} {H₀ : Heap} {exc pat : Addr} {lo pk} (j : Nat) (h : j ≤ 60) : UOk ⟨prog, w, H₀, callerA.depth, callerA.units, exc, pat, lo, pk⟩ j := by
  have c1 : callerA.units = 4 := rfl
  have c2 : cLine = 9900 := rfl
  have c3 : callerA.depth ≤ 800 := by decide
  have c4 : recursionLimit = 1000 := rfl
  refine ⟨?_, ?_⟩
  · show callerA.units + 8 * j + 64 < cLine; (first | lia | omega)
  · show callerA.depth + j + 100 < recursionLimit; (first | lia | omega)
end
end Mine
end
section
open PySem PySem.W PyProof.Rows
set_option maxRecDepth 100000
set_option linter.unusedVariables false
set_option maxHeartbeats 2000000
namespace Mine
structure Adr where
  mgr : Addr
  is_suburi : Addr
  parse_keqv_list : Addr
  parse229 : Addr
  ParseFlags : Addr
  law_rules : Addr
  law_answer : Addr
  law_row : Addr
  law_told : Addr
  law_led : Addr
  law_due : Addr
  law_falling : Addr
  law : Addr
structure Ctx (X : Cx) (K : Frag) (ad : Adr) : Prop where
  U : ∀ j, j ≤ 60 → UOk X j
  kat : KAt X K
  g_exc : GName X "error_proto" (.ref X.exc)
  exc : ExcAt X "error_proto"
  g_mgr : GName X "HTTPPasswordMgr" (.ref ad.mgr)
  mgr : MgrOk X K ad.mgr ad.is_suburi
  pat : PatAt X
  g_pat : GName X "Flags" (.ref X.pat)
  g_enumerate : GName X "enumerate" (.type "enumerate")
  g_int : GName X "int" (.type "int")
  g_len : GName X "len" (.builtin "len")
  g_list : GName X "list" (.type "list")
  g_range : GName X "range" (.type "range")
  g_str : GName X "str" (.type "str")
  g_sum : GName X "sum" (.builtin "sum")
  g_tuple : GName X "tuple" (.type "tuple")
  f_is_suburi : FnAt X ad.is_suburi (mtBody PySem.Challenge.pw_wn0050_02 3 4) (mtScope PySem.Challenge.pw_wn0050_02 3 4) ["self", "base", "test"]
  g_parse_keqv_list : GName X "parse_keqv_list" (.ref ad.parse_keqv_list)
  f_parse_keqv_list : FnAt X ad.parse_keqv_list (fnBody PySem.Challenge.pw_wn0050_02 4) (fnScope PySem.Challenge.pw_wn0050_02 4) ["l"]
  g_parse229 : GName X "parse229" (.ref ad.parse229)
  f_parse229 : FnAt X ad.parse229 (fnBody PySem.Challenge.pw_wn0050_02 9) (fnScope PySem.Challenge.pw_wn0050_02 9) ["resp", "peer"]
  g_ParseFlags : GName X "ParseFlags" (.ref ad.ParseFlags)
  f_ParseFlags : FnAt X ad.ParseFlags (fnBody PySem.Challenge.pw_wn0050_02 12) (fnScope PySem.Challenge.pw_wn0050_02 12) ["resp"]
  g_law_rules : GName X "_law_rules" (.ref ad.law_rules)
  f_law_rules : FnAt X ad.law_rules (fnBody PySem.Challenge.pw_wn0050_02 14) (fnScope PySem.Challenge.pw_wn0050_02 14) []
  g_law_answer : GName X "_law_answer" (.ref ad.law_answer)
  f_law_answer : FnAt X ad.law_answer (fnBody PySem.Challenge.pw_wn0050_02 15) (fnScope PySem.Challenge.pw_wn0050_02 15) ["level", "dress"]
  g_law_row : GName X "_law_row" (.ref ad.law_row)
  f_law_row : FnAt X ad.law_row (fnBody PySem.Challenge.pw_wn0050_02 16) (fnScope PySem.Challenge.pw_wn0050_02 16) ["k", "answer"]
  g_law_told : GName X "_law_told" (.ref ad.law_told)
  f_law_told : FnAt X ad.law_told (fnBody PySem.Challenge.pw_wn0050_02 17) (fnScope PySem.Challenge.pw_wn0050_02 17) ["answer", "peer"]
  g_law_led : GName X "_law_led" (.ref ad.law_led)
  f_law_led : FnAt X ad.law_led (fnBody PySem.Challenge.pw_wn0050_02 18) (fnScope PySem.Challenge.pw_wn0050_02 18) ["answer", "told", "place", "back"]
  g_law_due : GName X "_law_due" (.ref ad.law_due)
  f_law_due : FnAt X ad.law_due (fnBody PySem.Challenge.pw_wn0050_02 19) (fnScope PySem.Challenge.pw_wn0050_02 19) ["bits", "levels"]
  g_law_falling : GName X "_law_falling" (.ref ad.law_falling)
  f_law_falling : FnAt X ad.law_falling (fnBody PySem.Challenge.pw_wn0050_02 20) (fnScope PySem.Challenge.pw_wn0050_02 20) ["levels"]
  g_law : GName X "law" (.ref ad.law)
  f_law : FnAt X ad.law (fnBody PySem.Challenge.pw_wn0050_02 21) (fnScope PySem.Challenge.pw_wn0050_02 21) ["script"]
noncomputable def v_is_suburi : List (Str × Nat) := [("self", 0), ("base", 1), ("test", 2), ("prefix", 3)]
noncomputable def m_is_suburi : MS := bCons (sIf (tCmp .Eq (mV 1) (mV 2)) (bCons (sRet (mK (.bool true))) bNil) bNil) (
  bCons (sIf (tCmp .NotEq (mIdx (mV 1) (mK (.int 0))) (mIdx (mV 2) (mK (.int 0)))) (bCons (sRet (mK (.bool false))) bNil) bNil) (
  bCons (sAsg (mIdx (mV 1) (mK (.int 1))) (aV 3)) (
  bCons (sIf (tCmp .NotEq (mSlc (mV 3) (mNeg (mK (.int 1))) (mK .none) (mK .none)) (mK (.str [47]))) (bCons (sAugS 3 (mK (.str [47]))) bNil) bNil) (
  bCons (sRet (mMeth "str" (mIdx (mV 2) (mK (.int 1))) (lCons (mV 3) lNil) oStarts)) (
  bNil)))))
noncomputable def op_is_suburi : OpL := oFun 3 4 (m_is_suburi)
theorem b_is_suburi {X : Cx} {K : Frag} {ad : Adr} (C : Ctx X K ad) {k : Nat} (hk : k + 0 ≤ 60) : SimB X k (mtScope PySem.Challenge.pw_wn0050_02 3 4) v_is_suburi (mtBody PySem.Challenge.pw_wn0050_02 3 4) (m_is_suburi) := by
  have U : UOk X k := C.U k (by (first | lia | omega))
  refine b_cons ?_ ?_
  · refine st_if ?_ ?_ ?_
    · refine t_cmp U ?_ ?_
      · exact s_loc _ _ 1
      exact s_loc _ _ 2
    · refine b_cons ?_ ?_
      · refine st_ret ?_
        exact s_bool true _ _
      exact b_nil
    exact b_nil
  refine b_cons ?_ ?_
  · refine st_if ?_ ?_ ?_
    · refine t_cmp U ?_ ?_
      · refine s_idx ?_ ?_
        · exact s_loc _ _ 1
        exact s_int 0 _ _
      refine s_idx ?_ ?_
      · exact s_loc _ _ 2
      exact s_int 0 _ _
    · refine b_cons ?_ ?_
      · refine st_ret ?_
        exact s_bool false _ _
      exact b_nil
    exact b_nil
  refine b_cons ?_ ?_
  · refine st_asg ?_ ?_ (fun _ _ => rfl) (fun _ _ => rfl)
    · refine s_idx ?_ ?_
      · exact s_loc _ _ 1
      exact s_int 1 _ _
    exact a_loc _ _ 3
  refine b_cons ?_ ?_
  · refine st_if ?_ ?_ ?_
    · refine t_cmp U ?_ ?_
      · refine s_slc ?_ ?_ o_none o_none
        · exact s_loc _ _ 3
        refine o_some ?_
        refine s_neg ?_
        exact s_int 1 _ _
      exact s_str _ [47] _ _
    · refine b_cons ?_ ?_
      · refine st_augS (i := 3) ?_
        exact s_str _ [47] _ _
      exact b_nil
    exact b_nil
  refine b_cons ?_ ?_
  · refine st_ret ?_
    refine s_meth ms_starts c_starts ?_ ?_
    · refine s_idx ?_ ?_
      · exact s_loc _ _ 2
      exact s_int 1 _ _
    refine l_cons ?_ l_nil
    exact s_loc _ _ 3
  exact b_nil
theorem c_is_suburi {X : Cx} {K : Frag} {ad : Adr} (C : Ctx X K ad) {k : Nat} (hk : k + 1 ≤ 60) : CallOk X k (.ref ad.is_suburi) (op_is_suburi) :=
  c_fn (vis := v_is_suburi) (N := 4) (C.U k (by (first | lia | omega))) C.f_is_suburi (by decide +kernel) (b_is_suburi C (by (first | lia | omega)))

noncomputable def v_parse_keqv_list : List (Str × Nat) := [("l", 0), ("parsed", 1), ("elt", 2), ("k", 3), ("v", 4)]
noncomputable def m_parse_keqv_list : MS := bCons (sAsg mNewD (aV 1)) (
  bCons (sFor (iVal (mV 0) (aV 2)) (bCons (sAsg (mMeth "str" (mV 2) (lCons (mK (.str [61])) (lCons (mK (.int 1)) lNil)) oSplit) (aTup 2 (aCons (aV 3) (aCons (aV 4) aNil)))) (bCons (sIf (tAnd (tCmp .Eq (mIdx (mV 4) (mK (.int 0))) (mK (.str [34]))) (tAnd (tCmp .Eq (mIdx (mV 4) (mNeg (mK (.int 1)))) (mK (.str [34]))) (tK true))) (bCons (sAsg (mSlc (mV 4) (mK (.int 1)) (mNeg (mK (.int 1))) (mK .none)) (aV 4)) bNil) bNil) (bCons (sAsg (mV 4) (aSub (mV 1) (mV 3))) bNil)))) (
  bCons (sRet (mFrz (mV 1))) (
  bNil)))
noncomputable def op_parse_keqv_list : OpL := oFun 1 5 (m_parse_keqv_list)
theorem b_parse_keqv_list {X : Cx} {K : Frag} {ad : Adr} (C : Ctx X K ad) {k : Nat} (hk : k + 0 ≤ 60) : SimB X k (fnScope PySem.Challenge.pw_wn0050_02 4) v_parse_keqv_list (fnBody PySem.Challenge.pw_wn0050_02 4) (m_parse_keqv_list) := by
  have U : UOk X k := C.U k (by (first | lia | omega))
  refine b_cons ?_ ?_
  · refine st_asg ?_ ?_ (fun _ _ => rfl) (fun _ _ => rfl)
    · exact s_newD
    exact a_loc _ _ 1
  refine b_cons ?_ ?_
  · refine st_for ?_ ?_
    · refine i_val ?_ ?_
      · exact s_loc _ _ 0
      exact a_loc _ _ 2
    refine b_cons ?_ ?_
    · refine st_asg ?_ ?_ (fun _ _ => rfl) (fun _ _ => rfl)
      · refine s_meth ms_split c_split ?_ ?_
        · exact s_loc _ _ 2
        refine l_cons ?_ ?_
        · exact s_str _ [61] _ _
        refine l_cons ?_ l_nil
        exact s_int 1 _ _
      refine a_tup ?_
      refine as_cons ?_ ?_
      · exact a_loc _ _ 3
      refine as_cons ?_ as_nil
      exact a_loc _ _ 4
    refine b_cons ?_ ?_
    · refine st_if ?_ ?_ ?_
      · refine t_bool ?_
        refine a_consA ?_ ?_
        · refine t_cmp U ?_ ?_
          · refine s_idx ?_ ?_
            · exact s_loc _ _ 4
            exact s_int 0 _ _
          exact s_str _ [34] _ _
        refine a_consA ?_ a_nilA
        refine t_cmp U ?_ ?_
        · refine s_idx ?_ ?_
          · exact s_loc _ _ 4
          refine s_neg ?_
          exact s_int 1 _ _
        exact s_str _ [34] _ _
      · refine b_cons ?_ ?_
        · refine st_asg ?_ ?_ (fun _ _ => rfl) (fun _ _ => rfl)
          · refine s_slc ?_ ?_ ?_ o_none
            · exact s_loc _ _ 4
            · refine o_some ?_
              exact s_int 1 _ _
            refine o_some ?_
            refine s_neg ?_
            exact s_int 1 _ _
          exact a_loc _ _ 4
        exact b_nil
      exact b_nil
    refine b_cons ?_ ?_
    · refine st_asg ?_ ?_ (fun _ _ => rfl) (fun _ _ => rfl)
      · exact s_loc _ _ 4
      refine a_sub ?_ ?_
      · exact s_loc _ _ 1
      exact s_loc _ _ 3
    exact b_nil
  refine b_cons ?_ ?_
  · refine st_ret ?_
    refine s_frz ?_
    exact s_loc _ _ 1
  exact b_nil
theorem c_parse_keqv_list {X : Cx} {K : Frag} {ad : Adr} (C : Ctx X K ad) {k : Nat} (hk : k + 1 ≤ 60) : CallOk X k (.ref ad.parse_keqv_list) (op_parse_keqv_list) :=
  c_fn (vis := v_parse_keqv_list) (N := 5) (C.U k (by (first | lia | omega))) C.f_parse_keqv_list (by decide +kernel) (b_parse_keqv_list C (by (first | lia | omega)))

noncomputable def v_parse229 : List (Str × Nat) := [("resp", 0), ("peer", 1), ("left", 2), ("right", 3), ("parts", 4), ("host", 5), ("port", 6)]
noncomputable def m_parse229 : MS := bCons (sIf (tCmp .NotEq (mSlc (mV 0) (mK .none) (mK (.int 3)) (mK .none)) (mK (.str [50, 50, 57]))) (bCons sFail bNil) bNil) (
  bCons (sAsg (mMeth "str" (mV 0) (lCons (mK (.str [40])) lNil) oFind) (aV 2)) (
  bCons (sIf (tCmp .Lt (mV 2) (mK (.int 0))) (bCons (sRaise (lCons (mV 0) lNil)) bNil) bNil) (
  bCons (sAsg (mMeth "str" (mV 0) (lCons (mK (.str [41])) (lCons (mBin .Add (mV 2) (mK (.int 1))) lNil)) oFind) (aV 3)) (
  bCons (sIf (tCmp .Lt (mV 3) (mK (.int 0))) (bCons (sRaise (lCons (mV 0) lNil)) bNil) bNil) (
  bCons (sIf (tCmp .NotEq (mIdx (mV 0) (mBin .Add (mV 2) (mK (.int 1)))) (mIdx (mV 0) (mBin .Sub (mV 3) (mK (.int 1))))) (bCons (sRaise (lCons (mV 0) lNil)) bNil) bNil) (
  bCons (sAsg (mMeth "str" (mSlc (mV 0) (mBin .Add (mV 2) (mK (.int 1))) (mV 3) (mK .none)) (lCons (mIdx (mV 0) (mBin .Add (mV 2) (mK (.int 1)))) lNil) oSplit) (aV 4)) (
  bCons (sIf (tCmp .NotEq (mCall (lCons (mV 4) lNil) oLen) (mK (.int 5))) (bCons (sRaise (lCons (mV 0) lNil)) bNil) bNil) (
  bCons (sAsg (mIdx (mV 1) (mK (.int 0))) (aV 5)) (
  bCons (sAsg (mCall (lCons (mIdx (mV 4) (mK (.int 3))) lNil) oInt) (aV 6)) (
  bCons (sRet (mTup (lCons (mV 5) (lCons (mV 6) lNil)))) (
  bNil)))))))))))
noncomputable def opx_parse229 : OutL := oFunX 2 7 (m_parse229)
theorem b_parse229 {X : Cx} {K : Frag} {ad : Adr} (C : Ctx X K ad) {k : Nat} (hk : k + 0 ≤ 60) : SimB X k (fnScope PySem.Challenge.pw_wn0050_02 9) v_parse229 (fnBody PySem.Challenge.pw_wn0050_02 9) (m_parse229) := by
  have U : UOk X k := C.U k (by (first | lia | omega))
  refine b_cons ?_ ?_
  · refine st_if ?_ ?_ ?_
    · refine t_cmp U ?_ ?_
      · refine s_slc ?_ o_none ?_ o_none
        · exact s_loc _ _ 0
        refine o_some ?_
        exact s_int 3 _ _
      exact s_str _ [50, 50, 57] _ _
    · refine b_cons ?_ ?_
      · exact st_fail _
      exact b_nil
    exact b_nil
  refine b_cons ?_ ?_
  · refine st_asg ?_ ?_ (fun _ _ => rfl) (fun _ _ => rfl)
    · refine s_meth ms_find c_find ?_ ?_
      · exact s_loc _ _ 0
      refine l_cons ?_ l_nil
      exact s_str _ [40] _ _
    exact a_loc _ _ 2
  refine b_cons ?_ ?_
  · refine st_if ?_ ?_ ?_
    · refine t_cmp U ?_ ?_
      · exact s_loc _ _ 2
      exact s_int 0 _ _
    · refine b_cons ?_ ?_
      · refine st_raise C.g_exc C.exc ?_
        refine l_cons ?_ l_nil
        exact s_loc _ _ 0
      exact b_nil
    exact b_nil
  refine b_cons ?_ ?_
  · refine st_asg ?_ ?_ (fun _ _ => rfl) (fun _ _ => rfl)
    · refine s_meth ms_find c_find ?_ ?_
      · exact s_loc _ _ 0
      refine l_cons ?_ ?_
      · exact s_str _ [41] _ _
      refine l_cons ?_ l_nil
      refine s_bin ?_ ?_
      · exact s_loc _ _ 2
      exact s_int 1 _ _
    exact a_loc _ _ 3
  refine b_cons ?_ ?_
  · refine st_if ?_ ?_ ?_
    · refine t_cmp U ?_ ?_
      · exact s_loc _ _ 3
      exact s_int 0 _ _
    · refine b_cons ?_ ?_
      · refine st_raise C.g_exc C.exc ?_
        refine l_cons ?_ l_nil
        exact s_loc _ _ 0
      exact b_nil
    exact b_nil
  refine b_cons ?_ ?_
  · refine st_if ?_ ?_ ?_
    · refine t_cmp U ?_ ?_
      · refine s_idx ?_ ?_
        · exact s_loc _ _ 0
        refine s_bin ?_ ?_
        · exact s_loc _ _ 2
        exact s_int 1 _ _
      refine s_idx ?_ ?_
      · exact s_loc _ _ 0
      refine s_bin ?_ ?_
      · exact s_loc _ _ 3
      exact s_int 1 _ _
    · refine b_cons ?_ ?_
      · refine st_raise C.g_exc C.exc ?_
        refine l_cons ?_ l_nil
        exact s_loc _ _ 0
      exact b_nil
    exact b_nil
  refine b_cons ?_ ?_
  · refine st_asg ?_ ?_ (fun _ _ => rfl) (fun _ _ => rfl)
    · refine s_meth ms_split c_split ?_ ?_
      · refine s_slc ?_ ?_ ?_ o_none
        · exact s_loc _ _ 0
        · refine o_some ?_
          refine s_bin ?_ ?_
          · exact s_loc _ _ 2
          exact s_int 1 _ _
        refine o_some ?_
        exact s_loc _ _ 3
      refine l_cons ?_ l_nil
      refine s_idx ?_ ?_
      · exact s_loc _ _ 0
      refine s_bin ?_ ?_
      · exact s_loc _ _ 2
      exact s_int 1 _ _
    exact a_loc _ _ 4
  refine b_cons ?_ ?_
  · refine st_if ?_ ?_ ?_
    · refine t_cmp U ?_ ?_
      · refine s_call C.g_len (fun _ h => nomatch h) c_len ?_
        refine l_cons ?_ l_nil
        exact s_loc _ _ 4
      exact s_int 5 _ _
    · refine b_cons ?_ ?_
      · refine st_raise C.g_exc C.exc ?_
        refine l_cons ?_ l_nil
        exact s_loc _ _ 0
      exact b_nil
    exact b_nil
  refine b_cons ?_ ?_
  · refine st_asg ?_ ?_ (fun _ _ => rfl) (fun _ _ => rfl)
    · refine s_idx ?_ ?_
      · exact s_loc _ _ 1
      exact s_int 0 _ _
    exact a_loc _ _ 5
  refine b_cons ?_ ?_
  · refine st_asg ?_ ?_ (fun _ _ => rfl) (fun _ _ => rfl)
    · refine s_call C.g_int (fun _ h => nomatch h) c_int ?_
      refine l_cons ?_ l_nil
      refine s_idx ?_ ?_
      · exact s_loc _ _ 4
      exact s_int 3 _ _
    exact a_loc _ _ 6
  refine b_cons ?_ ?_
  · refine st_ret ?_
    refine s_tup ?_
    refine l_cons ?_ ?_
    · exact s_loc _ _ 5
    refine l_cons ?_ l_nil
    exact s_loc _ _ 6
  exact b_nil
theorem cx_parse229 {X : Cx} {K : Frag} {ad : Adr} (C : Ctx X K ad) {k : Nat} (hk : k + 1 ≤ 60) : CallX X k (.ref ad.parse229) (opx_parse229) :=
  c_fnX (vis := v_parse229) (N := 7) (C.U k (by (first | lia | omega))) C.f_parse229 (by decide +kernel) (b_parse229 C (by (first | lia | omega)))

noncomputable def v_ParseFlags : List (Str × Nat) := [("resp", 0), ("mo", 1)]
noncomputable def m_ParseFlags : MS := bCons (sAsg (mMeth "re.Pattern" (mK .pat) (lCons (mV 0) lNil) oMatch) (aV 1)) (
  bCons (sIf (tNot (tVal (mV 1))) (bCons (sRet (mTup lNil)) bNil) bNil) (
  bCons (sRet (mCall (lCons (mMeth "bytes" (mMeth "re.Match" (mV 1) (lCons (mK (.str [102, 108, 97, 103, 115])) lNil) oGroup) lNil oBSplit) lNil) oTuple)) (
  bNil)))
noncomputable def op_ParseFlags : OpL := oFun 1 2 (m_ParseFlags)
theorem b_ParseFlags {X : Cx} {K : Frag} {ad : Adr} (C : Ctx X K ad) {k : Nat} (hk : k + 0 ≤ 60) : SimB X k (fnScope PySem.Challenge.pw_wn0050_02 12) v_ParseFlags (fnBody PySem.Challenge.pw_wn0050_02 12) (m_ParseFlags) := by
  have U : UOk X k := C.U k (by (first | lia | omega))
  refine b_cons ?_ ?_
  · refine st_asg ?_ ?_ (fun _ _ => rfl) (fun _ _ => rfl)
    · refine s_meth mp_match (c_match C.pat) ?_ ?_
      · exact s_pat C.g_pat
      refine l_cons ?_ l_nil
      exact s_loc _ _ 0
    exact a_loc _ _ 1
  refine b_cons ?_ ?_
  · refine st_if ?_ ?_ ?_
    · refine t_not ?_
      refine t_val ?_
      exact s_loc _ _ 1
    · refine b_cons ?_ ?_
      · refine st_ret ?_
        exact s_tup l_nil
      exact b_nil
    exact b_nil
  refine b_cons ?_ ?_
  · refine st_ret ?_
    refine s_call C.g_tuple (fun _ h => nomatch h) c_tuple ?_
    refine l_cons ?_ l_nil
    refine s_meth mb_split c_bsplit ?_ l_nil
    refine s_meth mm_group (c_group C.pat) ?_ ?_
    · exact s_loc _ _ 1
    refine l_cons ?_ l_nil
    exact s_str _ [102, 108, 97, 103, 115] _ _
  exact b_nil
theorem c_ParseFlags {X : Cx} {K : Frag} {ad : Adr} (C : Ctx X K ad) {k : Nat} (hk : k + 1 ≤ 60) : CallOk X k (.ref ad.ParseFlags) (op_ParseFlags) :=
  c_fn (vis := v_ParseFlags) (N := 2) (C.U k (by (first | lia | omega))) C.f_ParseFlags (by decide +kernel) (b_ParseFlags C (by (first | lia | omega)))

noncomputable def v_law_rules : List (Str × Nat) := []
noncomputable def m_law_rules : MS := bCons (sRet (mList (lCons (mK (.str [47, 97, 98, 47, 97, 61, 47, 97, 98])) (lCons (mK (.str [47, 97, 61, 47, 97, 47, 97])) (lCons (mK (.str [47, 97, 98, 47, 97, 61, 34, 47, 97, 47, 97, 98, 34])) (lCons (mK (.str [47, 97, 98, 47, 97, 98, 61, 47, 97, 98])) lNil)))))) (
  bNil)
noncomputable def op_law_rules : OpL := oFun 0 0 (m_law_rules)
theorem b_law_rules {X : Cx} {K : Frag} {ad : Adr} (C : Ctx X K ad) {k : Nat} (hk : k + 0 ≤ 60) : SimB X k (fnScope PySem.Challenge.pw_wn0050_02 14) v_law_rules (fnBody PySem.Challenge.pw_wn0050_02 14) (m_law_rules) := by
  have U : UOk X k := C.U k (by (first | lia | omega))
  refine b_cons ?_ ?_
  · refine st_ret ?_
    refine s_list ?_
    refine l_cons ?_ ?_
    · exact s_str _ [47, 97, 98, 47, 97, 61, 47, 97, 98] _ _
    refine l_cons ?_ ?_
    · exact s_str _ [47, 97, 61, 47, 97, 47, 97] _ _
    refine l_cons ?_ ?_
    · exact s_str _ [47, 97, 98, 47, 97, 61, 34, 47, 97, 47, 97, 98, 34] _ _
    refine l_cons ?_ l_nil
    exact s_str _ [47, 97, 98, 47, 97, 98, 61, 47, 97, 98] _ _
  exact b_nil
theorem c_law_rules {X : Cx} {K : Frag} {ad : Adr} (C : Ctx X K ad) {k : Nat} (hk : k + 1 ≤ 60) : CallOk X k (.ref ad.law_rules) (op_law_rules) :=
  c_fn (vis := v_law_rules) (N := 0) (C.U k (by (first | lia | omega))) C.f_law_rules (by decide +kernel) (b_law_rules C (by (first | lia | omega)))

noncomputable def v_law_answer : List (Str × Nat) := [("level", 0), ("dress", 1), ("kind", 2), ("mark", 3), ("fields", 4), ("few", 5), ("other", 6), ("rules", 7), ("ends", 8)]
noncomputable def m_law_answer : MS := bCons (sAsg (mBin .Mod (mBin .FloorDiv (mV 1) (mK (.int 4))) (mK (.int 4))) (aV 2)) (
  bCons (sAsg (mIdx (mK (.str [124, 61, 47, 33])) (mBin .Mod (mV 1) (mK (.int 4)))) (aV 3)) (
  bCons (sAsg (mBin .Add (mBin .Add (mBin .Add (mBin .Add (mBin .Add (mV 3) (mK (.str [49]))) (mV 3)) (mV 3)) (mCall (lCons (mV 0) lNil) oStr)) (mV 3)) (aV 4)) (
  bCons (sIf (tCmp .Eq (mV 2) (mK (.int 3))) (bCons (sAsg (mBin .Add (mBin .Add (mBin .Add (mBin .Add (mV 3) (mK (.str [49]))) (mV 3)) (mCall (lCons (mV 0) lNil) oStr)) (mV 3)) (aV 5)) (bCons (sAsg (mIdx (mList (lCons (mV 5) (lCons (mBin .Add (mV 4) (mV 3)) (lCons (mBin .Add (mV 4) (mK (.str [120]))) (lCons (mBin .Add (mV 4) (mK (.str [120]))) lNil))))) (mBin .Mod (mV 1) (mK (.int 4)))) (aV 4)) bNil)) bNil) (
  bCons (sIf (tCmp .Eq (mBin .Mod (mV 1) (mK (.int 16))) (mK (.int 15))) (bCons (sRet (mBin .Add (mK (.str [50, 50, 57, 32, 111, 107, 41, 32, 40])) (mV 4))) bNil) bNil) (
  bCons (sAsg (mK (.str [70, 76, 65, 71, 83, 32, 40, 47, 97, 61, 47, 97, 98, 32, 47, 97, 98, 61, 47, 97])) (aV 6)) (
  bCons (sAsg (mMeth "str" (mIdx (mList (lCons (mK (.str [32])) (lCons (mK (.str [32, 32])) (lCons (mK (.str [9])) (lCons (mK (.str [13, 10])) lNil))))) (mBin .Mod (mBin .FloorDiv (mV 1) (mK (.int 16))) (mK (.int 4)))) (lCons (mCall lNil (op_law_rules)) lNil) oJoin) (aV 7)) (
  bCons (sAsg (mList (lCons (mK (.str [])) (lCons (mBin .Add (mK (.str [32])) (mV 6)) (lCons (mBin .Add (mBin .Add (mK (.str [10])) (mV 6)) (mK (.str [41]))) (lCons (mK (.str [])) lNil))))) (aV 8)) (
  bCons (sRet (mBin .Add (mBin .Add (mBin .Add (mBin .Add (mBin .Add (mBin .Add (mBin .Add (mBin .Add (mK (.str [50, 50, 57, 32, 111, 107, 41, 32, 40])) (mV 4)) (mK (.str [41, 32, 80, 69, 82, 77, 65, 78, 69, 78, 84]))) (mV 6)) (mK (.str [41, 32, 70, 76, 65, 71, 83, 32, 40]))) (mV 7)) (mK (.str [41]))) (mIdx (mV 8) (mV 2))) (mK (.str [32, 34, 104, 34])))) (
  bNil)))))))))
noncomputable def op_law_answer : OpL := oFun 2 9 (m_law_answer)
theorem b_law_answer {X : Cx} {K : Frag} {ad : Adr} (C : Ctx X K ad) {k : Nat} (hk : k + 1 ≤ 60) : SimB X k (fnScope PySem.Challenge.pw_wn0050_02 15) v_law_answer (fnBody PySem.Challenge.pw_wn0050_02 15) (m_law_answer) := by
  have U : UOk X k := C.U k (by (first | lia | omega))
  refine b_cons ?_ ?_
  · refine st_asg ?_ ?_ (fun _ _ => rfl) (fun _ _ => rfl)
    · refine s_bin ?_ ?_
      · refine s_bin ?_ ?_
        · exact s_loc _ _ 1
        exact s_int 4 _ _
      exact s_int 4 _ _
    exact a_loc _ _ 2
  refine b_cons ?_ ?_
  · refine st_asg ?_ ?_ (fun _ _ => rfl) (fun _ _ => rfl)
    · refine s_idx ?_ ?_
      · exact s_str _ [124, 61, 47, 33] _ _
      refine s_bin ?_ ?_
      · exact s_loc _ _ 1
      exact s_int 4 _ _
    exact a_loc _ _ 3
  refine b_cons ?_ ?_
  · refine st_asg ?_ ?_ (fun _ _ => rfl) (fun _ _ => rfl)
    · refine s_bin ?_ ?_
      · refine s_bin ?_ ?_
        · refine s_bin ?_ ?_
          · refine s_bin ?_ ?_
            · refine s_bin ?_ ?_
              · exact s_loc _ _ 3
              exact s_str _ [49] _ _
            exact s_loc _ _ 3
          exact s_loc _ _ 3
        refine s_call C.g_str (fun _ h => nomatch h) c_str ?_
        refine l_cons ?_ l_nil
        exact s_loc _ _ 0
      exact s_loc _ _ 3
    exact a_loc _ _ 4
  refine b_cons ?_ ?_
  · refine st_if ?_ ?_ ?_
    · refine t_cmp U ?_ ?_
      · exact s_loc _ _ 2
      exact s_int 3 _ _
    · refine b_cons ?_ ?_
      · refine st_asg ?_ ?_ (fun _ _ => rfl) (fun _ _ => rfl)
        · refine s_bin ?_ ?_
          · refine s_bin ?_ ?_
            · refine s_bin ?_ ?_
              · refine s_bin ?_ ?_
                · exact s_loc _ _ 3
                exact s_str _ [49] _ _
              exact s_loc _ _ 3
            refine s_call C.g_str (fun _ h => nomatch h) c_str ?_
            refine l_cons ?_ l_nil
            exact s_loc _ _ 0
          exact s_loc _ _ 3
        exact a_loc _ _ 5
      refine b_cons ?_ ?_
      · refine st_asg ?_ ?_ (fun _ _ => rfl) (fun _ _ => rfl)
        · refine s_idx ?_ ?_
          · refine s_list ?_
            refine l_cons ?_ ?_
            · exact s_loc _ _ 5
            refine l_cons ?_ ?_
            · refine s_bin ?_ ?_
              · exact s_loc _ _ 4
              exact s_loc _ _ 3
            refine l_cons ?_ ?_
            · refine s_bin ?_ ?_
              · exact s_loc _ _ 4
              exact s_str _ [120] _ _
            refine l_cons ?_ l_nil
            refine s_bin ?_ ?_
            · exact s_loc _ _ 4
            exact s_str _ [120] _ _
          refine s_bin ?_ ?_
          · exact s_loc _ _ 1
          exact s_int 4 _ _
        exact a_loc _ _ 4
      exact b_nil
    exact b_nil
  refine b_cons ?_ ?_
  · refine st_if ?_ ?_ ?_
    · refine t_cmp U ?_ ?_
      · refine s_bin ?_ ?_
        · exact s_loc _ _ 1
        exact s_int 16 _ _
      exact s_int 15 _ _
    · refine b_cons ?_ ?_
      · refine st_ret ?_
        refine s_bin ?_ ?_
        · exact s_str _ [50, 50, 57, 32, 111, 107, 41, 32, 40] _ _
        exact s_loc _ _ 4
      exact b_nil
    exact b_nil
  refine b_cons ?_ ?_
  · refine st_asg ?_ ?_ (fun _ _ => rfl) (fun _ _ => rfl)
    · exact s_str _ [70, 76, 65, 71, 83, 32, 40, 47, 97, 61, 47, 97, 98, 32, 47, 97, 98, 61, 47, 97] _ _
    exact a_loc _ _ 6
  refine b_cons ?_ ?_
  · refine st_asg ?_ ?_ (fun _ _ => rfl) (fun _ _ => rfl)
    · refine s_meth ms_join c_join ?_ ?_
      · refine s_idx ?_ ?_
        · refine s_list ?_
          refine l_cons ?_ ?_
          · exact s_str _ [32] _ _
          refine l_cons ?_ ?_
          · exact s_str _ [32, 32] _ _
          refine l_cons ?_ ?_
          · exact s_str _ [9] _ _
          refine l_cons ?_ l_nil
          exact s_str _ [13, 10] _ _
        refine s_bin ?_ ?_
        · refine s_bin ?_ ?_
          · exact s_loc _ _ 1
          exact s_int 16 _ _
        exact s_int 4 _ _
      refine l_cons ?_ l_nil
      exact s_callG C.g_law_rules C.f_law_rules (c_law_rules C (by (first | lia | omega))) l_nil
    exact a_loc _ _ 7
  refine b_cons ?_ ?_
  · refine st_asg ?_ ?_ (fun _ _ => rfl) (fun _ _ => rfl)
    · refine s_list ?_
      refine l_cons ?_ ?_
      · exact s_str _ [] _ _
      refine l_cons ?_ ?_
      · refine s_bin ?_ ?_
        · exact s_str _ [32] _ _
        exact s_loc _ _ 6
      refine l_cons ?_ ?_
      · refine s_bin ?_ ?_
        · refine s_bin ?_ ?_
          · exact s_str _ [10] _ _
          exact s_loc _ _ 6
        exact s_str _ [41] _ _
      refine l_cons ?_ l_nil
      exact s_str _ [] _ _
    exact a_loc _ _ 8
  refine b_cons ?_ ?_
  · refine st_ret ?_
    refine s_bin ?_ ?_
    · refine s_bin ?_ ?_
      · refine s_bin ?_ ?_
        · refine s_bin ?_ ?_
          · refine s_bin ?_ ?_
            · refine s_bin ?_ ?_
              · refine s_bin ?_ ?_
                · refine s_bin ?_ ?_
                  · exact s_str _ [50, 50, 57, 32, 111, 107, 41, 32, 40] _ _
                  exact s_loc _ _ 4
                exact s_str _ [41, 32, 80, 69, 82, 77, 65, 78, 69, 78, 84] _ _
              exact s_loc _ _ 6
            exact s_str _ [41, 32, 70, 76, 65, 71, 83, 32, 40] _ _
          exact s_loc _ _ 7
        exact s_str _ [41] _ _
      refine s_idx ?_ ?_
      · exact s_loc _ _ 8
      exact s_loc _ _ 2
    exact s_str _ [32, 34, 104, 34] _ _
  exact b_nil
theorem c_law_answer {X : Cx} {K : Frag} {ad : Adr} (C : Ctx X K ad) {k : Nat} (hk : k + 2 ≤ 60) : CallOk X k (.ref ad.law_answer) (op_law_answer) :=
  c_fn (vis := v_law_answer) (N := 9) (C.U k (by (first | lia | omega))) C.f_law_answer (by decide +kernel) (b_law_answer C (by (first | lia | omega)))

noncomputable def v_law_row : List (Str × Nat) := [("k", 0), ("answer", 1)]
noncomputable def m_law_row : MS := bCons (sRet (mBin .Add (mBin .Add (mBin .Add (mBin .Add (mCall (lCons (mV 0) lNil) oStr) (mK (.str [61]))) (mBin .Mult (mK (.str [34])) (mBin .Mod (mV 0) (mK (.int 2))))) (mV 1)) (mBin .Mult (mK (.str [34])) (mBin .Mod (mV 0) (mK (.int 2)))))) (
  bNil)
noncomputable def op_law_row : OpL := oFun 2 2 (m_law_row)
theorem b_law_row {X : Cx} {K : Frag} {ad : Adr} (C : Ctx X K ad) {k : Nat} (hk : k + 0 ≤ 60) : SimB X k (fnScope PySem.Challenge.pw_wn0050_02 16) v_law_row (fnBody PySem.Challenge.pw_wn0050_02 16) (m_law_row) := by
  have U : UOk X k := C.U k (by (first | lia | omega))
  refine b_cons ?_ ?_
  · refine st_ret ?_
    refine s_bin ?_ ?_
    · refine s_bin ?_ ?_
      · refine s_bin ?_ ?_
        · refine s_bin ?_ ?_
          · refine s_call C.g_str (fun _ h => nomatch h) c_str ?_
            refine l_cons ?_ l_nil
            exact s_loc _ _ 0
          exact s_str _ [61] _ _
        refine s_bin ?_ ?_
        · exact s_str _ [34] _ _
        refine s_bin ?_ ?_
        · exact s_loc _ _ 0
        exact s_int 2 _ _
      exact s_loc _ _ 1
    refine s_bin ?_ ?_
    · exact s_str _ [34] _ _
    refine s_bin ?_ ?_
    · exact s_loc _ _ 0
    exact s_int 2 _ _
  exact b_nil
theorem c_law_row {X : Cx} {K : Frag} {ad : Adr} (C : Ctx X K ad) {k : Nat} (hk : k + 1 ≤ 60) : CallOk X k (.ref ad.law_row) (op_law_row) :=
  c_fn (vis := v_law_row) (N := 2) (C.U k (by (first | lia | omega))) C.f_law_row (by decide +kernel) (b_law_row C (by (first | lia | omega)))

noncomputable def v_law_told : List (Str × Nat) := [("answer", 0), ("peer", 1)]
noncomputable def m_law_told : MS := bCons (sTry (lCons (mV 0) (lCons (mV 1) lNil)) opx_parse229) (
  bNil)
noncomputable def op_law_told : OpL := oFun 2 2 (m_law_told)
theorem b_law_told {X : Cx} {K : Frag} {ad : Adr} (C : Ctx X K ad) {k : Nat} (hk : k + 1 ≤ 60) : SimB X k (fnScope PySem.Challenge.pw_wn0050_02 17) v_law_told (fnBody PySem.Challenge.pw_wn0050_02 17) (m_law_told) := by
  have U : UOk X k := C.U k (by (first | lia | omega))
  refine b_cons ?_ ?_
  · refine st_tryRetW U C.kat C.g_parse229 C.f_parse229 (cx_parse229 C (by (first | lia | omega))) ?_ C.g_exc C.exc C.g_str
    refine l_cons ?_ ?_
    · exact s_loc _ _ 0
    refine l_cons ?_ l_nil
    exact s_loc _ _ 1
  exact b_nil
theorem c_law_told {X : Cx} {K : Frag} {ad : Adr} (C : Ctx X K ad) {k : Nat} (hk : k + 2 ≤ 60) : CallOk X k (.ref ad.law_told) (op_law_told) :=
  c_fn (vis := v_law_told) (N := 2) (C.U k (by (first | lia | omega))) C.f_law_told (by decide +kernel) (b_law_told C (by (first | lia | omega)))

noncomputable def v_law_led : List (Str × Nat) := [("answer", 0), ("told", 1), ("place", 2), ("back", 3), ("host", 4), ("level", 5), ("flags", 6), ("table", 7), ("end", 8), ("manager", 9), ("deep", 10), ("said", 11), ("met", 12)]
noncomputable def v_law_led_0 : List (Str × Nat) := [("rule", 13)]
noncomputable def v_law_led_1 : List (Str × Nat) := [("flag", 14)]
noncomputable def v_law_led_2 : List (Str × Nat) := [("base", 15), ("table", 7), ("table", 7)]
noncomputable def v_law_led_3 : List (Str × Nat) := [("base", 16), ("place", 2), ("place", 2), ("host", 4), ("host", 4), ("end", 8), ("end", 8), ("manager", 9), ("manager", 9), ("deep", 10), ("deep", 10)]
noncomputable def v_law_led_4 : List (Str × Nat) := [("base", 17), ("yes", 18)]
noncomputable def v_law_led_5 : List (Str × Nat) := [("base", 19), ("yes", 20)]
noncomputable def m_law_led (ad : Adr) : MS := bCons (sIf (tCmp .Eq (mCall (lCons (mV 1) lNil) oLen) (mK (.int 1))) (bCons (sRet (mV 2)) bNil) bNil) (
  bCons (sAsg (mV 1) (aTup 2 (aCons (aV 4) (aCons (aV 5) aNil)))) (
  bCons (sAsg (mCall (lCons (mMeth "str" (mV 0) lNil oEncode) lNil) (op_ParseFlags)) (aV 6)) (
  bCons (sIf (tCmp .NotEq (mV 6) (mCall (lCons (mComp [13] (iVal (mCall lNil (op_law_rules)) (aV 13)) (gIf (tK true) (gList (mMeth "str" (mV 13) lNil oEncode)))) lNil) oTuple)) (bCons (sRet (mTup (lCons (mK (.str [])) (lCons (mK (.str [])) lNil)))) bNil) bNil) (
  bCons (sAsg (mCall (lCons (mComp [14] (iVal (mV 6) (aV 14)) (gIf (tK true) (gList (mMeth "bytes" (mV 14) lNil oDecode)))) lNil) (op_parse_keqv_list)) (aV 7)) (
  bCons (sAsg (mK (.str [])) (aV 8)) (
  bCons (sIf (tVal (mV 3)) (bCons (sAsg (mCall (lCons (mComp [15] (iVal (mV 7) (aV 15)) (gIf (tK true) (gList (mBin .Add (mBin .Add (mIdx (mV 7) (mV 15)) (mK (.str [61]))) (mV 15))))) lNil) (op_parse_keqv_list)) (aV 7)) (bCons (sAsg (mK (.str [47])) (aV 8)) bNil)) bNil) (
  bCons (sAsg (mK (.inst ad.mgr)) (aV 9)) (
  bCons (sAsg (mBin .Mult (mK (.str [47, 97, 98])) (mV 5)) (aV 10)) (
  bCons (sAsg (mComp [16] (iVal (mV 7) (aV 16)) (gIf (tK true) (gList (mTup (lCons (mV 16) (lCons (mSub ad.mgr (mV 9) (lCons (mTup (lCons (mV 4) (lCons (mBin .Add (mBin .Add (mV 10) (mV 16)) (mV 8)) lNil))) (lCons (mV 2) lNil)) op_is_suburi) lNil)))))) (aV 11)) (
  bCons (sAsg (mComp [17, 18] (iVal (mV 11) (aTup 2 (aCons (aV 17) (aCons (aV 18) aNil)))) (gIf (tCmp .Is (mV 18) (mK (.bool true))) (gList (mV 17)))) (aV 12)) (
  bCons (sIf (tOr (tCmp .Gt (mCall (lCons (mV 12) lNil) oLen) (mK (.int 1))) (tOr (tCmp .NotEq (mComp [19, 20] (iVal (mV 11) (aTup 2 (aCons (aV 19) (aCons (aV 20) aNil)))) (gIf (tAnd (tCmp .IsNot (mV 20) (mK (.bool true))) (tAnd (tCmp .IsNot (mV 20) (mK (.bool false))) (tK true))) (gList (mV 19)))) (mList lNil)) (tK false))) (bCons (sRet (mTup (lCons (mK (.str [])) (lCons (mK (.str [])) lNil)))) bNil) bNil) (
  bCons (sIf (tCmp .IsNot (mSub ad.mgr (mV 9) (lCons (mV 2) (lCons (mV 2) lNil)) op_is_suburi) (mK (.bool true))) (bCons (sRet (mTup (lCons (mK (.str [])) (lCons (mK (.str [])) lNil)))) bNil) bNil) (
  bCons (sIf (tCmp .Eq (mV 12) (mList lNil)) (bCons (sRet (mV 2)) bNil) bNil) (
  bCons (sRet (mTup (lCons (mV 4) (lCons (mBin .Add (mBin .Add (mV 10) (mIdx (mV 7) (mIdx (mV 12) (mK (.int 0))))) (mSlc (mIdx (mV 2) (mK (.int 1))) (mCall (lCons (mBin .Add (mV 10) (mIdx (mV 12) (mK (.int 0)))) lNil) oLen) (mK .none) (mK .none))) lNil)))) (
  bNil)))))))))))))))
noncomputable def op_law_led (ad : Adr) : OpL := oFun 4 21 (m_law_led ad)
theorem b_law_led {X : Cx} {K : Frag} {ad : Adr} (C : Ctx X K ad) {k : Nat} (hk : k + 1 ≤ 60) : SimB X k (fnScope PySem.Challenge.pw_wn0050_02 18) v_law_led (fnBody PySem.Challenge.pw_wn0050_02 18) (m_law_led ad) := by
  have U : UOk X k := C.U k (by (first | lia | omega))
  refine b_cons ?_ ?_
  · refine st_if ?_ ?_ ?_
    · refine t_cmp U ?_ ?_
      · refine s_call C.g_len (fun _ h => nomatch h) c_len ?_
        refine l_cons ?_ l_nil
        exact s_loc _ _ 1
      exact s_int 1 _ _
    · refine b_cons ?_ ?_
      · refine st_ret ?_
        exact s_cell _ _ 2
      exact b_nil
    exact b_nil
  refine b_cons ?_ ?_
  · refine st_asg ?_ ?_ (fun _ _ => rfl) (fun _ _ => rfl)
    · exact s_loc _ _ 1
    refine a_tup ?_
    refine as_cons ?_ ?_
    · exact a_cell _ _ 4
    refine as_cons ?_ as_nil
    exact a_loc _ _ 5
  refine b_cons ?_ ?_
  · refine st_asg ?_ ?_ (fun _ _ => rfl) (fun _ _ => rfl)
    · refine s_callG C.g_ParseFlags C.f_ParseFlags (c_ParseFlags C (by (first | lia | omega))) ?_
      refine l_cons ?_ l_nil
      refine s_meth ms_encode c_encode ?_ l_nil
      exact s_loc _ _ 0
    exact a_loc _ _ 6
  refine b_cons ?_ ?_
  · refine st_if ?_ ?_ ?_
    · refine t_cmp U ?_ ?_
      · exact s_loc _ _ 6
      refine s_call C.g_tuple (fun _ h => nomatch h) c_tuple ?_
      refine l_cons ?_ l_nil
      refine s_lcomp v_law_led_0 [13] (by decide +kernel) ?_ (oi_val (fun a => only_loc a)) ?_
      · refine i_val ?_ ?_
        · exact s_callG C.g_law_rules C.f_law_rules (c_law_rules C (by (first | lia | omega))) l_nil
        exact a_loc _ _ 13
      refine g_last f_nil ?_
      refine em_list ?_
      refine s_meth ms_encode c_encode ?_ l_nil
      exact s_loc _ _ 13
    · refine b_cons ?_ ?_
      · refine st_ret ?_
        refine s_tup ?_
        refine l_cons ?_ ?_
        · exact s_str _ [] _ _
        refine l_cons ?_ l_nil
        exact s_str _ [] _ _
      exact b_nil
    exact b_nil
  refine b_cons ?_ ?_
  · refine st_asg ?_ ?_ (fun _ _ => rfl) (fun _ _ => rfl)
    · refine s_callG C.g_parse_keqv_list C.f_parse_keqv_list (c_parse_keqv_list C (by (first | lia | omega))) ?_
      refine l_cons ?_ l_nil
      refine s_lcomp v_law_led_1 [14] (by decide +kernel) ?_ (oi_val (fun a => only_loc a)) ?_
      · refine i_val ?_ ?_
        · exact s_loc _ _ 6
        exact a_loc _ _ 14
      refine g_last f_nil ?_
      refine em_list ?_
      refine s_meth mb_decode c_decode ?_ l_nil
      exact s_loc _ _ 14
    exact a_cell _ _ 7
  refine b_cons ?_ ?_
  · refine st_asg ?_ ?_ (fun _ _ => rfl) (fun _ _ => rfl)
    · exact s_str _ [] _ _
    exact a_cell _ _ 8
  refine b_cons ?_ ?_
  · refine st_if ?_ ?_ ?_
    · refine t_val ?_
      exact s_loc _ _ 3
    · refine b_cons ?_ ?_
      · refine st_asg ?_ ?_ (fun _ _ => rfl) (fun _ _ => rfl)
        · refine s_callG C.g_parse_keqv_list C.f_parse_keqv_list (c_parse_keqv_list C (by (first | lia | omega))) ?_
          refine l_cons ?_ l_nil
          refine s_lcomp v_law_led_2 [15] (by decide +kernel) ?_ (oi_val (fun a => only_loc a)) ?_
          · refine i_val ?_ ?_
            · exact s_cell _ _ 7
            exact a_loc _ _ 15
          refine g_last f_nil ?_
          refine em_list ?_
          refine s_bin ?_ ?_
          · refine s_bin ?_ ?_
            · refine s_idx ?_ ?_
              · exact s_cell _ _ 7
              exact s_loc _ _ 15
            exact s_str _ [61] _ _
          exact s_loc _ _ 15
        exact a_cell _ _ 7
      refine b_cons ?_ ?_
      · refine st_asg ?_ ?_ (fun _ _ => rfl) (fun _ _ => rfl)
        · exact s_str _ [47] _ _
        exact a_cell _ _ 8
      exact b_nil
    exact b_nil
  refine b_cons ?_ ?_
  · refine st_asg ?_ ?_ (fun _ _ => rfl) (fun _ _ => rfl)
    · exact s_newW U C.mgr C.g_mgr
    exact a_cell _ _ 9
  refine b_cons ?_ ?_
  · refine st_asg ?_ ?_ (fun _ _ => rfl) (fun _ _ => rfl)
    · refine s_bin ?_ ?_
      · exact s_str _ [47, 97, 98] _ _
      exact s_loc _ _ 5
    exact a_cell _ _ 10
  refine b_cons ?_ ?_
  · refine st_asg_lcomp v_law_led_3 [16] (by decide +kernel) ?_ (oi_val (fun a => only_loc a)) ?_ ?_ (by intro env h; cases env; cases h; rfl)
    · refine i_val ?_ ?_
      · exact s_cell _ _ 7
      exact a_loc _ _ 16
    · refine g_last f_nil ?_
      refine em_list ?_
      refine s_tup ?_
      refine l_cons ?_ ?_
      · exact s_loc _ _ 16
      refine l_cons ?_ l_nil
      refine s_subW C.mgr (c_is_suburi C (by (first | lia | omega))) ?_ ?_
      · exact s_cell _ _ 9
      refine l_cons ?_ ?_
      · refine s_tup ?_
        refine l_cons ?_ ?_
        · exact s_cell _ _ 4
        refine l_cons ?_ l_nil
        refine s_bin ?_ ?_
        · refine s_bin ?_ ?_
          · exact s_cell _ _ 10
          exact s_loc _ _ 16
        exact s_cell _ _ 8
      refine l_cons ?_ l_nil
      exact s_cell _ _ 2
    exact a_loc _ _ 11
  refine b_cons ?_ ?_
  · refine st_asg_lcomp v_law_led_4 [17, 18] (by decide +kernel) ?_ (oi_val (only_tup (onl_cons (fun a => only_loc a) (onl_cons (fun a => only_loc a) onl_nil)))) ?_ ?_ (by intro env h; cases env; cases h; rfl)
    · refine i_val ?_ ?_
      · exact s_loc _ _ 11
      refine a_tup ?_
      refine as_cons ?_ ?_
      · exact a_loc _ _ 17
      refine as_cons ?_ as_nil
      exact a_loc _ _ 18
    · refine g_last ?_ ?_
      · refine f_one ?_
        refine t_cmp U ?_ ?_
        · exact s_loc _ _ 18
        exact s_bool true _ _
      refine em_list ?_
      exact s_loc _ _ 17
    exact a_loc _ _ 12
  refine b_cons ?_ ?_
  · refine st_if ?_ ?_ ?_
    · refine t_bool ?_
      refine a_consO ?_ ?_
      · refine t_cmp U ?_ ?_
        · refine s_call C.g_len (fun _ h => nomatch h) c_len ?_
          refine l_cons ?_ l_nil
          exact s_loc _ _ 12
        exact s_int 1 _ _
      refine a_consO ?_ a_nilO
      refine t_cmp U ?_ ?_
      · refine s_lcomp v_law_led_5 [19, 20] (by decide +kernel) ?_ (oi_val (only_tup (onl_cons (fun a => only_loc a) (onl_cons (fun a => only_loc a) onl_nil)))) ?_
        · refine i_val ?_ ?_
          · exact s_loc _ _ 11
          refine a_tup ?_
          refine as_cons ?_ ?_
          · exact a_loc _ _ 19
          refine as_cons ?_ as_nil
          exact a_loc _ _ 20
        refine g_last ?_ ?_
        · refine f_one ?_
          refine t_bool ?_
          refine a_consA ?_ ?_
          · refine t_cmp U ?_ ?_
            · exact s_loc _ _ 20
            exact s_bool true _ _
          refine a_consA ?_ a_nilA
          refine t_cmp U ?_ ?_
          · exact s_loc _ _ 20
          exact s_bool false _ _
        refine em_list ?_
        exact s_loc _ _ 19
      exact s_list l_nil
    · refine b_cons ?_ ?_
      · refine st_ret ?_
        refine s_tup ?_
        refine l_cons ?_ ?_
        · exact s_str _ [] _ _
        refine l_cons ?_ l_nil
        exact s_str _ [] _ _
      exact b_nil
    exact b_nil
  refine b_cons ?_ ?_
  · refine st_if ?_ ?_ ?_
    · refine t_cmp U ?_ ?_
      · refine s_subW C.mgr (c_is_suburi C (by (first | lia | omega))) ?_ ?_
        · exact s_cell _ _ 9
        refine l_cons ?_ ?_
        · exact s_cell _ _ 2
        refine l_cons ?_ l_nil
        exact s_cell _ _ 2
      exact s_bool true _ _
    · refine b_cons ?_ ?_
      · refine st_ret ?_
        refine s_tup ?_
        refine l_cons ?_ ?_
        · exact s_str _ [] _ _
        refine l_cons ?_ l_nil
        exact s_str _ [] _ _
      exact b_nil
    exact b_nil
  refine b_cons ?_ ?_
  · refine st_if ?_ ?_ ?_
    · refine t_cmp U ?_ ?_
      · exact s_loc _ _ 12
      exact s_list l_nil
    · refine b_cons ?_ ?_
      · refine st_ret ?_
        exact s_cell _ _ 2
      exact b_nil
    exact b_nil
  refine b_cons ?_ ?_
  · refine st_ret ?_
    refine s_tup ?_
    refine l_cons ?_ ?_
    · exact s_cell _ _ 4
    refine l_cons ?_ l_nil
    refine s_bin ?_ ?_
    · refine s_bin ?_ ?_
      · exact s_cell _ _ 10
      refine s_idx ?_ ?_
      · exact s_cell _ _ 7
      refine s_idx ?_ ?_
      · exact s_loc _ _ 12
      exact s_int 0 _ _
    refine s_slc ?_ ?_ o_none o_none
    · refine s_idx ?_ ?_
      · exact s_cell _ _ 2
      exact s_int 1 _ _
    refine o_some ?_
    refine s_call C.g_len (fun _ h => nomatch h) c_len ?_
    refine l_cons ?_ l_nil
    refine s_bin ?_ ?_
    · exact s_cell _ _ 10
    refine s_idx ?_ ?_
    · exact s_loc _ _ 12
    exact s_int 0 _ _
  exact b_nil
theorem c_law_led {X : Cx} {K : Frag} {ad : Adr} (C : Ctx X K ad) {k : Nat} (hk : k + 2 ≤ 60) : CallOk X k (.ref ad.law_led) (op_law_led ad) :=
  c_fn (vis := v_law_led) (N := 21) (C.U k (by (first | lia | omega))) C.f_law_led (by decide +kernel) (b_law_led C (by (first | lia | omega)))

noncomputable def v_law_due : List (Str × Nat) := [("bits", 0), ("levels", 1), ("depth", 2), ("left", 3), ("level", 4), ("span", 5)]
noncomputable def v_law_due_0 : List (Str × Nat) := [("i", 6), ("bits", 0), ("bits", 0)]
noncomputable def v_law_due_1 : List (Str × Nat) := [("i", 7), ("left", 3), ("left", 3)]
noncomputable def m_law_due : MS := bCons (sAsg (mK (.int 14)) (aV 2)) (
  bCons (sAsg (mBin .Sub (mBin .Pow (mK (.int 2)) (mK (.int 19))) (mCall (lCons (mComp [6] (iVal (mCall (lCons (mK (.int 14)) lNil) oRange) (aV 6)) (gIf (tK true) (gList (mBin .Mult (mIdx (mV 0) (mV 6)) (mBin .Pow (mK (.int 2)) (mBin .Sub (mK (.int 18)) (mV 6))))))) lNil) oSum)) (aV 3)) (
  bCons (sFor (iVal (mV 1) (aV 4)) (bCons (sAsg (mBin .Pow (mK (.int 2)) (mBin .Sub (mK (.int 19)) (mV 4))) (aV 5)) (bCons (sIf (tCmp .LtE (mBin .Mult (mK (.int 4)) (mV 3)) (mV 5)) (bCons (sAsg (mBin .Mult (mK (.int 2)) (mV 3)) (aV 3)) (bCons (sAsg (mBin .Sub (mV 2) (mK (.int 1))) (aV 2)) bNil)) (bCons (sIf (tCmp .LtE (mBin .Mult (mK (.int 2)) (mV 3)) (mV 5)) (bCons (sAsg (mBin .Add (mV 3) (mBin .FloorDiv (mV 5) (mK (.int 4)))) (aV 3)) bNil) (bCons (sIf (tCmp .LtE (mV 3) (mV 5)) (bCons (sAsg (mBin .FloorDiv (mBin .Add (mV 3) (mV 5)) (mK (.int 2))) (aV 3)) (bCons (sAsg (mBin .Add (mV 2) (mK (.int 1))) (aV 2)) bNil)) bNil) bNil)) bNil)) bNil))) (
  bCons (sRet (mMeth "str" (mK (.str [])) (lCons (mComp [7] (iVal (mCall (lCons (mV 2) lNil) oRange) (aV 7)) (gIf (tK true) (gList (mIdx (mList (lCons (mK (.str [47, 97])) (lCons (mK (.str [47, 97, 98])) lNil))) (mBin .Mod (mBin .FloorDiv (mBin .Sub (mBin .Pow (mK (.int 2)) (mK (.int 19))) (mV 3)) (mBin .Pow (mK (.int 2)) (mBin .Sub (mK (.int 18)) (mV 7)))) (mK (.int 2))))))) lNil) oJoin)) (
  bNil))))
noncomputable def op_law_due : OpL := oFun 2 8 (m_law_due)
theorem b_law_due {X : Cx} {K : Frag} {ad : Adr} (C : Ctx X K ad) {k : Nat} (hk : k + 0 ≤ 60) : SimB X k (fnScope PySem.Challenge.pw_wn0050_02 19) v_law_due (fnBody PySem.Challenge.pw_wn0050_02 19) (m_law_due) := by
  have U : UOk X k := C.U k (by (first | lia | omega))
  refine b_cons ?_ ?_
  · refine st_asg ?_ ?_ (fun _ _ => rfl) (fun _ _ => rfl)
    · exact s_int 14 _ _
    exact a_loc _ _ 2
  refine b_cons ?_ ?_
  · refine st_asg ?_ ?_ (fun _ _ => rfl) (fun _ _ => rfl)
    · refine s_bin ?_ ?_
      · refine s_bin ?_ ?_
        · exact s_int 2 _ _
        exact s_int 19 _ _
      refine s_call C.g_sum (fun _ h => nomatch h) c_sum ?_
      refine l_cons ?_ l_nil
      refine s_lcomp v_law_due_0 [6] (by decide +kernel) ?_ (oi_val (fun a => only_loc a)) ?_
      · refine i_val ?_ ?_
        · refine s_call C.g_range (fun _ h => nomatch h) c_range ?_
          refine l_cons ?_ l_nil
          exact s_int 14 _ _
        exact a_loc _ _ 6
      refine g_last f_nil ?_
      refine em_list ?_
      refine s_bin ?_ ?_
      · refine s_idx ?_ ?_
        · exact s_cell _ _ 0
        exact s_loc _ _ 6
      refine s_bin ?_ ?_
      · exact s_int 2 _ _
      refine s_bin ?_ ?_
      · exact s_int 18 _ _
      exact s_loc _ _ 6
    exact a_cell _ _ 3
  refine b_cons ?_ ?_
  · refine st_for ?_ ?_
    · refine i_val ?_ ?_
      · exact s_loc _ _ 1
      exact a_loc _ _ 4
    refine b_cons ?_ ?_
    · refine st_asg ?_ ?_ (fun _ _ => rfl) (fun _ _ => rfl)
      · refine s_bin ?_ ?_
        · exact s_int 2 _ _
        refine s_bin ?_ ?_
        · exact s_int 19 _ _
        exact s_loc _ _ 4
      exact a_loc _ _ 5
    refine b_cons ?_ ?_
    · refine st_if ?_ ?_ ?_
      · refine t_cmp U ?_ ?_
        · refine s_bin ?_ ?_
          · exact s_int 4 _ _
          exact s_cell _ _ 3
        exact s_loc _ _ 5
      · refine b_cons ?_ ?_
        · refine st_asg ?_ ?_ (fun _ _ => rfl) (fun _ _ => rfl)
          · refine s_bin ?_ ?_
            · exact s_int 2 _ _
            exact s_cell _ _ 3
          exact a_cell _ _ 3
        refine b_cons ?_ ?_
        · refine st_asg ?_ ?_ (fun _ _ => rfl) (fun _ _ => rfl)
          · refine s_bin ?_ ?_
            · exact s_loc _ _ 2
            exact s_int 1 _ _
          exact a_loc _ _ 2
        exact b_nil
      refine b_cons ?_ ?_
      · refine st_if ?_ ?_ ?_
        · refine t_cmp U ?_ ?_
          · refine s_bin ?_ ?_
            · exact s_int 2 _ _
            exact s_cell _ _ 3
          exact s_loc _ _ 5
        · refine b_cons ?_ ?_
          · refine st_asg ?_ ?_ (fun _ _ => rfl) (fun _ _ => rfl)
            · refine s_bin ?_ ?_
              · exact s_cell _ _ 3
              refine s_bin ?_ ?_
              · exact s_loc _ _ 5
              exact s_int 4 _ _
            exact a_cell _ _ 3
          exact b_nil
        refine b_cons ?_ ?_
        · refine st_if ?_ ?_ ?_
          · refine t_cmp U ?_ ?_
            · exact s_cell _ _ 3
            exact s_loc _ _ 5
          · refine b_cons ?_ ?_
            · refine st_asg ?_ ?_ (fun _ _ => rfl) (fun _ _ => rfl)
              · refine s_bin ?_ ?_
                · refine s_bin ?_ ?_
                  · exact s_cell _ _ 3
                  exact s_loc _ _ 5
                exact s_int 2 _ _
              exact a_cell _ _ 3
            refine b_cons ?_ ?_
            · refine st_asg ?_ ?_ (fun _ _ => rfl) (fun _ _ => rfl)
              · refine s_bin ?_ ?_
                · exact s_loc _ _ 2
                exact s_int 1 _ _
              exact a_loc _ _ 2
            exact b_nil
          exact b_nil
        exact b_nil
      exact b_nil
    exact b_nil
  refine b_cons ?_ ?_
  · refine st_ret ?_
    refine s_meth ms_join c_join ?_ ?_
    · exact s_str _ [] _ _
    refine l_cons ?_ l_nil
    refine s_lcomp v_law_due_1 [7] (by decide +kernel) ?_ (oi_val (fun a => only_loc a)) ?_
    · refine i_val ?_ ?_
      · refine s_call C.g_range (fun _ h => nomatch h) c_range ?_
        refine l_cons ?_ l_nil
        exact s_loc _ _ 2
      exact a_loc _ _ 7
    refine g_last f_nil ?_
    refine em_list ?_
    refine s_idx ?_ ?_
    · refine s_list ?_
      refine l_cons ?_ ?_
      · exact s_str _ [47, 97] _ _
      refine l_cons ?_ l_nil
      exact s_str _ [47, 97, 98] _ _
    refine s_bin ?_ ?_
    · refine s_bin ?_ ?_
      · refine s_bin ?_ ?_
        · refine s_bin ?_ ?_
          · exact s_int 2 _ _
          exact s_int 19 _ _
        exact s_cell _ _ 3
      refine s_bin ?_ ?_
      · exact s_int 2 _ _
      refine s_bin ?_ ?_
      · exact s_int 18 _ _
      exact s_loc _ _ 7
    exact s_int 2 _ _
  exact b_nil
theorem c_law_due {X : Cx} {K : Frag} {ad : Adr} (C : Ctx X K ad) {k : Nat} (hk : k + 1 ≤ 60) : CallOk X k (.ref ad.law_due) (op_law_due) :=
  c_fn (vis := v_law_due) (N := 8) (C.U k (by (first | lia | omega))) C.f_law_due (by decide +kernel) (b_law_due C (by (first | lia | omega)))

noncomputable def v_law_falling : List (Str × Nat) := [("levels", 0), ("row", 1), ("level", 2), ("place", 3)]
noncomputable def m_law_falling : MS := bCons (sAsg (mNewL lNil) (aV 1)) (
  bCons (sFor (iVal (mV 0) (aV 2)) (bCons (sAsg (mCall (lCons (mV 1) lNil) oLen) (aV 3)) (bCons (whileG 100 (tAnd (tCmp .Gt (mV 3) (mK (.int 0))) (tAnd (tCmp .Lt (mIdx (mV 1) (mBin .Sub (mV 3) (mK (.int 1)))) (mV 2)) (tK true))) (bCons (sAsg (mBin .Sub (mV 3) (mK (.int 1))) (aV 3)) (bCons (sAsg (mBin .Add (mV 2) (mK (.int 1))) (aV 2)) bNil))) (bCons (sExpr (mMeth "list" (mV 1) (lCons (mV 3) (lCons (mV 2) lNil)) oInsert)) bNil)))) (
  bCons (sRet (mFrz (mV 1))) (
  bNil)))
noncomputable def op_law_falling : OpL := oFun 1 4 (m_law_falling)
theorem b_law_falling {X : Cx} {K : Frag} {ad : Adr} (C : Ctx X K ad) {k : Nat} (hk : k + 0 ≤ 60) : SimB X k (fnScope PySem.Challenge.pw_wn0050_02 20) v_law_falling (fnBody PySem.Challenge.pw_wn0050_02 20) (m_law_falling) := by
  have U : UOk X k := C.U k (by (first | lia | omega))
  refine b_cons ?_ ?_
  · refine st_asg ?_ ?_ (fun _ _ => rfl) (fun _ _ => rfl)
    · exact s_newL l_nil
    exact a_loc _ _ 1
  refine b_cons ?_ ?_
  · refine st_for ?_ ?_
    · refine i_val ?_ ?_
      · exact s_loc _ _ 0
      exact a_loc _ _ 2
    refine b_cons ?_ ?_
    · refine st_asg ?_ ?_ (fun _ _ => rfl) (fun _ _ => rfl)
      · refine s_call C.g_len (fun _ h => nomatch h) c_len ?_
        refine l_cons ?_ l_nil
        exact s_loc _ _ 1
      exact a_loc _ _ 3
    refine b_cons ?_ ?_
    · refine st_while 100 ?_ ?_
      · refine t_bool ?_
        refine a_consA ?_ ?_
        · refine t_cmp U ?_ ?_
          · exact s_loc _ _ 3
          exact s_int 0 _ _
        refine a_consA ?_ a_nilA
        refine t_cmp U ?_ ?_
        · refine s_idx ?_ ?_
          · exact s_loc _ _ 1
          refine s_bin ?_ ?_
          · exact s_loc _ _ 3
          exact s_int 1 _ _
        exact s_loc _ _ 2
      refine b_cons ?_ ?_
      · refine st_asg ?_ ?_ (fun _ _ => rfl) (fun _ _ => rfl)
        · refine s_bin ?_ ?_
          · exact s_loc _ _ 3
          exact s_int 1 _ _
        exact a_loc _ _ 3
      refine b_cons ?_ ?_
      · refine st_asg ?_ ?_ (fun _ _ => rfl) (fun _ _ => rfl)
        · refine s_bin ?_ ?_
          · exact s_loc _ _ 2
          exact s_int 1 _ _
        exact a_loc _ _ 2
      exact b_nil
    refine b_cons ?_ ?_
    · refine st_expr ?_ (fun _ _ => rfl)
      refine s_meth ml_insert c_insert ?_ ?_
      · exact s_loc _ _ 1
      refine l_cons ?_ ?_
      · exact s_loc _ _ 3
      refine l_cons ?_ l_nil
      exact s_loc _ _ 2
    exact b_nil
  refine b_cons ?_ ?_
  · refine st_ret ?_
    refine s_frz ?_
    exact s_loc _ _ 1
  exact b_nil
theorem c_law_falling {X : Cx} {K : Frag} {ad : Adr} (C : Ctx X K ad) {k : Nat} (hk : k + 1 ≤ 60) : CallOk X k (.ref ad.law_falling) (op_law_falling) :=
  c_fn (vis := v_law_falling) (N := 4) (C.U k (by (first | lia | omega))) C.f_law_falling (by decide +kernel) (b_law_falling C (by (first | lia | omega)))

noncomputable def v_law : List (Str × Nat) := [("script", 0), ("cells", 1), ("lead", 2), ("bits", 3), ("place", 4), ("levels", 5), ("dress", 6), ("hosts", 7), ("answers", 8), ("spoiled", 9), ("rows", 10), ("book", 11), ("told", 12), ("there", 13), ("k", 14), ("counted", 15), ("falling", 16), ("later", 17), ("again", 18), ("i", 19)]
noncomputable def v_law_0 : List (Str × Nat) := [("k", 20), ("base", 21), ("script", 0), ("script", 0)]
noncomputable def v_law_1 : List (Str × Nat) := [("i", 22), ("cells", 1), ("cells", 1)]
noncomputable def v_law_2 : List (Str × Nat) := [("bit", 23)]
noncomputable def v_law_3 : List (Str × Nat) := [("k", 24), ("cells", 1), ("cells", 1)]
noncomputable def v_law_4 : List (Str × Nat) := [("k", 25), ("cells", 1), ("cells", 1)]
noncomputable def v_law_5 : List (Str × Nat) := [("d", 26)]
noncomputable def v_law_6 : List (Str × Nat) := [("k", 27), ("levels", 5), ("levels", 5), ("dress", 6), ("dress", 6)]
noncomputable def v_law_7 : List (Str × Nat) := [("k", 28), ("dress", 6), ("dress", 6)]
noncomputable def v_law_8 : List (Str × Nat) := [("k", 29), ("answers", 8), ("answers", 8)]
noncomputable def v_law_9 : List (Str × Nat) := [("k", 30), ("answers", 8), ("answers", 8)]
noncomputable def v_law_10 : List (Str × Nat) := [("k", 31), ("hosts", 7), ("hosts", 7), ("book", 11), ("book", 11)]
noncomputable def v_law_11 : List (Str × Nat) := [("k", 32), ("levels", 5), ("levels", 5), ("hosts", 7), ("hosts", 7), ("answers", 8), ("answers", 8), ("spoiled", 9), ("spoiled", 9)]
noncomputable def v_law_12 : List (Str × Nat) := [("k", 33), ("levels", 5), ("levels", 5), ("hosts", 7), ("hosts", 7), ("spoiled", 9), ("spoiled", 9)]
noncomputable def v_law_13 : List (Str × Nat) := [("i", 34), ("falling", 16), ("falling", 16)]
noncomputable def v_law_14 : List (Str × Nat) := [("i", 35), ("later", 17), ("later", 17)]
noncomputable def v_law_15 : List (Str × Nat) := [("k", 36), ("answer", 37)]
noncomputable def v_law_16 : List (Str × Nat) := [("answer", 38)]
noncomputable def v_law_17 : List (Str × Nat) := [("level", 39)]
noncomputable def m_law (ad : Adr) : MS := bCons (sAsg (mComp [20, 21] (iEnum (mList (lCons (mK (.int 147)) (lCons (mK (.int 96)) (lCons (mK (.int 150560359425)) lNil)))) (aCons (aV 20) (aCons (aV 21) aNil))) (gIf (tK true) (gList (mBin .Add (mV 21) (mCall (lCons (mSlc (mV 0) (mV 20) (mK .none) (mK (.int 3))) lNil) oSum))))) (aV 1)) (
  bCons (sAsg (mBin .Mod (mIdx (mV 1) (mK (.int 0))) (mK (.int 8))) (aV 2)) (
  bCons (sAsg (mBin .Add (mBin .Mult (mList (lCons (mK (.int 1)) lNil)) (mV 2)) (mComp [22] (iVal (mCall (lCons (mBin .Sub (mK (.int 14)) (mV 2)) lNil) oRange) (aV 22)) (gIf (tK true) (gList (mBin .Mod (mBin .FloorDiv (mBin .FloorDiv (mIdx (mV 1) (mK (.int 0))) (mK (.int 8))) (mBin .Pow (mK (.int 2)) (mV 22))) (mK (.int 2))))))) (aV 3)) (
  bCons (sAsg (mTup (lCons (mK (.str [104])) (lCons (mMeth "str" (mK (.str [])) (lCons (mComp [23] (iVal (mV 3) (aV 23)) (gIf (tK true) (gList (mIdx (mList (lCons (mK (.str [47, 97])) (lCons (mK (.str [47, 97, 98])) lNil))) (mV 23))))) lNil) oJoin) lNil))) (aV 4)) (
  bCons (sAsg (mComp [24] (iVal (mCall (lCons (mK (.int 5)) lNil) oRange) (aV 24)) (gIf (tK true) (gList (mBin .Mod (mBin .FloorDiv (mIdx (mV 1) (mK (.int 1))) (mBin .Pow (mK (.int 3)) (mV 24))) (mK (.int 3)))))) (aV 5)) (
  bCons (sAsg (mComp [25] (iVal (mCall (lCons (mK (.int 5)) lNil) oRange) (aV 25)) (gIf (tK true) (gList (mBin .Mod (mBin .FloorDiv (mIdx (mV 1) (mK (.int 2))) (mBin .Pow (mK (.int 256)) (mV 25))) (mK (.int 256)))))) (aV 6)) (
  bCons (sAsg (mComp [26] (iVal (mV 6) (aV 26)) (gIf (tK true) (gList (mIdx (mK (.str [104, 104, 104, 103])) (mBin .FloorDiv (mV 26) (mK (.int 64))))))) (aV 7)) (
  bCons (sAsg (mComp [27] (iVal (mCall (lCons (mK (.int 5)) lNil) oRange) (aV 27)) (gIf (tK true) (gList (mCall (lCons (mIdx (mV 5) (mV 27)) (lCons (mIdx (mV 6) (mV 27)) lNil)) (op_law_answer))))) (aV 8)) (
  bCons (sAsg (mComp [28] (iVal (mCall (lCons (mK (.int 5)) lNil) oRange) (aV 28)) (gIf (tCmp .Eq (mBin .Mod (mBin .FloorDiv (mIdx (mV 6) (mV 28)) (mK (.int 4))) (mK (.int 4))) (mK (.int 3))) (gList (mV 28)))) (aV 9)) (
  bCons (sAsg (mComp [29] (iVal (mCall (lCons (mK (.int 5)) lNil) oRange) (aV 29)) (gIf (tK true) (gList (mCall (lCons (mV 29) (lCons (mIdx (mV 8) (mV 29)) lNil)) (op_law_row))))) (aV 10)) (
  bCons (sAsg (mCall (lCons (mV 10) lNil) (op_parse_keqv_list)) (aV 11)) (
  bCons (sIf (tCmp .NotEq (mItems (mV 11)) (mComp [30] (iVal (mCall (lCons (mK (.int 5)) lNil) oRange) (aV 30)) (gIf (tK true) (gList (mTup (lCons (mCall (lCons (mV 30) lNil) oStr) (lCons (mIdx (mV 8) (mV 30)) lNil))))))) (bCons (sRet (mK (.bool false))) bNil) bNil) (
  bCons (sAsg (mComp [31] (iVal (mCall (lCons (mK (.int 5)) lNil) oRange) (aV 31)) (gIf (tK true) (gList (mCall (lCons (mIdx (mV 11) (mCall (lCons (mV 31) lNil) oStr)) (lCons (mTup (lCons (mIdx (mV 7) (mV 31)) (lCons (mK (.int 21)) lNil))) lNil)) (op_law_told))))) (aV 12)) (
  bCons (sIf (tCmp .NotEq (mV 12) (mComp [32] (iVal (mCall (lCons (mK (.int 5)) lNil) oRange) (aV 32)) (gIf (tK true) (gList (mIte (tCmp .In (mV 32) (mV 9)) (mTup (lCons (mIdx (mV 8) (mV 32)) lNil)) (mTup (lCons (mIdx (mV 7) (mV 32)) (lCons (mIdx (mV 5) (mV 32)) lNil)))))))) (bCons (sRet (mK (.bool false))) bNil) bNil) (
  bCons (sAsg (mV 4) (aV 13)) (
  bCons (sFor (iVal (mCall (lCons (mK (.int 5)) lNil) oRange) (aV 14)) (bCons (sAsg (mCall (lCons (mIdx (mV 8) (mV 14)) (lCons (mIdx (mV 12) (mV 14)) (lCons (mV 13) (lCons (mK (.bool false)) lNil)))) (op_law_led ad)) (aV 13)) bNil)) (
  bCons (sAsg (mComp [33] (iVal (mCall (lCons (mK (.int 5)) lNil) oRange) (aV 33)) (gIf (tAnd (tCmp .Eq (mIdx (mV 7) (mV 33)) (mK (.str [104]))) (tAnd (tCmp .NotIn (mV 33) (mV 9)) (tK true))) (gList (mIdx (mV 5) (mV 33))))) (aV 15)) (
  bCons (sIf (tCmp .NotEq (mV 13) (mTup (lCons (mK (.str [104])) (lCons (mCall (lCons (mV 3) (lCons (mV 15) lNil)) (op_law_due)) lNil)))) (bCons (sRet (mK (.bool false))) bNil) bNil) (
  bCons (sAsg (mCall (lCons (mV 15) lNil) (op_law_falling)) (aV 16)) (
  bCons (sAsg (mComp [34] (iVal (mCall (lCons (mCall (lCons (mV 16) lNil) oLen) lNil) oRange) (aV 34)) (gIf (tK true) (gList (mCall (lCons (mIdx (mV 16) (mV 34)) (lCons (mIdx (mList (lCons (mK (.int 1)) (lCons (mK (.int 20)) (lCons (mK (.int 40)) (lCons (mK (.int 50)) (lCons (mK (.int 6)) lNil)))))) (mV 34)) lNil)) (op_law_answer))))) (aV 17)) (
  bCons (sAsg (mCall (lCons (mBin .Add (mV 10) (mComp [35] (iVal (mCall (lCons (mCall (lCons (mV 16) lNil) oLen) lNil) oRange) (aV 35)) (gIf (tK true) (gList (mCall (lCons (mV 35) (lCons (mIdx (mV 17) (mV 35)) lNil)) (op_law_row)))))) lNil) (op_parse_keqv_list)) (aV 11)) (
  bCons (sIf (tCmp .NotEq (mItems (mV 11)) (mComp [36, 37] (iEnum (mBin .Add (mV 17) (mSlc (mV 8) (mCall (lCons (mV 17) lNil) oLen) (mK .none) (mK .none))) (aCons (aV 36) (aCons (aV 37) aNil))) (gIf (tK true) (gList (mTup (lCons (mCall (lCons (mV 36) lNil) oStr) (lCons (mV 37) lNil))))))) (bCons (sRet (mK (.bool false))) bNil) bNil) (
  bCons (sAsg (mComp [38] (iVal (mV 17) (aV 38)) (gIf (tK true) (gList (mCall (lCons (mV 38) (lCons (mTup (lCons (mK (.str [104])) (lCons (mK (.int 21)) (lCons (mK (.int 0)) (lCons (mK (.int 0)) lNil))))) lNil)) (op_law_told))))) (aV 18)) (
  bCons (sIf (tCmp .NotEq (mV 18) (mComp [39] (iVal (mV 16) (aV 39)) (gIf (tK true) (gList (mTup (lCons (mK (.str [104])) (lCons (mV 39) lNil))))))) (bCons (sRet (mK (.bool false))) bNil) bNil) (
  bCons (sFor (iVal (mCall (lCons (mBin .Sub (mCall (lCons (mV 16) lNil) oLen) (mK (.int 1))) (lCons (mNeg (mK (.int 1))) (lCons (mNeg (mK (.int 1))) lNil))) oRange) (aV 19)) (bCons (sAsg (mCall (lCons (mIdx (mV 17) (mV 19)) (lCons (mIdx (mV 18) (mV 19)) (lCons (mV 13) (lCons (mK (.bool true)) lNil)))) (op_law_led ad)) (aV 13)) bNil)) (
  bCons (sRet (mCmp .Eq (mV 13) (mV 4))) (
  bNil))))))))))))))))))))))))))
noncomputable def op_law (ad : Adr) : OpL := oFun 1 40 (m_law ad)
theorem b_law {X : Cx} {K : Frag} {ad : Adr} (C : Ctx X K ad) {k : Nat} (hk : k + 2 ≤ 60) : SimB X k (fnScope PySem.Challenge.pw_wn0050_02 21) v_law (fnBody PySem.Challenge.pw_wn0050_02 21) (m_law ad) := by
  have U : UOk X k := C.U k (by (first | lia | omega))
  refine b_cons ?_ ?_
  · refine st_asg ?_ ?_ (by intro env h; cases env; cases h; rfl) (fun _ _ => rfl)
    · refine s_lcomp v_law_0 [20, 21] (by decide +kernel) ?_ (oi_enum (onl_cons (fun a => only_loc a) (onl_cons (fun a => only_loc a) onl_nil))) ?_
      · refine i_enum C.g_enumerate ?_ ?_
        · refine s_list ?_
          refine l_cons ?_ ?_
          · exact s_int 147 _ _
          refine l_cons ?_ ?_
          · exact s_int 96 _ _
          refine l_cons ?_ l_nil
          exact s_int 150560359425 _ _
        refine as_cons ?_ ?_
        · exact a_loc _ _ 20
        refine as_cons ?_ as_nil
        exact a_loc _ _ 21
      refine g_last f_nil ?_
      refine em_list ?_
      refine s_bin ?_ ?_
      · exact s_loc _ _ 21
      refine s_call C.g_sum (fun _ h => nomatch h) c_sum ?_
      refine l_cons ?_ l_nil
      refine s_slc ?_ ?_ o_none ?_
      · exact s_cell _ _ 0
      · refine o_some ?_
        exact s_loc _ _ 20
      refine o_some ?_
      exact s_int 3 _ _
    exact a_cell _ _ 1
  refine b_cons ?_ ?_
  · refine st_asg ?_ ?_ (fun _ _ => rfl) (fun _ _ => rfl)
    · refine s_bin ?_ ?_
      · refine s_idx ?_ ?_
        · exact s_cell _ _ 1
        exact s_int 0 _ _
      exact s_int 8 _ _
    exact a_loc _ _ 2
  refine b_cons ?_ ?_
  · refine st_asg ?_ ?_ (fun _ _ => rfl) (fun _ _ => rfl)
    · refine s_bin ?_ ?_
      · refine s_bin ?_ ?_
        · refine s_list ?_
          refine l_cons ?_ l_nil
          exact s_int 1 _ _
        exact s_loc _ _ 2
      refine s_lcomp v_law_1 [22] (by decide +kernel) ?_ (oi_val (fun a => only_loc a)) ?_
      · refine i_val ?_ ?_
        · refine s_call C.g_range (fun _ h => nomatch h) c_range ?_
          refine l_cons ?_ l_nil
          refine s_bin ?_ ?_
          · exact s_int 14 _ _
          exact s_loc _ _ 2
        exact a_loc _ _ 22
      refine g_last f_nil ?_
      refine em_list ?_
      refine s_bin ?_ ?_
      · refine s_bin ?_ ?_
        · refine s_bin ?_ ?_
          · refine s_idx ?_ ?_
            · exact s_cell _ _ 1
            exact s_int 0 _ _
          exact s_int 8 _ _
        refine s_bin ?_ ?_
        · exact s_int 2 _ _
        exact s_loc _ _ 22
      exact s_int 2 _ _
    exact a_loc _ _ 3
  refine b_cons ?_ ?_
  · refine st_asg ?_ ?_ (fun _ _ => rfl) (fun _ _ => rfl)
    · refine s_tup ?_
      refine l_cons ?_ ?_
      · exact s_str _ [104] _ _
      refine l_cons ?_ l_nil
      refine s_meth ms_join c_join ?_ ?_
      · exact s_str _ [] _ _
      refine l_cons ?_ l_nil
      refine s_lcomp v_law_2 [23] (by decide +kernel) ?_ (oi_val (fun a => only_loc a)) ?_
      · refine i_val ?_ ?_
        · exact s_loc _ _ 3
        exact a_loc _ _ 23
      refine g_last f_nil ?_
      refine em_list ?_
      refine s_idx ?_ ?_
      · refine s_list ?_
        refine l_cons ?_ ?_
        · exact s_str _ [47, 97] _ _
        refine l_cons ?_ l_nil
        exact s_str _ [47, 97, 98] _ _
      exact s_loc _ _ 23
    exact a_loc _ _ 4
  refine b_cons ?_ ?_
  · refine st_asg ?_ ?_ (by intro env h; cases env; cases h; rfl) (fun _ _ => rfl)
    · refine s_lcomp v_law_3 [24] (by decide +kernel) ?_ (oi_val (fun a => only_loc a)) ?_
      · refine i_val ?_ ?_
        · refine s_call C.g_range (fun _ h => nomatch h) c_range ?_
          refine l_cons ?_ l_nil
          exact s_int 5 _ _
        exact a_loc _ _ 24
      refine g_last f_nil ?_
      refine em_list ?_
      refine s_bin ?_ ?_
      · refine s_bin ?_ ?_
        · refine s_idx ?_ ?_
          · exact s_cell _ _ 1
          exact s_int 1 _ _
        refine s_bin ?_ ?_
        · exact s_int 3 _ _
        exact s_loc _ _ 24
      exact s_int 3 _ _
    exact a_cell _ _ 5
  refine b_cons ?_ ?_
  · refine st_asg ?_ ?_ (by intro env h; cases env; cases h; rfl) (fun _ _ => rfl)
    · refine s_lcomp v_law_4 [25] (by decide +kernel) ?_ (oi_val (fun a => only_loc a)) ?_
      · refine i_val ?_ ?_
        · refine s_call C.g_range (fun _ h => nomatch h) c_range ?_
          refine l_cons ?_ l_nil
          exact s_int 5 _ _
        exact a_loc _ _ 25
      refine g_last f_nil ?_
      refine em_list ?_
      refine s_bin ?_ ?_
      · refine s_bin ?_ ?_
        · refine s_idx ?_ ?_
          · exact s_cell _ _ 1
          exact s_int 2 _ _
        refine s_bin ?_ ?_
        · exact s_int 256 _ _
        exact s_loc _ _ 25
      exact s_int 256 _ _
    exact a_cell _ _ 6
  refine b_cons ?_ ?_
  · refine st_asg ?_ ?_ (by intro env h; cases env; cases h; rfl) (fun _ _ => rfl)
    · refine s_lcomp v_law_5 [26] (by decide +kernel) ?_ (oi_val (fun a => only_loc a)) ?_
      · refine i_val ?_ ?_
        · exact s_cell _ _ 6
        exact a_loc _ _ 26
      refine g_last f_nil ?_
      refine em_list ?_
      refine s_idx ?_ ?_
      · exact s_str _ [104, 104, 104, 103] _ _
      refine s_bin ?_ ?_
      · exact s_loc _ _ 26
      exact s_int 64 _ _
    exact a_cell _ _ 7
  refine b_cons ?_ ?_
  · refine st_asg ?_ ?_ (by intro env h; cases env; cases h; rfl) (fun _ _ => rfl)
    · refine s_lcomp v_law_6 [27] (by decide +kernel) ?_ (oi_val (fun a => only_loc a)) ?_
      · refine i_val ?_ ?_
        · refine s_call C.g_range (fun _ h => nomatch h) c_range ?_
          refine l_cons ?_ l_nil
          exact s_int 5 _ _
        exact a_loc _ _ 27
      refine g_last f_nil ?_
      refine em_list ?_
      refine s_callG C.g_law_answer C.f_law_answer (c_law_answer C (by (first | lia | omega))) ?_
      refine l_cons ?_ ?_
      · refine s_idx ?_ ?_
        · exact s_cell _ _ 5
        exact s_loc _ _ 27
      refine l_cons ?_ l_nil
      refine s_idx ?_ ?_
      · exact s_cell _ _ 6
      exact s_loc _ _ 27
    exact a_cell _ _ 8
  refine b_cons ?_ ?_
  · refine st_asg ?_ ?_ (by intro env h; cases env; cases h; rfl) (fun _ _ => rfl)
    · refine s_lcomp v_law_7 [28] (by decide +kernel) ?_ (oi_val (fun a => only_loc a)) ?_
      · refine i_val ?_ ?_
        · refine s_call C.g_range (fun _ h => nomatch h) c_range ?_
          refine l_cons ?_ l_nil
          exact s_int 5 _ _
        exact a_loc _ _ 28
      refine g_last ?_ ?_
      · refine f_one ?_
        refine t_cmp U ?_ ?_
        · refine s_bin ?_ ?_
          · refine s_bin ?_ ?_
            · refine s_idx ?_ ?_
              · exact s_cell _ _ 6
              exact s_loc _ _ 28
            exact s_int 4 _ _
          exact s_int 4 _ _
        exact s_int 3 _ _
      refine em_list ?_
      exact s_loc _ _ 28
    exact a_cell _ _ 9
  refine b_cons ?_ ?_
  · refine st_asg_lcomp v_law_8 [29] (by decide +kernel) ?_ (oi_val (fun a => only_loc a)) ?_ ?_ (by intro env h; cases env; cases h; rfl)
    · refine i_val ?_ ?_
      · refine s_call C.g_range (fun _ h => nomatch h) c_range ?_
        refine l_cons ?_ l_nil
        exact s_int 5 _ _
      exact a_loc _ _ 29
    · refine g_last f_nil ?_
      refine em_list ?_
      refine s_callG C.g_law_row C.f_law_row (c_law_row C (by (first | lia | omega))) ?_
      refine l_cons ?_ ?_
      · exact s_loc _ _ 29
      refine l_cons ?_ l_nil
      refine s_idx ?_ ?_
      · exact s_cell _ _ 8
      exact s_loc _ _ 29
    exact a_loc _ _ 10
  refine b_cons ?_ ?_
  · refine st_asg ?_ ?_ (fun _ _ => rfl) (fun _ _ => rfl)
    · refine s_callG C.g_parse_keqv_list C.f_parse_keqv_list (c_parse_keqv_list C (by (first | lia | omega))) ?_
      refine l_cons ?_ l_nil
      exact s_loc _ _ 10
    exact a_cell _ _ 11
  refine b_cons ?_ ?_
  · refine st_if ?_ ?_ ?_
    · refine t_cmp U ?_ ?_
      · refine s_listItems C.g_list ?_
        exact s_cell _ _ 11
      refine s_lcomp v_law_9 [30] (by decide +kernel) ?_ (oi_val (fun a => only_loc a)) ?_
      · refine i_val ?_ ?_
        · refine s_call C.g_range (fun _ h => nomatch h) c_range ?_
          refine l_cons ?_ l_nil
          exact s_int 5 _ _
        exact a_loc _ _ 30
      refine g_last f_nil ?_
      refine em_list ?_
      refine s_tup ?_
      refine l_cons ?_ ?_
      · refine s_call C.g_str (fun _ h => nomatch h) c_str ?_
        refine l_cons ?_ l_nil
        exact s_loc _ _ 30
      refine l_cons ?_ l_nil
      refine s_idx ?_ ?_
      · exact s_cell _ _ 8
      exact s_loc _ _ 30
    · refine b_cons ?_ ?_
      · refine st_ret ?_
        exact s_bool false _ _
      exact b_nil
    exact b_nil
  refine b_cons ?_ ?_
  · refine st_asg_lcomp v_law_10 [31] (by decide +kernel) ?_ (oi_val (fun a => only_loc a)) ?_ ?_ (by intro env h; cases env; cases h; rfl)
    · refine i_val ?_ ?_
      · refine s_call C.g_range (fun _ h => nomatch h) c_range ?_
        refine l_cons ?_ l_nil
        exact s_int 5 _ _
      exact a_loc _ _ 31
    · refine g_last f_nil ?_
      refine em_list ?_
      refine s_callG C.g_law_told C.f_law_told (c_law_told C (by (first | lia | omega))) ?_
      refine l_cons ?_ ?_
      · refine s_idx ?_ ?_
        · exact s_cell _ _ 11
        refine s_call C.g_str (fun _ h => nomatch h) c_str ?_
        refine l_cons ?_ l_nil
        exact s_loc _ _ 31
      refine l_cons ?_ l_nil
      refine s_tup ?_
      refine l_cons ?_ ?_
      · refine s_idx ?_ ?_
        · exact s_cell _ _ 7
        exact s_loc _ _ 31
      refine l_cons ?_ l_nil
      exact s_int 21 _ _
    exact a_loc _ _ 12
  refine b_cons ?_ ?_
  · refine st_if ?_ ?_ ?_
    · refine t_cmp U ?_ ?_
      · exact s_loc _ _ 12
      refine s_lcomp v_law_11 [32] (by decide +kernel) ?_ (oi_val (fun a => only_loc a)) ?_
      · refine i_val ?_ ?_
        · refine s_call C.g_range (fun _ h => nomatch h) c_range ?_
          refine l_cons ?_ l_nil
          exact s_int 5 _ _
        exact a_loc _ _ 32
      refine g_last f_nil ?_
      refine em_list ?_
      refine s_ite ?_ ?_ ?_
      · refine t_cmp U ?_ ?_
        · exact s_loc _ _ 32
        exact s_cell _ _ 9
      · refine s_tup ?_
        refine l_cons ?_ l_nil
        refine s_idx ?_ ?_
        · exact s_cell _ _ 8
        exact s_loc _ _ 32
      refine s_tup ?_
      refine l_cons ?_ ?_
      · refine s_idx ?_ ?_
        · exact s_cell _ _ 7
        exact s_loc _ _ 32
      refine l_cons ?_ l_nil
      refine s_idx ?_ ?_
      · exact s_cell _ _ 5
      exact s_loc _ _ 32
    · refine b_cons ?_ ?_
      · refine st_ret ?_
        exact s_bool false _ _
      exact b_nil
    exact b_nil
  refine b_cons ?_ ?_
  · refine st_asg ?_ ?_ (fun _ _ => rfl) (fun _ _ => rfl)
    · exact s_loc _ _ 4
    exact a_loc _ _ 13
  refine b_cons ?_ ?_
  · refine st_for ?_ ?_
    · refine i_val ?_ ?_
      · refine s_call C.g_range (fun _ h => nomatch h) c_range ?_
        refine l_cons ?_ l_nil
        exact s_int 5 _ _
      exact a_loc _ _ 14
    refine b_cons ?_ ?_
    · refine st_asg ?_ ?_ (fun _ _ => rfl) (fun _ _ => rfl)
      · refine s_callG C.g_law_led C.f_law_led (c_law_led C (by (first | lia | omega))) ?_
        refine l_cons ?_ ?_
        · refine s_idx ?_ ?_
          · exact s_cell _ _ 8
          exact s_loc _ _ 14
        refine l_cons ?_ ?_
        · refine s_idx ?_ ?_
          · exact s_loc _ _ 12
          exact s_loc _ _ 14
        refine l_cons ?_ ?_
        · exact s_loc _ _ 13
        refine l_cons ?_ l_nil
        exact s_bool false _ _
      exact a_loc _ _ 13
    exact b_nil
  refine b_cons ?_ ?_
  · refine st_asg_lcomp v_law_12 [33] (by decide +kernel) ?_ (oi_val (fun a => only_loc a)) ?_ ?_ (by intro env h; cases env; cases h; rfl)
    · refine i_val ?_ ?_
      · refine s_call C.g_range (fun _ h => nomatch h) c_range ?_
        refine l_cons ?_ l_nil
        exact s_int 5 _ _
      exact a_loc _ _ 33
    · refine g_last ?_ ?_
      · refine f_one ?_
        refine t_bool ?_
        refine a_consA ?_ ?_
        · refine t_cmp U ?_ ?_
          · refine s_idx ?_ ?_
            · exact s_cell _ _ 7
            exact s_loc _ _ 33
          exact s_str _ [104] _ _
        refine a_consA ?_ a_nilA
        refine t_cmp U ?_ ?_
        · exact s_loc _ _ 33
        exact s_cell _ _ 9
      refine em_list ?_
      refine s_idx ?_ ?_
      · exact s_cell _ _ 5
      exact s_loc _ _ 33
    exact a_loc _ _ 15
  refine b_cons ?_ ?_
  · refine st_if ?_ ?_ ?_
    · refine t_cmp U ?_ ?_
      · exact s_loc _ _ 13
      refine s_tup ?_
      refine l_cons ?_ ?_
      · exact s_str _ [104] _ _
      refine l_cons ?_ l_nil
      refine s_callG C.g_law_due C.f_law_due (c_law_due C (by (first | lia | omega))) ?_
      refine l_cons ?_ ?_
      · exact s_loc _ _ 3
      refine l_cons ?_ l_nil
      exact s_loc _ _ 15
    · refine b_cons ?_ ?_
      · refine st_ret ?_
        exact s_bool false _ _
      exact b_nil
    exact b_nil
  refine b_cons ?_ ?_
  · refine st_asg ?_ ?_ (fun _ _ => rfl) (fun _ _ => rfl)
    · refine s_callG C.g_law_falling C.f_law_falling (c_law_falling C (by (first | lia | omega))) ?_
      refine l_cons ?_ l_nil
      exact s_loc _ _ 15
    exact a_cell _ _ 16
  refine b_cons ?_ ?_
  · refine st_asg ?_ ?_ (by intro env h; cases env; cases h; rfl) (fun _ _ => rfl)
    · refine s_lcomp v_law_13 [34] (by decide +kernel) ?_ (oi_val (fun a => only_loc a)) ?_
      · refine i_val ?_ ?_
        · refine s_call C.g_range (fun _ h => nomatch h) c_range ?_
          refine l_cons ?_ l_nil
          refine s_call C.g_len (fun _ h => nomatch h) c_len ?_
          refine l_cons ?_ l_nil
          exact s_cell _ _ 16
        exact a_loc _ _ 34
      refine g_last f_nil ?_
      refine em_list ?_
      refine s_callG C.g_law_answer C.f_law_answer (c_law_answer C (by (first | lia | omega))) ?_
      refine l_cons ?_ ?_
      · refine s_idx ?_ ?_
        · exact s_cell _ _ 16
        exact s_loc _ _ 34
      refine l_cons ?_ l_nil
      refine s_idx ?_ ?_
      · refine s_list ?_
        refine l_cons ?_ ?_
        · exact s_int 1 _ _
        refine l_cons ?_ ?_
        · exact s_int 20 _ _
        refine l_cons ?_ ?_
        · exact s_int 40 _ _
        refine l_cons ?_ ?_
        · exact s_int 50 _ _
        refine l_cons ?_ l_nil
        exact s_int 6 _ _
      exact s_loc _ _ 34
    exact a_cell _ _ 17
  refine b_cons ?_ ?_
  · refine st_asg ?_ ?_ (fun _ _ => rfl) (fun _ _ => rfl)
    · refine s_callG C.g_parse_keqv_list C.f_parse_keqv_list (c_parse_keqv_list C (by (first | lia | omega))) ?_
      refine l_cons ?_ l_nil
      refine s_bin ?_ ?_
      · exact s_loc _ _ 10
      refine s_lcomp v_law_14 [35] (by decide +kernel) ?_ (oi_val (fun a => only_loc a)) ?_
      · refine i_val ?_ ?_
        · refine s_call C.g_range (fun _ h => nomatch h) c_range ?_
          refine l_cons ?_ l_nil
          refine s_call C.g_len (fun _ h => nomatch h) c_len ?_
          refine l_cons ?_ l_nil
          exact s_cell _ _ 16
        exact a_loc _ _ 35
      refine g_last f_nil ?_
      refine em_list ?_
      refine s_callG C.g_law_row C.f_law_row (c_law_row C (by (first | lia | omega))) ?_
      refine l_cons ?_ ?_
      · exact s_loc _ _ 35
      refine l_cons ?_ l_nil
      refine s_idx ?_ ?_
      · exact s_cell _ _ 17
      exact s_loc _ _ 35
    exact a_cell _ _ 11
  refine b_cons ?_ ?_
  · refine st_if ?_ ?_ ?_
    · refine t_cmp U ?_ ?_
      · refine s_listItems C.g_list ?_
        exact s_cell _ _ 11
      refine s_lcomp v_law_15 [36, 37] (by decide +kernel) ?_ (oi_enum (onl_cons (fun a => only_loc a) (onl_cons (fun a => only_loc a) onl_nil))) ?_
      · refine i_enum C.g_enumerate ?_ ?_
        · refine s_bin ?_ ?_
          · exact s_cell _ _ 17
          refine s_slc ?_ ?_ o_none o_none
          · exact s_cell _ _ 8
          refine o_some ?_
          refine s_call C.g_len (fun _ h => nomatch h) c_len ?_
          refine l_cons ?_ l_nil
          exact s_cell _ _ 17
        refine as_cons ?_ ?_
        · exact a_loc _ _ 36
        refine as_cons ?_ as_nil
        exact a_loc _ _ 37
      refine g_last f_nil ?_
      refine em_list ?_
      refine s_tup ?_
      refine l_cons ?_ ?_
      · refine s_call C.g_str (fun _ h => nomatch h) c_str ?_
        refine l_cons ?_ l_nil
        exact s_loc _ _ 36
      refine l_cons ?_ l_nil
      exact s_loc _ _ 37
    · refine b_cons ?_ ?_
      · refine st_ret ?_
        exact s_bool false _ _
      exact b_nil
    exact b_nil
  refine b_cons ?_ ?_
  · refine st_asg_lcomp v_law_16 [38] (by decide +kernel) ?_ (oi_val (fun a => only_loc a)) ?_ ?_ (by intro env h; cases env; cases h; rfl)
    · refine i_val ?_ ?_
      · exact s_cell _ _ 17
      exact a_loc _ _ 38
    · refine g_last f_nil ?_
      refine em_list ?_
      refine s_callG C.g_law_told C.f_law_told (c_law_told C (by (first | lia | omega))) ?_
      refine l_cons ?_ ?_
      · exact s_loc _ _ 38
      refine l_cons ?_ l_nil
      refine s_tup ?_
      refine l_cons ?_ ?_
      · exact s_str _ [104] _ _
      refine l_cons ?_ ?_
      · exact s_int 21 _ _
      refine l_cons ?_ ?_
      · exact s_int 0 _ _
      refine l_cons ?_ l_nil
      exact s_int 0 _ _
    exact a_loc _ _ 18
  refine b_cons ?_ ?_
  · refine st_if ?_ ?_ ?_
    · refine t_cmp U ?_ ?_
      · exact s_loc _ _ 18
      refine s_lcomp v_law_17 [39] (by decide +kernel) ?_ (oi_val (fun a => only_loc a)) ?_
      · refine i_val ?_ ?_
        · exact s_cell _ _ 16
        exact a_loc _ _ 39
      refine g_last f_nil ?_
      refine em_list ?_
      refine s_tup ?_
      refine l_cons ?_ ?_
      · exact s_str _ [104] _ _
      refine l_cons ?_ l_nil
      exact s_loc _ _ 39
    · refine b_cons ?_ ?_
      · refine st_ret ?_
        exact s_bool false _ _
      exact b_nil
    exact b_nil
  refine b_cons ?_ ?_
  · refine st_for ?_ ?_
    · refine i_val ?_ ?_
      · refine s_call C.g_range (fun _ h => nomatch h) c_range ?_
        refine l_cons ?_ ?_
        · refine s_bin ?_ ?_
          · refine s_call C.g_len (fun _ h => nomatch h) c_len ?_
            refine l_cons ?_ l_nil
            exact s_cell _ _ 16
          exact s_int 1 _ _
        refine l_cons ?_ ?_
        · refine s_neg ?_
          exact s_int 1 _ _
        refine l_cons ?_ l_nil
        refine s_neg ?_
        exact s_int 1 _ _
      exact a_loc _ _ 19
    refine b_cons ?_ ?_
    · refine st_asg ?_ ?_ (fun _ _ => rfl) (fun _ _ => rfl)
      · refine s_callG C.g_law_led C.f_law_led (c_law_led C (by (first | lia | omega))) ?_
        refine l_cons ?_ ?_
        · refine s_idx ?_ ?_
          · exact s_cell _ _ 17
          exact s_loc _ _ 19
        refine l_cons ?_ ?_
        · refine s_idx ?_ ?_
          · exact s_loc _ _ 18
          exact s_loc _ _ 19
        refine l_cons ?_ ?_
        · exact s_loc _ _ 13
        refine l_cons ?_ l_nil
        exact s_bool true _ _
      exact a_loc _ _ 13
    exact b_nil
  refine b_cons ?_ ?_
  · refine st_ret ?_
    refine s_cmp U ?_ ?_
    · exact s_loc _ _ 13
    exact s_loc _ _ 4
  exact b_nil
theorem c_law {X : Cx} {K : Frag} {ad : Adr} (C : Ctx X K ad) {k : Nat} (hk : k + 3 ≤ 60) : CallOk X k (.ref ad.law) (op_law ad) :=
  c_fn (vis := v_law) (N := 40) (C.U k (by (first | lia | omega))) C.f_law (by decide +kernel) (b_law C (by (first | lia | omega)))
end Mine
end
section
open PySem PySem.W PyProof.Rows
set_option maxRecDepth 100000
set_option linter.unusedVariables false
namespace Mine
section
variable {m n m1 m2 m3 : ME} {r : ML} {op : OpL} {η : Eta} {σ σ' : St} {t u : MT} {a b c d : AV} {x y : List Nat} {i j : Int} {k : Nat} {l xs ys : List AV}

noncomputable def kS (x : Option (Out × Eta × St)) (r : MS) : Option (Out × Eta × St) := oS x r
theorem v_bCons {m r : MS} : bCons m r η σ = kS (m η σ) r := rfl
theorem kS_next {r : MS} : kS (some (.next, η, σ)) r = r η σ := rfl
theorem kS_ret {r : MS} {v : AV} : kS (some (.ret v, η, σ)) r = some (.ret v, η, σ) := rfl
theorem kS_exc {r : MS} {v : List Nat} : kS (some (.exc v, η, σ)) r = some (.exc v, η, σ) := rfl
theorem oB_some {α β γ : Type} {x : α} {s : γ} {f : α → γ → Option β} : oB (some (x, s)) f = f x s := rfl
theorem o1_some {α β : Type} {x : α} {f : α → Option β} : o1 (some x) f = f x := rfl
theorem oF_next {f : MS} : oF (some (.next, η, σ)) f = f η σ := rfl
theorem oF_ret {f : MS} {v : AV} : oF (some (.ret v, η, σ)) f = some (.ret v, η, σ) := rfl
theorem oT_t {β γ : Type} {s : γ} {f g : γ → Option β} : oT (some (true, s)) f g = f s := rfl
theorem oT_f {β γ : Type} {s : γ} {f g : γ → Option β} : oT (some (false, s)) f g = g s := rfl
theorem oR_ret {v : AV} : oRet (some (.ret v, η, σ)) = some (v, σ) := rfl
theorem oR_next : oRet (some (.next, η, σ)) = some (.none, σ) := rfl
theorem oX_ret {v : AV} : oRetX (some (.ret v, η, σ)) = some (.ret v, σ) := rfl
theorem oX_exc {v : List Nat} : oRetX (some (.exc v, η, σ)) = some (.exc v, σ) := rfl
theorem v_bNil : bNil η σ = some (.next, η, σ) := rfl
noncomputable def kAsg (x : Option (AV × St)) (t : AV → Binder) (η : Eta) : Option (Eta × St) := oB x fun a σ => t a η σ
noncomputable def kNx (x : Option (Eta × St)) : Option (Out × Eta × St) := oB x fun η σ => some (.next, η, σ)
theorem v_sAsg {t : AV → Binder} : sAsg m t η σ = kNx (kAsg (m η σ) t η) := by
  unfold sAsg kAsg kNx
  cases m η σ <;> rfl
theorem kAsg_some {t : AV → Binder} : kAsg (some (a, σ)) t η = t a η σ := rfl
theorem kNx_some : kNx (some (η, σ)) = some (.next, η, σ) := rfl
theorem v_aV : aV k a η σ = if k < η.length then some (η.set k a, σ) else none := rfl
noncomputable def kIf {β : Type} (x : Option (Bool × St)) (b o : Eta → St → Option β) (η : Eta) : Option β := oT x (fun σ => b η σ) (fun σ => o η σ)
theorem v_sIf {b o : MS} : sIf t b o η σ = kIf (t η σ) b o η := rfl
theorem v_mIte : mIte t m n η σ = kIf (t η σ) m n η := rfl
theorem kIf_true {β : Type} {b o : Eta → St → Option β} : kIf (some (true, σ)) b o η = b η σ := rfl
theorem kIf_false {β : Type} {b o : Eta → St → Option β} : kIf (some (false, σ)) b o η = o η σ := rfl
noncomputable def kRet (x : Option (AV × St)) (η : Eta) : Option (Out × Eta × St) := oB x fun a σ => some (.ret a, η, σ)
theorem v_sRet : sRet m η σ = kRet (m η σ) η := rfl
theorem kRet_some : kRet (some (a, σ)) η = some (.ret a, η, σ) := rfl
noncomputable def kEx (x : Option (AV × St)) (η : Eta) : Option (Out × Eta × St) := oB x fun _ σ => some (.next, η, σ)
theorem v_sExpr : sExpr m η σ = kEx (m η σ) η := rfl
theorem kEx_some : kEx (some (a, σ)) η = some (.next, η, σ) := rfl
theorem v_mK : mK a η σ = some (a, σ) := rfl
noncomputable def kV (x : Option AV) (σ : St) : Option (AV × St) := o1 x fun v => bnd v σ
theorem v_mV : mV k η σ = kV η[k]? σ := rfl
theorem kV_some (h : a ≠ .unbound) : kV (some a) σ = some (a, σ) := by cases a <;> first | rfl | exact absurd rfl h
theorem kV_int : kV (some (.int i)) σ = some (.int i, σ) := rfl
theorem kV_str : kV (some (.str x)) σ = some (.str x, σ) := rfl
theorem kV_list : kV (some (.list l)) σ = some (.list l, σ) := rfl
theorem kV_tup : kV (some (.tup l)) σ = some (.tup l, σ) := rfl
theorem kV_bool {b : Bool} : kV (some (.bool b)) σ = some (.bool b, σ) := rfl
theorem kV_bytes {b : List UInt8} : kV (some (.bytes b)) σ = some (.bytes b, σ) := rfl
theorem kV_dict {l : List (List Nat × AV)} : kV (some (.dict l)) σ = some (.dict l, σ) := rfl
theorem kV_cell {n : Nat} : kV (some (.cell n)) σ = some (.cell n, σ) := rfl
theorem kV_inst {n : Addr} : kV (some (.inst n)) σ = some (.inst n, σ) := rfl
theorem kV_script {l : List Int} : kV (some (.script l)) σ = some (.script l, σ) := rfl
theorem kV_range {a b c : Int} : kV (some (.range a b c)) σ = some (.range a b c, σ) := rfl
theorem kV_none : kV (some .none) σ = some (.none, σ) := rfl
theorem kV_mtch {g : List UInt8} : kV (some (.mtch g)) σ = some (.mtch g, σ) := rfl
noncomputable def k2 (x : Option (AV × St)) (n : ME) (η : Eta) (f : AV → AV → St → Option (AV × St)) : Option (AV × St) := oB x fun a σ => oB (n η σ) fun b σ => f a b σ
noncomputable def k2' (a : AV) (y : Option (AV × St)) (f : AV → AV → St → Option (AV × St)) : Option (AV × St) := oB y fun b σ => f a b σ
theorem v_mBin {o : Operator} : mBin o m n η σ = k2 (m η σ) n η (binOp o) := rfl
theorem v_mCmp {o : CmpOp} : mCmp o m n η σ = k2 (m η σ) n η (cmpOp o) := rfl
theorem v_mIdx : mIdx m n η σ = k2 (m η σ) n η opItem := rfl
theorem k2_some {f : AV → AV → St → Option (AV × St)} : k2 (some (a, σ)) n η f = k2' a (n η σ) f := rfl
theorem k2'_some {f : AV → AV → St → Option (AV × St)} : k2' a (some (b, σ)) f = f a b σ := rfl
noncomputable def kT (x : Option (AV × St)) : Option (Bool × St) := oB x fun a σ => asB a fun b => some (b, σ)
theorem v_tCmp {o : CmpOp} : tCmp o m n η σ = kT (k2 (m η σ) n η (cmpOp o)) := rfl
theorem kT_some {b : Bool} : kT (some (.bool b, σ)) = some (b, σ) := rfl
noncomputable def kTr (x : Option (AV × St)) : Option (Bool × St) := oB x fun a σ => o1 (truthA σ a) fun b => some (b, σ)
theorem v_tVal : tVal m η σ = kTr (m η σ) := rfl
theorem kTr_bool {b : Bool} : kTr (some (.bool b, σ)) = some (b, σ) := rfl
theorem kTr_none : kTr (some (.none, σ)) = some (false, σ) := rfl
theorem kTr_mtch {g : List UInt8} : kTr (some (.mtch g, σ)) = some (true, σ) := rfl
noncomputable def kN (x : Option (Bool × St)) : Option (Bool × St) := oB x fun b σ => some (!b, σ)
theorem v_tNot : tNot t η σ = kN (t η σ) := rfl
theorem kN_some {b : Bool} : kN (some (b, σ)) = some (!b, σ) := rfl
noncomputable def kA (x : Option (Bool × St)) (u : MT) (η : Eta) : Option (Bool × St) := oT x (fun σ => u η σ) (fun σ => some (false, σ))
noncomputable def kO (x : Option (Bool × St)) (u : MT) (η : Eta) : Option (Bool × St) := oT x (fun σ => some (true, σ)) (fun σ => u η σ)
theorem v_tAnd : tAnd t u η σ = kA (t η σ) u η := rfl
theorem v_tOr : tOr t u η σ = kO (t η σ) u η := rfl
theorem kA_true : kA (some (true, σ)) u η = u η σ := rfl
theorem kA_false : kA (some (false, σ)) u η = some (false, σ) := rfl
theorem kO_true : kO (some (true, σ)) u η = some (true, σ) := rfl
theorem kO_false : kO (some (false, σ)) u η = u η σ := rfl
theorem v_tK {b : Bool} : tK b η σ = some (b, σ) := rfl
noncomputable def kNg (x : Option (AV × St)) : Option (AV × St) := oB x fun a σ => asI a fun i => some (.int (-i), σ)
theorem v_mNeg : mNeg m η σ = kNg (m η σ) := rfl
theorem kNg_some : kNg (some (.int i, σ)) = some (.int (-i), σ) := rfl
noncomputable def kL (x : Option (AV × St)) (r : ML) (η : Eta) : Option (List AV × St) := oB x fun a σ => oB (r η σ) fun l σ => some (a :: l, σ)
noncomputable def kL' (a : AV) (y : Option (List AV × St)) : Option (List AV × St) := oB y fun l σ => some (a :: l, σ)
theorem v_lNil : lNil η σ = some ([], σ) := rfl
theorem v_lCons : lCons m r η σ = kL (m η σ) r η := rfl
theorem kL_some : kL (some (a, σ)) r η = kL' a (r η σ) := rfl
theorem kL'_some : kL' a (some (l, σ)) = some (a :: l, σ) := rfl
noncomputable def kC {β : Type} (x : Option (List AV × St)) (op : List AV → St → Option β) : Option β := oB x fun l σ => op l σ
theorem v_mCall : mCall r op η σ = kC (r η σ) op := rfl
theorem v_mTup : mTup r η σ = kC (r η σ) vtup := rfl
theorem v_mList : mList r η σ = kC (r η σ) vlist := rfl
theorem kC_some {β : Type} {op : List AV → St → Option β} : kC (some (l, σ)) op = op l σ := rfl
theorem vtup_ok (h : l.length ≤ 16777216) : vtup l σ = some (.tup l, σ) := if_pos (decide_eq_true h)
theorem vlist_ok (h : l.length ≤ 16777216) : vlist l σ = some (.list l, σ) := if_pos (decide_eq_true h)
noncomputable def kM (T : String) (x : Option (AV × St)) (r : ML) (op : OpL) (η : Eta) : Option (AV × St) := oB x fun a σ => if tyOf σ a = some T then oB (r η σ) fun l σ => op (a :: l) σ else none
noncomputable def kM' (a : AV) (y : Option (List AV × St)) (op : OpL) : Option (AV × St) := oB y fun l σ => op (a :: l) σ
theorem v_mMeth {T : String} : mMeth T m r op η σ = kM T (m η σ) r op η := rfl
theorem kM_str : kM "str" (some (.str x, σ)) r op η = kM' (.str x) (r η σ) op := rfl
theorem kM_bytes {x : List UInt8} : kM "bytes" (some (.bytes x, σ)) r op η = kM' (.bytes x) (r η σ) op := rfl
theorem kM_pat : kM "re.Pattern" (some (.pat, σ)) r op η = kM' .pat (r η σ) op := rfl
theorem kM_mtch {g : List UInt8} : kM "re.Match" (some (.mtch g, σ)) r op η = kM' (.mtch g) (r η σ) op := rfl
theorem kM_cellL {q : Nat} (h : σ[q]? = some (.list l)) : kM "list" (some (.cell q, σ)) r op η = kM' (.cell q) (r η σ) op := if_pos (by show o1 σ[q]? cellTy = _; rw [h]; rfl)
theorem kM'_some : kM' a (some (l, σ)) op = op (a :: l) σ := rfl
noncomputable def kD (C : Addr) (x : Option (AV × St)) (r : ML) (op : OpL) (η : Eta) : Option (AV × St) := oB x fun a σ => asInst a fun D => if D = C then oB (r η σ) fun l σ => op (.inst C :: l) σ else none
theorem v_mSub {C : Addr} : mSub C m r op η σ = kD C (m η σ) r op η := rfl
theorem kD_some {C : Addr} : kD C (some (.inst C, σ)) r op η = kM' (.inst C) (r η σ) op := if_pos rfl
noncomputable def kSl (x : Option (AV × St)) (lo hi st : ME) (η : Eta) : Option (AV × St) := oB x fun a σ => oB (lo η σ) fun l σ => oB (hi η σ) fun h σ => oB (st η σ) fun t σ => opSlice a l h t σ
noncomputable def kSl1 (a : AV) (x : Option (AV × St)) (hi st : ME) (η : Eta) : Option (AV × St) := oB x fun l σ => oB (hi η σ) fun h σ => oB (st η σ) fun t σ => opSlice a l h t σ
noncomputable def kSl2 (a l : AV) (x : Option (AV × St)) (st : ME) (η : Eta) : Option (AV × St) := oB x fun h σ => oB (st η σ) fun t σ => opSlice a l h t σ
noncomputable def kSl3 (a l h : AV) (x : Option (AV × St)) : Option (AV × St) := oB x fun t σ => opSlice a l h t σ
theorem v_mSlc : mSlc m m1 m2 m3 η σ = kSl (m η σ) m1 m2 m3 η := rfl
theorem kSl_some : kSl (some (a, σ)) m1 m2 m3 η = kSl1 a (m1 η σ) m2 m3 η := rfl
theorem kSl1_some : kSl1 a (some (b, σ)) m2 m3 η = kSl2 a b (m2 η σ) m3 η := rfl
theorem kSl2_some : kSl2 a b (some (c, σ)) m3 η = kSl3 a b c (m3 η σ) := rfl
theorem kSl3_some : kSl3 a b c (some (d, σ)) = opSlice a b c d σ := rfl
noncomputable def kAu (x : Option (AV × St)) (k : Nat) (m : ME) (η : Eta) : Option (Out × Eta × St) := oB x fun a σ => asS a fun x => oB (m η σ) fun b σ => asS b fun y => oB (vstr (x ++ y) σ) fun a σ => oB (aV k a η σ) fun η σ => some (.next, η, σ)
noncomputable def kAu' (x : List Nat) (y : Option (AV × St)) (k : Nat) (η : Eta) : Option (Eta × St) := oB y fun b σ => asS b fun y => oB (vstr (x ++ y) σ) fun a σ => aV k a η σ
theorem v_sAugS : sAugS k m η σ = kAu (mV k η σ) k m η := rfl
theorem kAu_some : kAu (some (.str x, σ)) k m η = kNx (kAu' x (m η σ) k η) := by
  show (oB (m η σ) fun b σ => asS b fun y => oB (vstr (x ++ y) σ) fun a σ => oB (aV k a η σ) fun η σ => some (.next, η, σ)) = kNx (oB (m η σ) fun b σ => asS b fun y => oB (vstr (x ++ y) σ) fun a σ => aV k a η σ)
  cases m η σ with
  | none => rfl
  | some p =>
    obtain ⟨a, s⟩ := p
    cases a with
    | str y =>
      show (oB (vstr (x ++ y) s) fun a σ => oB (aV k a η σ) fun η σ => some (.next, η, σ)) = kNx (oB (vstr (x ++ y) s) fun a σ => aV k a η σ)
      cases vstr (x ++ y) s <;> rfl
    | _ => rfl
theorem vstr_ok (h : x.length ≤ 16777216) : vstr x σ = some (.str x, σ) := if_pos (decide_eq_true h)
theorem kAu'_some (h : (x ++ y).length ≤ 16777216) : kAu' x (some (.str y, σ)) k η = aV k (.str (x ++ y)) η σ := by
  show (oB (vstr (x ++ y) σ) fun a σ => aV k a η σ) = _
  rw [vstr_ok h]; rfl

theorem bi_add : binOp .Add (.int i) (.int j) σ = some (.int (i + j), σ) := rfl
theorem bi_sub : binOp .Sub (.int i) (.int j) σ = some (.int (i - j), σ) := rfl
theorem okI_of {i : Int} (h : i.natAbs < 18446744073709551616) : okI i = true := okI_small h
theorem bi_mul (hi : okI i = true) (hj : okI j = true) : binOp .Mult (.int i) (.int j) σ = some (.int (i * j), σ) := if_pos (by rw [hi, hj]; rfl)
theorem bi_div (h0 : 0 < j) (hj : okI j = true) : binOp .FloorDiv (.int i) (.int j) σ = some (.int (i / j), σ) := by
  show (if ¬ j = 0 then if okI j then some (AV.int (i.fdiv j), σ) else none else none) = _
  rw [if_pos (by (first | lia | omega)), if_pos hj, Int.fdiv_eq_ediv_of_nonneg _ (Int.le_of_lt h0)]
theorem bi_mod (h0 : 0 < j) : binOp .Mod (.int i) (.int j) σ = some (.int (i % j), σ) := by
  show (if ¬ j = 0 then some (AV.int (i.fmod j), σ) else none) = _
  rw [if_pos (by (first | lia | omega)), Int.fmod_eq_emod_of_nonneg _ (Int.le_of_lt h0)]
theorem bi_pow (h0 : 0 ≤ j) (h1 : j ≤ 1000000) (hi : i.natAbs < 18446744073709551616) : binOp .Pow (.int i) (.int j) σ = some (.int (i ^ j.toNat), σ) :=
  if_pos (by rw [decide_eq_true h0, decide_eq_true h1]; exact decide_eq_true hi)
theorem bs_add (h : (x ++ y).length ≤ 16777216) : binOp .Add (.str x) (.str y) σ = some (.str (x ++ y), σ) := vstr_ok h
theorem bl_add (h : (xs ++ ys).length ≤ 16777216) : binOp .Add (.list xs) (.list ys) σ = some (.list (xs ++ ys), σ) := vlist_ok h
theorem mul_fit (h0 : 0 ≤ j) (h1 : j < 1048576) : (okI j && decide (j < 1048576) && decide (-1048576 < j)) = true := by
  rw [okI_small (by (first | lia | omega)), decide_eq_true h1, decide_eq_true (by (first | lia | omega))]; rfl
theorem bs_mul (h0 : 0 ≤ j) (h1 : j < 1048576) (h : (List.replicate j.toNat x).flatten.length ≤ 16777216) : binOp .Mult (.str x) (.int j) σ = some (.str (List.replicate j.toNat x).flatten, σ) :=
  (if_pos (mul_fit h0 h1)).trans (vstr_ok h)
theorem bl_mul (h0 : 0 ≤ j) (h1 : j < 1048576) (h : (List.replicate j.toNat xs).flatten.length ≤ 16777216) : binOp .Mult (.list xs) (.int j) σ = some (.list (List.replicate j.toNat xs).flatten, σ) :=
  (if_pos (mul_fit h0 h1)).trans (vlist_ok h)
theorem c_ltI : cmpOp .Lt (.int i) (.int j) σ = some (.bool (decide (i < j)), σ) := rfl
theorem c_leI : cmpOp .LtE (.int i) (.int j) σ = some (.bool (decide (i ≤ j)), σ) := rfl
theorem c_gtI : cmpOp .Gt (.int i) (.int j) σ = some (.bool (decide (j < i)), σ) := rfl
theorem c_geI : cmpOp .GtE (.int i) (.int j) σ = some (.bool (decide (j ≤ i)), σ) := rfl
theorem c_eqI : cmpOp .Eq (.int i) (.int j) σ = some (.bool (i == j), σ) := rfl
theorem c_neI : cmpOp .NotEq (.int i) (.int j) σ = some (.bool (!(i == j)), σ) := rfl
theorem c_eqS : cmpOp .Eq (.str x) (.str y) σ = some (.bool (x == y), σ) := rfl
theorem c_neS : cmpOp .NotEq (.str x) (.str y) σ = some (.bool (!(x == y)), σ) := rfl
theorem c_isB {p q : Bool} : cmpOp .Is (.bool p) (.bool q) σ = some (.bool (p == q), σ) := rfl
theorem c_isnB {p q : Bool} : cmpOp .IsNot (.bool p) (.bool q) σ = some (.bool (!(p == q)), σ) := rfl
theorem idx_nat {n : Nat} (k : Nat) (h : k < n) (hk : k < 4611686018427387904) : idx (k : Int) n = some k := by
  unfold idx
  rw [if_pos (by (first | lia | omega)), if_pos (by (first | lia | omega))]; rfl
theorem atL_nat (k : Nat) (h : xs[k]? = some a) (hk : k < 4611686018427387904) : atL xs (k : Int) σ = some (a, σ) := by
  unfold atL
  rw [idx_nat k (List.getElem?_eq_some_iff.mp h).1 hk]
  show o1 xs[k]? _ = _
  rw [h]; rfl
theorem oi_list (k : Nat) (h : xs[k]? = some a) (hk : k < 4611686018427387904) : opItem (.list xs) (.int k) σ = some (a, σ) := atL_nat k h hk
theorem oi_tup (k : Nat) (h : xs[k]? = some a) (hk : k < 4611686018427387904) : opItem (.tup xs) (.int k) σ = some (a, σ) := atL_nat k h hk
theorem oi_str {ch : Nat} (k : Nat) (h : x[k]? = some ch) (hk : k < 4611686018427387904) : opItem (.str x) (.int k) σ = some (.str [ch], σ) := by
  show atS x k σ = _
  unfold atS
  rw [idx_nat k (List.getElem?_eq_some_iff.mp h).1 hk]
  show o1 x[k]? _ = _
  rw [h]; rfl
theorem idx_neg {n : Nat} (h : 1 ≤ n) : idx (-1) n = some (n - 1) := by
  unfold idx
  rw [if_neg (by decide), if_pos ⟨by (first | lia | omega), by decide⟩]
  exact congrArg some (by (first | lia | omega))
theorem setCell_dict {q : Nat} {D : List (List Nat × AV)} {k : List Nat} (h : σ[q]? = some (.dict D)) (hl : D.length ≤ 16777216) : setCell σ q (.str k) a = some (σ.set q (.dict (setD D k a))) := by
  unfold setCell
  rw [h]
  show o1 (if okS D.length then some (ACell.dict (setD D k a)) else none) _ = _
  rw [if_pos (show okS D.length = true from decide_eq_true hl)]; rfl
theorem oi_dict {D : List (List Nat × AV)} (h : lookD x D = some a) : opItem (.dict D) (.str x) σ = some (a, σ) := by
  show o1 (lookD x D) _ = _
  rw [h]; rfl
end
theorem loop_gen {α : Type} {η : Eta} {σ : St} {e : ME} {t : MT} {b : α → Binder} {u : α → Eta} {p : α → Bool} {f : α → AV} : ∀ (as : List α) (acc : List AV), (∀ a ∈ as, b a η σ = some (u a, σ)) → (∀ a ∈ as, t (u a) σ = some (p a, σ)) → (∀ a ∈ as, p a = true → e (u a) σ = some (f a, σ)) →
    acc.length + as.length ≤ 16777216 → loopG (as.map b) (gIf t (gList e)) η σ (.list acc) = some (σ, .list (acc ++ (as.filter p).map f)) := by
  intro as
  induction as with
  | nil => intro acc _ _ _ _; show some (σ, ACell.list acc) = _; rw [List.filter_nil, List.map_nil, List.append_nil]
  | cons a as ih =>
    intro acc hb ht he hl
    rw [List.length_cons] at hl
    have ih := fun acc => ih acc (fun x hx => hb x (List.mem_cons_of_mem _ hx)) (fun x hx => ht x (List.mem_cons_of_mem _ hx)) (fun x hx => he x (List.mem_cons_of_mem _ hx))
    show oB (b a η σ) (fun η' σ => oB (oT (t η' σ) (fun σ => gList e η' σ (.list acc)) fun σ => some (σ, .list acc)) fun σ acc => loopG (as.map b) (gIf t (gList e)) η σ acc) = _
    rw [hb a List.mem_cons_self]
    show oB (oT (t (u a) σ) (fun σ => gList e (u a) σ (.list acc)) fun σ => some (σ, .list acc)) (fun σ acc => loopG (as.map b) (gIf t (gList e)) η σ acc) = _
    rw [ht a List.mem_cons_self]
    cases hp : p a with
    | false =>
      rw [List.filter_cons, hp]
      exact ih acc (by (first | lia | omega))
    | true =>
      show oB (oB (e (u a) σ) fun v σ => if okS acc.length then some (σ, .list (acc ++ [v])) else none) (fun σ acc => loopG (as.map b) (gIf t (gList e)) η σ acc) = _
      rw [he a List.mem_cons_self hp]
      show oB (if okS acc.length then some (σ, ACell.list (acc ++ [f a])) else none) (fun σ acc => loopG (as.map b) (gIf t (gList e)) η σ acc) = _
      rw [if_pos (show okS acc.length = true from decide_eq_true (by (first | lia | omega))), List.filter_cons, hp]
      refine (ih (acc ++ [f a]) (by rw [List.length_append]; show acc.length + 1 + as.length ≤ _; (first | lia | omega))).trans ?_
      rw [List.append_assoc]; rfl
theorem comp_gen {α : Type} {η : Eta} {σ : St} {mi : MI} {e : ME} {t : MT} {b : α → Binder} {u : α → Eta} {own : List Nat} (as : List α) (p : α → Bool) (f : α → AV) (hmi : mi η σ = some (as.map b, σ)) (hu : own.all (unb η) = true) (hb : ∀ a ∈ as, b a η σ = some (u a, σ)) (ht : ∀ a ∈ as, t (u a) σ = some (p a, σ))
    (he : ∀ a ∈ as, p a = true → e (u a) σ = some (f a, σ)) (hl : as.length ≤ 16777216) : mComp own mi (gIf t (gList e)) η σ = some (.list ((as.filter p).map f), σ) := by
  unfold mComp gFor
  rw [if_pos hu, hmi]
  show oB (loopG (as.map b) (gIf t (gList e)) η σ (.list [])) _ = _
  rw [loop_gen as [] hb ht he (by rw [List.length_nil]; (first | lia | omega))]
  rfl
theorem filt_true {α : Type} (xs : List α) : xs.filter (fun _ => true) = xs := List.filter_eq_self.mpr fun _ _ => rfl
theorem acons2 {η : Eta} {σ : St} {i j : Nat} {x y : AV} (hi : i < η.length) (hj : j < η.length) : aCons (aV i) (aCons (aV j) aNil) [x, y] η σ = some ((η.set i x).set j y, σ) := by
  show oB (if i < η.length then some (η.set i x, σ) else none) (fun η σ => oB (if j < η.length then some (η.set j y, σ) else none) fun η σ => some (η, σ)) = _
  rw [if_pos hi]
  show oB (if j < (η.set i x).length then some ((η.set i x).set j y, σ) else none) _ = _
  rw [if_pos (by rw [List.length_set]; exact hj)]; rfl
theorem atupL2 {η : Eta} {σ : St} {i j : Nat} {x y : AV} (hi : i < η.length) (hj : j < η.length) : aTup 2 (aCons (aV i) (aCons (aV j) aNil)) (.list [x, y]) η σ = some ((η.set i x).set j y, σ) := (if_pos (c := ([x, y] : List AV).length = 2) (e := none) rfl).trans (acons2 hi hj)
theorem iVal_is {α : Type} {η : Eta} {σ : St} {m : ME} {t : AV → Binder} {a : AV} {as : List α} {g : α → AV} (hm : m η σ = some (a, σ)) (ha : iterL a = some (as.map g)) : iVal m t η σ = some (as.map fun x => t (g x), σ) := by
  show oB (m η σ) (fun a σ => o1 (iterL a) fun xs => some (xs.map t, σ)) = _
  rw [hm]
  show o1 (iterL a) _ = _
  rw [ha]
  show some ((as.map g).map t, σ) = _
  rw [List.map_map]; rfl
theorem comp_mapA {α : Type} {η : Eta} {σ : St} {m e : ME} {i : Nat} {own : List Nat} {a : AV} (as : List α) (g : α → AV) (f : α → AV) (hm : m η σ = some (a, σ)) (ha : iterL a = some (as.map g)) (hu : own.all (unb η) = true) (hi : i < η.length) (he : ∀ x ∈ as, e (η.set i (g x)) σ = some (f x, σ)) (hl : as.length ≤ 16777216) :
    mComp own (iVal m (aV i)) (gIf (tK true) (gList e)) η σ = some (.list (as.map f), σ) := by
  have := comp_gen (b := fun x => aV i (g x)) (u := fun x => η.set i (g x)) (t := tK true) (e := e) as (fun _ => true) f (mi := iVal m (aV i)) (iVal_is hm ha) hu (fun x _ => if_pos hi) (fun _ _ => rfl) (fun x hx _ => he x hx) hl
  rwa [filt_true] at this
theorem comp_filterA {α : Type} {η : Eta} {σ : St} {m e : ME} {t : MT} {i : Nat} {own : List Nat} {a : AV} (as : List α) (g : α → AV) (p : α → Bool) (f : α → AV) (hm : m η σ = some (a, σ)) (ha : iterL a = some (as.map g)) (hu : own.all (unb η) = true) (hi : i < η.length) (ht : ∀ x ∈ as, t (η.set i (g x)) σ = some (p x, σ))
    (he : ∀ x ∈ as, p x = true → e (η.set i (g x)) σ = some (f x, σ)) (hl : as.length ≤ 16777216) : mComp own (iVal m (aV i)) (gIf t (gList e)) η σ = some (.list ((as.filter p).map f), σ) :=
  comp_gen (b := fun x => aV i (g x)) (u := fun x => η.set i (g x)) as p f (mi := iVal m (aV i)) (iVal_is hm ha) hu (fun x _ => if_pos hi) ht he hl
theorem comp_enum {η : Eta} {σ : St} {m e : ME} {i j : Nat} {own : List Nat} (xs : List AV) (f : AV × Nat → AV) (hm : m η σ = some (.list xs, σ)) (hu : own.all (unb η) = true) (hi : i < η.length) (hj : j < η.length)
    (he : ∀ x ∈ xs.zipIdx, e ((η.set i (.int x.2)).set j x.1) σ = some (f x, σ)) (hl : xs.length ≤ 16777216) :
    mComp own (iEnum m (aCons (aV i) (aCons (aV j) aNil))) (gIf (tK true) (gList e)) η σ = some (.list (xs.zipIdx.map f), σ) := by
  have := comp_gen (b := fun x : AV × Nat => aCons (aV i) (aCons (aV j) aNil) [.int x.2, x.1]) (u := fun x => (η.set i (.int x.2)).set j x.1) (t := tK true) (e := e) xs.zipIdx (fun _ => true) f (mi := iEnum m (aCons (aV i) (aCons (aV j) aNil))) (by unfold iEnum; rw [hm]; show some ((xs.zipIdx.map _).map _, σ) = _; rw [List.map_map]; rfl) hu
    (fun x _ => acons2 hi hj) (fun _ _ => rfl) (fun x hx _ => he x hx) (by simpa using hl)
  rwa [filt_true] at this

theorem range_size (n : Nat) : Builtin.Range.rangeSize 0 (n : Int) 1 = n := by unfold Builtin.Range.rangeSize; rw [if_pos (by decide)]; split <;> (first | lia | omega)
theorem iter_range (n : Nat) (h : n ≤ 1000000) : iterL (.range 0 n 1) = some ((List.range n).map fun (k : Nat) => AV.int k) := by
  show (if Builtin.Range.small 0 (n : Int) 1 && decide ((1 : Int) ≠ 0) then some (rangeL 0 n 1) else none) = _
  have h1 : Builtin.Range.small 0 (n : Int) 1 = true := by unfold Builtin.Range.small Builtin.Range.rangeFitsLong Builtin.Range.rangeSize; simp; (first | lia | omega)
  rw [h1, if_pos (by decide)]
  unfold rangeL
  rw [range_size, Int.toNat_natCast]
  have h3 : ∀ k ∈ List.range n, AV.int (0 + (k : Int) * 1) = AV.int k := fun k _ => by rw [Int.mul_one, Int.zero_add]
  exact congrArg some (List.map_congr_left h3)
end Mine
end
section
open PySem PySem.W PyProof.Rows
set_option maxRecDepth 100000
set_option linter.unusedVariables false
namespace Mine

theorem posL_nil {x : List Nat} {c lo : Nat} (h : ∀ i, lo ≤ i → x[i]? ≠ some c) : posL x c lo = [] := by
  unfold posL
  rw [List.filter_eq_nil_iff]
  intro i hi
  have := (List.mem_range'_1.mp hi).1
  simpa using h i this
theorem posL_head {a b : List Nat} {c lo : Nat} (hlo : lo ≤ a.length) (h : c ∉ a.drop lo) : ∃ r, posL (a ++ c :: b) c lo = a.length :: r := by
  unfold posL
  have e1 : (a ++ c :: b).length - lo = (a.length - lo) + (b.length + 1) := by simp; (first | lia | omega)
  rw [e1, List.range'_append_1.symm, List.filter_append]
  have e2 : (List.range' lo (a.length - lo)).filter (fun i => (a ++ c :: b)[i]? == some c) = [] := by
    rw [List.filter_eq_nil_iff]
    intro i hi
    have h1 := List.mem_range'_1.mp hi
    have hi' : i < a.length := by (first | lia | omega)
    rw [List.getElem?_append_left hi']
    intro q
    apply h
    have q' : a[i]? = some c := by simpa using q
    have : (a.drop lo)[i - lo]? = some c := by rw [List.getElem?_drop, show lo + (i - lo) = i by (first | lia | omega)]; exact q'
    exact List.mem_of_getElem? this
  have e3 : lo + (a.length - lo) = a.length := by (first | lia | omega)
  rw [e2, e3, List.nil_append, List.range'_succ, List.filter_cons]
  have : ((a ++ c :: b)[a.length]? == some c) = true := by simp
  rw [this, if_pos rfl]
  exact ⟨_, rfl⟩
theorem findI_at {a b : List Nat} {c lo : Nat} (hlo : lo ≤ a.length) (h : c ∉ a.drop lo) : findI (a ++ c :: b) c lo = a.length := by
  obtain ⟨r, e⟩ := posL_head (b := b) hlo h
  unfold findI; rw [e]
theorem findI_no {x : List Nat} {c lo : Nat} (h : c ∉ x.drop lo) : findI x c lo = -1 := by
  unfold findI
  rw [posL_nil]
  intro i hi q
  apply h
  have : (x.drop lo)[i - lo]? = some c := by rw [List.getElem?_drop, show lo + (i - lo) = i by (first | lia | omega)]; exact q
  exact List.mem_of_getElem? this
theorem cut1_at {c : Nat} {a b : List Nat} (h : c ∉ a) : cut1 c (a ++ c :: b) = [a, b] := by
  obtain ⟨r, e⟩ := posL_head (a := a) (b := b) (c := c) (lo := 0) (Nat.zero_le _) (by simpa using h)
  unfold cut1
  rw [e]
  simp [pieces]
theorem clip_nat (n k : Nat) (h : k ≤ n) : clipAt n (k : Int) = k := by unfold clipAt; (first | lia | omega)
theorem clip_neg (n : Nat) : clipAt n (-1 : Int) = n - 1 := by unfold clipAt; (first | lia | omega)
theorem slc_from {α : Type} (l : List α) (k : Nat) (h : k ≤ l.length) : slc l (some k) none = l.drop k := by
  show (l.drop (clipAt l.length (k : Int))).take (l.length - clipAt l.length (k : Int)) = _
  rw [clip_nat _ _ h]
  exact List.take_of_length_le (by rw [List.length_drop]; exact Nat.le_refl _)
theorem slc_to {α : Type} (l : List α) (k : Nat) (h : k ≤ l.length) : slc l none (some k) = l.take k := by
  show (l.drop 0).take (clipAt l.length (k : Int) - 0) = _
  rw [clip_nat _ _ h]; rfl
theorem slc_mid {α : Type} (l : List α) (i k : Nat) (hi : i ≤ l.length) (h : k ≤ l.length) : slc l (some i) (some k) = (l.drop i).take (k - i) := by
  show (l.drop (clipAt l.length (i : Int))).take (clipAt l.length (k : Int) - clipAt l.length (i : Int)) = _
  rw [clip_nat _ _ hi, clip_nat _ _ h]
theorem slc_last {α : Type} (l : List α) : slc l (some (-1)) none = l.drop (l.length - 1) := by
  show (l.drop (clipAt l.length (-1 : Int))).take (l.length - clipAt l.length (-1 : Int)) = _
  rw [clip_neg]
  exact List.take_of_length_le (by rw [List.length_drop]; exact Nat.le_refl _)
theorem slc_in {α : Type} (l : List α) (h : 2 ≤ l.length) : slc l (some 1) (some (-1)) = (l.drop 1).take (l.length - 2) := by
  show (l.drop (clipAt l.length ((1 : Nat) : Int))).take (clipAt l.length (-1 : Int) - clipAt l.length ((1 : Nat) : Int)) = _
  rw [clip_neg, clip_nat _ _ (Nat.le_of_succ_le h)]; rfl

noncomputable def fhit (l : List Nat) : Option (List Nat) := if lit7.isPrefixOf l && (l.drop 7).contains 41 then some ((l.drop 7).takeWhile (fun c => c != 41)) else none
noncomputable def fseek : List Nat → Option (List Nat)
  | [] => none
  | c :: r => if c = 10 then none else match fseek r with
    | some g => some g
    | none => fhit (c :: r)
theorem take_run (l : List Nat) : l.take (l.takeWhile (fun c => c != 41)).length = l.takeWhile (fun c => c != 41) := by
  induction l with
  | nil => rfl
  | cons c r ih =>
    rw [List.takeWhile_cons]
    by_cases h : (c != 41) = true
    · rw [if_pos h]; simp [ih]
    · rw [if_neg h]; rfl
theorem run_lt (l : List Nat) : decide ((l.takeWhile (fun c => c != 41)).length < l.length) = l.contains 41 := by
  induction l with
  | nil => rfl
  | cons c r ih =>
    rw [List.takeWhile_cons, List.contains_cons]
    by_cases h : (c != 41) = true
    · rw [if_pos h]
      simp only [List.length_cons, Nat.add_lt_add_iff_right]
      rw [ih]
      have : (41 == c) = false := by simp at h ⊢; exact fun e => h e.symm
      rw [this, Bool.false_or]
    · rw [if_neg h]
      have : c = 41 := by simpa using h
      subst this; simp
theorem hitAt_zero (l : List Nat) : (hitAt l 0).map (fun n => (l.drop 7).take n) = fhit l := by
  unfold hitAt fhit runL
  rw [List.drop_zero, Nat.zero_add]
  by_cases h : lit7.isPrefixOf l = true
  · have hl : 7 ≤ l.length := (List.isPrefixOf_iff_prefix.mp h).length_le
    have e : decide (7 + ((l.drop 7).takeWhile (fun c => c != 41)).length < l.length) = (l.drop 7).contains 41 := by
      rw [← run_lt]
      simp only [List.length_drop]
      congr 1
      apply propext; (first | lia | omega)
    rw [e]
    split
    · simp [take_run]
    · rfl
  · rw [Bool.not_eq_true] at h
    rw [h]; rfl
theorem hitAt_succ (c : Nat) (r : List Nat) (m : Nat) : hitAt (c :: r) (m + 1) = hitAt r m := by
  unfold hitAt runL
  rw [show m + 1 + 7 = (m + 7) + 1 by (first | lia | omega)]
  simp only [List.drop_succ_cons, List.length_cons]
  have : decide (m + 7 + 1 + (List.takeWhile (fun c => c != 41) (List.drop (m + 7) r)).length < r.length + 1) = decide (m + 7 + (List.takeWhile (fun c => c != 41) (List.drop (m + 7) r)).length < r.length) := by
    congr 1; apply propext; (first | lia | omega)
  rw [this]
theorem sk_cons (c : Nat) (r : List Nat) : ∀ m, sk (c :: r) (m + 1) = match sk r m with
    | some (p, n) => some (p + 1, n)
    | none => (hitAt (c :: r) 0).map fun n => (0, n)
  | 0 => by
    show (match hitAt (c :: r) 1 with | some n => some (1, n) | none => sk (c :: r) 0) = _
    rw [hitAt_succ]
    unfold sk
    cases hitAt r 0 <;> rfl
  | m + 1 => by
    show (match hitAt (c :: r) (m + 1 + 1) with | some n => some (m + 1 + 1, n) | none => sk (c :: r) (m + 1)) = _
    rw [hitAt_succ, sk_cons c r m]
    show _ = match (match hitAt r (m + 1) with | some n => some (m + 1, n) | none => sk r m) with
      | some (p, n) => some (p + 1, n)
      | none => _
    cases hitAt r (m + 1) <;> rfl
theorem fseek_eq : ∀ l : List Nat, (skF l).map (fun q => (l.drop (q.1 + 7)).take q.2) = fseek l
  | [] => rfl
  | c :: r => by
    unfold skF fseek
    have hl : lineL (c :: r) = if c = 10 then 0 else lineL r + 1 := by
      unfold lineL
      rw [List.takeWhile_cons]
      by_cases h : c = 10
      · subst h; rfl
      · rw [if_neg h, if_pos (by simpa using h)]; rfl
    rw [hl]
    by_cases h : c = 10
    · rw [if_pos h, if_pos h]
      subst h
      rfl
    · rw [if_neg h, if_neg h, sk_cons]
      have ih := fseek_eq r
      unfold skF at ih
      cases hs : sk r (lineL r) with
      | none =>
        rw [hs] at ih
        rw [← ih]
        show Option.map _ (Option.map _ (hitAt (c :: r) 0)) = fhit (c :: r)
        rw [← hitAt_zero, Option.map_map]
        rfl
      | some q =>
        obtain ⟨p, n⟩ := q
        rw [hs] at ih
        rw [← ih]
        show some (List.take n (List.drop (p + 1 + 7) (c :: r))) = some (List.take n (List.drop (p + 7) r))
        rw [show p + 1 + 7 = (p + 7) + 1 by (first | lia | omega), List.drop_succ_cons]
theorem toB_nat {t : List Nat} (h : asc t = true) : (toB t).map (fun c => c.toNat) = t := by
  unfold toB
  rw [List.map_map]
  conv => rhs; rw [← List.map_id t]
  apply List.map_congr_left
  intro c hc
  have := List.all_eq_true.mp h c hc
  have : c < 128 := by simpa using this
  simp
  (first | lia | omega)
theorem flagsG_eq {t : List Nat} (h : asc t = true) : flagsG (toB t) = (fseek t).map toB := by
  unfold flagsG
  rw [toB_nat h, ← fseek_eq]
  cases skF t with
  | none => rfl
  | some q => obtain ⟨p, n⟩ := q; simp [toB, List.map_take, List.map_drop]
theorem fseek_pre {a b g : List Nat} (ha : 10 ∉ a) (h : fseek b = some g) : fseek (a ++ b) = some g := by
  induction a with
  | nil => exact h
  | cons c r ih =>
    have h1 : c ≠ 10 := fun e => ha (by rw [e]; exact List.mem_cons_self)
    have h2 : 10 ∉ r := fun e => ha (List.mem_cons_of_mem _ e)
    show (if c = 10 then none else match fseek (r ++ b) with | some g => some g | none => _) = _
    rw [if_neg h1, ih h2]
end Mine
end
section
open PySem PySem.W PyProof.Rows
set_option maxRecDepth 100000
set_option linter.unusedVariables false
set_option linter.unusedSimpArgs false
namespace Mine
section
variable {σ : St}
theorem v_sFail {η : Eta} : sFail η σ = none := rfl
noncomputable def kRs (x : Option (List AV × St)) (η : Eta) : Option (Out × Eta × St) := oB x fun l σ => args l (fun a => asS a fun x => some (.exc x, η, σ)) no2 no3
theorem v_sRaise {r : ML} {η : Eta} : sRaise r η σ = kRs (r η σ) η := rfl
theorem kRs_some {x : List Nat} {η : Eta} : kRs (some ([.str x], σ)) η = some (.exc x, η, σ) := rfl
theorem okS_of {n : Nat} (h : n ≤ 16777216) : okS n = true := decide_eq_true h
theorem os_full {x : List Nat} {lo hi : AV} {l h : Option Int} (hl : partOf lo = some l) (hh : partOf hi = some h) (hx : x.length ≤ 16777216) : opSlice (.str x) lo hi .none σ = some (.str (slc x l h), σ) := by
  unfold opSlice
  rw [hl, hh]
  exact if_pos (by rw [okS_of hx]; rfl)
theorem o_find1 {x : List Nat} {c : Nat} : oFind [.str x, .str [c]] σ = some (.int (findI x c 0), σ) := rfl
theorem o_find2 {x : List Nat} {c : Nat} {i : Int} (h0 : 0 ≤ i) (h1 : i ≤ x.length) : oFind [.str x, .str [c], .int i] σ = some (.int (findI x c i.toNat), σ) :=
  if_pos (by rw [decide_eq_true h0, decide_eq_true h1]; rfl)
theorem okC_of {x : List Nat} {c : Nat} (hc : c < 256) (hx : x.length + 1 ≤ 16777216) (hn : x ≠ []) : okC c x = true := by
  unfold okC
  rw [decide_eq_true hc, okS_of hx]
  cases x with
  | nil => exact absurd rfl hn
  | cons => rfl
theorem o_split1 {x : List Nat} {c : Nat} (hc : c < 256) (hx : x.length + 1 ≤ 16777216) (hn : x ≠ []) : oSplit [.str x, .str [c]] σ = some (.list ((cutAll c x).map .str), σ) := if_pos (okC_of hc hx hn)
theorem o_split2 {x : List Nat} {c : Nat} (hc : c < 256) (hx : x.length + 1 ≤ 16777216) (hn : x ≠ []) : oSplit [.str x, .str [c], .int 1] σ = some (.list ((cut1 c x).map .str), σ) := (if_pos (c := (1 : Int) = 1) (e := none) rfl).trans (if_pos (okC_of hc hx hn))
theorem o_lenL {xs : List AV} (h : xs.length ≤ 16777216) : oLen [.list xs] σ = some (.int xs.length, σ) := if_pos (okS_of h)
theorem o_lenS {x : List Nat} (h : x.length ≤ 16777216) : oLen [.str x] σ = some (.int x.length, σ) := if_pos (okS_of h)
theorem o_tuple {xs : List AV} (h : xs.length ≤ 16777216) : oTuple [.list xs] σ = some (.tup xs, σ) := vtup_ok h
theorem o_int {x : List Nat} {n : Int} (h : x.length ≤ 640) (e : PySem.intText? (toStr x) = some n) : oInt [.str x] σ = some (.int n, σ) := by
  show (if x.length ≤ 640 then o1 (PySem.intText? (toStr x)) fun n => vint n σ else none) = _
  rw [if_pos h, e]; rfl

noncomputable def r229 (A f : List Nat) (host : List Nat) (resp : List Nat) : Out := match f with
  | [] => .next
  | c :: _ => if f.getLast? = some c then (match cutAll c f with
      | [_, _, _, p, _] => match PySem.intText? (toStr p) with
        | some n => .ret (.tup [.str host, .int n])
        | none => .next
      | _ => .exc resp)
    else .exc resp

noncomputable def RR (A f tl : List Nat) : List Nat := A ++ 40 :: (f ++ 41 :: tl)
theorem RR_len (A f tl : List Nat) : (RR A f tl).length = A.length + (f.length + (tl.length + 1) + 1) := by
  unfold RR; rw [List.length_append, List.length_cons, List.length_append, List.length_cons]
theorem RR_cut (A f tl : List Nat) : RR A f tl = (A ++ 40 :: f) ++ 41 :: tl := by unfold RR; rw [List.append_assoc]; rfl
theorem RR_drop (A f tl : List Nat) : (RR A f tl).drop (A.length + 1) = f ++ 41 :: tl := by
  unfold RR; rw [List.drop_append, List.drop_of_length_le (Nat.le_succ _), Nat.add_sub_cancel_left]; rfl
theorem ci1 (a b : Nat) : (a : Int) + 1 + b - 1 = ((a + b : Nat) : Int) := by (first | lia | omega)
theorem ci2 (a b c n : Nat) (h : a + (b + (c + 1) + 1) ≤ n) : a + 1 + b ≤ n ∧ a + b + 1 < n + 1 ∧ a + 1 ≤ n := by (first | lia | omega)
theorem big (n : Nat) (h : n ≤ 100000) : n ≤ 16777216 ∧ n + 1 ≤ 16777216 ∧ n < 4611686018427387904 := by (first | lia | omega)
section
variable {A f tl : List Nat} {c d : Nat}
theorem q_head {B : List Nat} (hA3 : 3 ≤ A.length) (hAt : A.take 3 = [50, 50, 57]) (hl : (A ++ B).length ≤ 100000) : opSlice (.str (A ++ B)) .none (.int 3) .none σ = some (.str [50, 50, 57], σ) := by
  rw [os_full (l := none) (h := some (3 : Nat)) rfl rfl (big _ hl).1, slc_to _ _ (by rw [List.length_append]; exact Nat.le_trans hA3 (Nat.le_add_right _ _)), List.take_append_of_le_length hA3, hAt]
theorem q_find1 {B : List Nat} (hh : 40 ∉ A) : findI (A ++ 40 :: B) 40 0 = A.length := findI_at (Nat.zero_le _) hh
theorem q_find2 (hf : 41 ∉ f) : oFind [.str (RR A f tl), .str [41], .int ((A.length : Int) + 1)] σ = some (.int ((A.length : Int) + 1 + f.length), σ) := by
  have h1 : (A ++ 40 :: f).length = A.length + 1 + f.length := by rw [List.length_append, List.length_cons, Nat.add_assoc, Nat.add_comm 1]
  have h2 : (A ++ 40 :: f).drop (A.length + 1) = f := by rw [List.drop_append, List.drop_of_length_le (Nat.le_succ _), Nat.add_sub_cancel_left]; rfl
  refine (o_find2 (i := ((A.length + 1 : Nat) : Int)) (Int.natCast_nonneg _) (Int.ofNat_le.mpr (by rw [RR_len]; exact (ci2 _ _ _ _ (Nat.le_refl _)).2.2))).trans ?_
  rw [Int.toNat_natCast, RR_cut, findI_at (by rw [h1]; exact Nat.le_add_right _ _) (by rw [h2]; exact hf), h1]; rfl
theorem q_item1 (hc : f.head? = some c) (hl : (RR A f tl).length ≤ 100000) : opItem (.str (RR A f tl)) (.int ((A.length : Int) + 1)) σ = some (.str [c], σ) := by
  have hl2 := Nat.le_trans (ci2 _ _ _ _ (Nat.le_refl _)).2.2 (RR_len A f tl ▸ hl)
  refine oi_str (A.length + 1) ?_ (big _ hl2).2.2
  have := List.getElem?_drop (xs := RR A f tl) (i := A.length + 1) (j := 0)
  rw [RR_drop] at this
  rw [← show A.length + 1 + 0 = A.length + 1 from rfl, ← this]
  cases f with
  | nil => exact nomatch hc
  | cons x r => exact hc
theorem q_item2 (hd : f.getLast? = some d) (hl : (RR A f tl).length ≤ 100000) : opItem (.str (RR A f tl)) (.int ((A.length : Int) + 1 + f.length - 1)) σ = some (.str [d], σ) := by
  have hl2 := Nat.le_trans (Nat.le_of_lt (Nat.lt_of_succ_lt_succ (ci2 _ _ _ _ (Nat.le_refl _)).2.1)) (RR_len A f tl ▸ hl)
  rw [ci1]
  refine oi_str (A.length + f.length) ?_ (big _ hl2).2.2
  have := List.getElem?_drop (xs := RR A f tl) (i := A.length + 1) (j := f.length - 1)
  rw [RR_drop] at this
  have hf : 1 ≤ f.length := by cases f with | nil => exact nomatch hd | cons => exact Nat.succ_le_succ (Nat.zero_le _)
  rw [show A.length + f.length = A.length + 1 + (f.length - 1) by (first | lia | omega), ← this, List.getElem?_append_left (Nat.sub_lt hf (by decide)), ← List.getLast?_eq_getElem?, hd]
theorem q_slc (hl : (RR A f tl).length ≤ 100000) : opSlice (.str (RR A f tl)) (.int ((A.length : Int) + 1)) (.int ((A.length : Int) + 1 + f.length)) .none σ = some (.str f, σ) := by
  have h := ci2 _ _ _ _ (Nat.le_of_eq (RR_len A f tl).symm)
  rw [os_full (l := some ((A.length + 1 : Nat) : Int)) (h := some ((A.length + 1 + f.length : Nat) : Int)) rfl rfl (big _ hl).1, slc_mid _ _ _ h.2.2 h.1, RR_drop, Nat.add_sub_cancel_left, List.take_left']
  rfl
end
theorem r229_head {A f host R : List Nat} {c : Nat} (hc : f.head? = some c) : r229 A f host R = if f.getLast? = some c then (match cutAll c f with
      | [_, _, _, p, _] => match PySem.intText? (toStr p) with
        | some n => .ret (.tup [.str host, .int n])
        | none => .next
      | _ => .exc R) else .exc R := by
  cases f with
  | nil => exact nomatch hc
  | cons x r => rw [← Option.some.inj hc]; rfl
theorem neg_nat (a : Nat) : decide ((a : Int) < 0) = false := decide_eq_false (Int.not_lt.mpr (Int.natCast_nonneg a))
theorem p_229A {A f tl host : List Nat} {ptl : List AV} {c : Nat} (hA3 : 3 ≤ A.length) (hAt : A.take 3 = [50, 50, 57]) (hh : 40 ∉ A) (hf : 41 ∉ f) (hc : f.head? = some c) (hc2 : c < 256) (hl : (RR A f tl).length ≤ 100000) (hp : ∀ p ∈ cutAll c f, p.length ≤ 640)
    (hr : r229 A f host (RR A f tl) ≠ .next) : opx_parse229 [.str (RR A f tl), .tup (.str host :: ptl)] σ = some (r229 A f host (RR A f tl), σ) := by
  have e1 : opSlice (.str (RR A f tl)) .none (.int 3) .none σ = some (.str [50, 50, 57], σ) := q_head hA3 hAt hl
  have e2 : findI (RR A f tl) 40 0 = A.length := q_find1 hh
  have e3 := q_find2 (σ := σ) (A := A) (tl := tl) hf
  have e4 := q_item1 (σ := σ) hc hl
  obtain ⟨d, hd⟩ : ∃ d, f.getLast? = some d := by
    cases f with
    | nil => exact nomatch hc
    | cons x r => exact ⟨_, List.getLast?_eq_some_getLast (List.cons_ne_nil _ _)⟩
  have e5 := q_item2 (σ := σ) hd hl
  have e6 := q_slc (σ := σ) hl
  have hfl := Nat.le_trans (show f.length ≤ A.length + (f.length + (tl.length + 1) + 1) by (first | lia | omega)) (RR_len A f tl ▸ hl)
  have e7 := o_split1 (σ := σ) (x := f) hc2 (big _ hfl).2.1 (fun e => by rw [e] at hc; exact nomatch hc)
  have q1 := neg_nat A.length
  have q2 : decide ((A.length : Int) + 1 + f.length < 0) = false := neg_nat (A.length + 1 + f.length)
  have b1 : ([50, 50, 57] == ([50, 50, 57] : List Nat)) = true := rfl
  have r1 := r229_head (A := A) (host := host) (R := RR A f tl) hc
  rw [hd] at r1
  unfold opx_parse229 oFunX m_parse229
  by_cases hcd : c = d
  · rw [← hcd] at r1 e5
    rw [if_pos rfl] at r1
    have b2 : ([c] == [c]) = true := beq_self_eq_true _
    have e8 := o_lenL (σ := σ) (xs := (cutAll c f).map .str) (by rw [List.length_map]; exact Nat.le_trans (cutAll_len c f) (big _ hfl).2.1)
    rw [List.length_map] at e8
    by_cases h5 : (cutAll c f).length = 5
    · have e12 : (((cutAll c f).length : Int) == 5) = true := by rw [h5]; rfl
      match hq : cutAll c f, h5 with
      | [p0, p1, p2, p3, p4], _ =>
        rw [hq] at r1 e7 e8 e12
        cases hn : PySem.intText? (toStr p3) with
        | none => dsimp only at r1; rw [hn] at r1; exact absurd r1 hr
        | some n =>
          dsimp only at r1
          rw [hn] at r1
          dsimp only at r1
          replace e8 : oLen [.list ([p0, p1, p2, p3, p4].map .str)] σ = some (.int 5, σ) := e8
          replace e12 : ((5 : Int) == 5) = true := rfl
          have e9 := o_int (σ := σ) (x := p3) (hp p3 (by rw [hq]; exact List.mem_cons_of_mem _ (List.mem_cons_of_mem _ (List.mem_cons_of_mem _ List.mem_cons_self)))) hn
          have e10 : opItem (.list ([p0, p1, p2, p3, p4].map .str)) (.int 3) σ = some (.str p3, σ) := rfl
          have e11 : opItem (.tup (.str host :: ptl)) (.int 0) σ = some (.str host, σ) := oi_tup 0 rfl (by decide)
          simp only [v_bCons, oR_ret, oR_next, oX_ret, oX_exc, kS_next, kS_ret, kS_exc, v_bNil, v_sAsg, kAsg_some, kNx_some, v_aV, v_sIf, v_mIte, kIf_true, kIf_false, v_sRet, kRet_some, v_sExpr, kEx_some, v_mK, v_mV, kV_int, kV_str, kV_list, kV_tup, kV_bool, kV_bytes, kV_dict, kV_cell, kV_inst, kV_script, kV_range, kV_none, kV_mtch, v_mBin, v_mCmp, v_mIdx, k2_some, k2'_some, v_tCmp, kT_some, v_tVal, kTr_bool, kTr_none, kTr_mtch, v_tNot, kN_some, v_tAnd, v_tOr, kA_true, kA_false, kO_true, kO_false, v_tK, v_mNeg, kNg_some, v_lNil, v_lCons, kL_some, kL'_some, v_mCall, v_mTup, v_mList, kC_some, v_mMeth, kM_str, kM_bytes, kM_pat, kM_mtch, kM'_some, v_mSub, kD_some, v_mSlc, kSl_some, kSl1_some, kSl2_some, kSl3_some, v_sAugS, kAu_some, bi_add, bi_sub, c_ltI, c_leI, c_gtI, c_geI, c_eqI, c_neI, c_eqS, c_neS, c_isB, c_isnB, List.length_cons, List.length_nil, List.getElem?_cons_zero, List.getElem?_cons_succ, List.set_cons_zero, List.set_cons_succ, Nat.reduceAdd, Nat.reduceLT, Nat.reduceLeDiff, if_true, Bool.not_true, Bool.not_false, eta0, List.replicate, Nat.reduceSub, List.cons_append, List.nil_append, List.length_set, e1, b1, o_find1, e2, q1, e3, q2, e4, e5, b2, e6, e7, e8, e12, e11, e10, e9, vtup_ok, v_sFail, v_sRaise, kRs_some]
          rw [r1]
    · have r2 : r229 A f host (RR A f tl) = .exc (RR A f tl) := by
        rw [r1]
        split
        · rename_i q; rw [q] at h5; exact absurd rfl h5
        · rfl
      have e12 : (((cutAll c f).length : Int) == 5) = false := beq_eq_false_iff_ne.mpr fun e => h5 (Int.ofNat.inj e)
      simp only [v_bCons, oR_ret, oR_next, oX_ret, oX_exc, kS_next, kS_ret, kS_exc, v_bNil, v_sAsg, kAsg_some, kNx_some, v_aV, v_sIf, v_mIte, kIf_true, kIf_false, v_sRet, kRet_some, v_sExpr, kEx_some, v_mK, v_mV, kV_int, kV_str, kV_list, kV_tup, kV_bool, kV_bytes, kV_dict, kV_cell, kV_inst, kV_script, kV_range, kV_none, kV_mtch, v_mBin, v_mCmp, v_mIdx, k2_some, k2'_some, v_tCmp, kT_some, v_tVal, kTr_bool, kTr_none, kTr_mtch, v_tNot, kN_some, v_tAnd, v_tOr, kA_true, kA_false, kO_true, kO_false, v_tK, v_mNeg, kNg_some, v_lNil, v_lCons, kL_some, kL'_some, v_mCall, v_mTup, v_mList, kC_some, v_mMeth, kM_str, kM_bytes, kM_pat, kM_mtch, kM'_some, v_mSub, kD_some, v_mSlc, kSl_some, kSl1_some, kSl2_some, kSl3_some, v_sAugS, kAu_some, bi_add, bi_sub, c_ltI, c_leI, c_gtI, c_geI, c_eqI, c_neI, c_eqS, c_neS, c_isB, c_isnB, List.length_cons, List.length_nil, List.getElem?_cons_zero, List.getElem?_cons_succ, List.set_cons_zero, List.set_cons_succ, Nat.reduceAdd, Nat.reduceLT, Nat.reduceLeDiff, if_true, Bool.not_true, Bool.not_false, eta0, List.replicate, Nat.reduceSub, List.cons_append, List.nil_append, List.length_set, e1, b1, o_find1, e2, q1, e3, q2, e4, e5, b2, e6, e7, e8, e12, v_sFail, v_sRaise, kRs_some]
      rw [r2]
  · rw [if_neg (fun e => hcd (Option.some.inj e).symm)] at r1
    have b2 : ([c] == [d]) = false := beq_eq_false_iff_ne.mpr fun e => hcd (List.cons.inj e).1
    simp only [v_bCons, oR_ret, oR_next, oX_ret, oX_exc, kS_next, kS_ret, kS_exc, v_bNil, v_sAsg, kAsg_some, kNx_some, v_aV, v_sIf, v_mIte, kIf_true, kIf_false, v_sRet, kRet_some, v_sExpr, kEx_some, v_mK, v_mV, kV_int, kV_str, kV_list, kV_tup, kV_bool, kV_bytes, kV_dict, kV_cell, kV_inst, kV_script, kV_range, kV_none, kV_mtch, v_mBin, v_mCmp, v_mIdx, k2_some, k2'_some, v_tCmp, kT_some, v_tVal, kTr_bool, kTr_none, kTr_mtch, v_tNot, kN_some, v_tAnd, v_tOr, kA_true, kA_false, kO_true, kO_false, v_tK, v_mNeg, kNg_some, v_lNil, v_lCons, kL_some, kL'_some, v_mCall, v_mTup, v_mList, kC_some, v_mMeth, kM_str, kM_bytes, kM_pat, kM_mtch, kM'_some, v_mSub, kD_some, v_mSlc, kSl_some, kSl1_some, kSl2_some, kSl3_some, v_sAugS, kAu_some, bi_add, bi_sub, c_ltI, c_leI, c_gtI, c_geI, c_eqI, c_neI, c_eqS, c_neS, c_isB, c_isnB, List.length_cons, List.length_nil, List.getElem?_cons_zero, List.getElem?_cons_succ, List.set_cons_zero, List.set_cons_succ, Nat.reduceAdd, Nat.reduceLT, Nat.reduceLeDiff, if_true, Bool.not_true, Bool.not_false, eta0, List.replicate, Nat.reduceSub, List.cons_append, List.nil_append, List.length_set, e1, b1, o_find1, e2, q1, e3, q2, e4, e5, b2, v_sFail, v_sRaise, kRs_some]
    rw [r1]
theorem p_229 {h f tl host : List Nat} {ptl : List AV} {c : Nat} (hh : 40 ∉ 50 :: 50 :: 57 :: h) (hf : 41 ∉ f) (hc : f.head? = some c) (hc2 : c < 256) (hlen : (50 :: 50 :: 57 :: h ++ 40 :: (f ++ 41 :: tl)).length ≤ 100000) (hp : ∀ p ∈ cutAll c f, p.length ≤ 640)
    (hr : r229 (50 :: 50 :: 57 :: h) f host (50 :: 50 :: 57 :: h ++ 40 :: (f ++ 41 :: tl)) ≠ .next) :
    opx_parse229 [.str (50 :: 50 :: 57 :: h ++ 40 :: (f ++ 41 :: tl)), .tup (.str host :: ptl)] σ = some (r229 (50 :: 50 :: 57 :: h) f host (50 :: 50 :: 57 :: h ++ 40 :: (f ++ 41 :: tl)), σ) :=
  p_229A (Nat.le_add_left 3 _) rfl hh hf hc hc2 hlen hp hr

theorem p_229_open {h f host : List Nat} {ptl : List AV} (hh : 40 ∉ 50 :: 50 :: 57 :: h) (hf : 41 ∉ f) (hlen : (50 :: 50 :: 57 :: h ++ 40 :: f).length ≤ 100000) :
    opx_parse229 [.str (50 :: 50 :: 57 :: h ++ 40 :: f), .tup (.str host :: ptl)] σ = some (.exc (50 :: 50 :: 57 :: h ++ 40 :: f), σ) := by
  have hA3 : 3 ≤ (50 :: 50 :: 57 :: h).length := Nat.le_add_left 3 _
  have hAt : (50 :: 50 :: 57 :: h).take 3 = [50, 50, 57] := rfl
  generalize 50 :: 50 :: 57 :: h = A at *
  have e1 := q_head (σ := σ) hA3 hAt hlen
  have e2 := q_find1 (B := f) hh
  have hl : (A ++ 40 :: f).length = A.length + (f.length + 1) := by rw [List.length_append, List.length_cons]
  have e3 : oFind [.str (A ++ 40 :: f), .str [41], .int ((A.length : Int) + 1)] σ = some (.int (-1), σ) := by
    refine (o_find2 (i := ((A.length + 1 : Nat) : Int)) (Int.natCast_nonneg _) (Int.ofNat_le.mpr (by rw [hl]; exact Nat.add_le_add_left (Nat.le_add_left 1 _) _))).trans ?_
    rw [Int.toNat_natCast, findI_no (by rw [List.drop_append, List.drop_of_length_le (Nat.le_succ _), Nat.add_sub_cancel_left]; exact hf)]
  have q1 := neg_nat A.length
  have q2 : decide ((-1 : Int) < 0) = true := rfl
  have b1 : ([50, 50, 57] == ([50, 50, 57] : List Nat)) = true := rfl
  unfold opx_parse229 oFunX m_parse229
  simp only [v_bCons, oR_ret, oR_next, oX_ret, oX_exc, kS_next, kS_ret, kS_exc, v_bNil, v_sAsg, kAsg_some, kNx_some, v_aV, v_sIf, v_mIte, kIf_true, kIf_false, v_sRet, kRet_some, v_sExpr, kEx_some, v_mK, v_mV, kV_int, kV_str, kV_list, kV_tup, kV_bool, kV_bytes, kV_dict, kV_cell, kV_inst, kV_script, kV_range, kV_none, kV_mtch, v_mBin, v_mCmp, v_mIdx, k2_some, k2'_some, v_tCmp, kT_some, v_tVal, kTr_bool, kTr_none, kTr_mtch, v_tNot, kN_some, v_tAnd, v_tOr, kA_true, kA_false, kO_true, kO_false, v_tK, v_mNeg, kNg_some, v_lNil, v_lCons, kL_some, kL'_some, v_mCall, v_mTup, v_mList, kC_some, v_mMeth, kM_str, kM_bytes, kM_pat, kM_mtch, kM'_some, v_mSub, kD_some, v_mSlc, kSl_some, kSl1_some, kSl2_some, kSl3_some, v_sAugS, kAu_some, bi_add, bi_sub, c_ltI, c_leI, c_gtI, c_geI, c_eqI, c_neI, c_eqS, c_neS, c_isB, c_isnB, List.length_cons, List.length_nil, List.getElem?_cons_zero, List.getElem?_cons_succ, List.set_cons_zero, List.set_cons_succ, Nat.reduceAdd, Nat.reduceLT, Nat.reduceLeDiff, if_true, Bool.not_true, Bool.not_false, eta0, List.replicate, Nat.reduceSub, List.cons_append, List.nil_append, List.length_set, e1, b1, o_find1, e2, q1, e3, q2, v_sFail, v_sRaise, kRs_some]
noncomputable def pref (p : List Nat) : List Nat := if p.drop (p.length - 1) = [47] then p else p ++ [47]
noncomputable def subB (h1 p1 h2 p2 : List Nat) : Bool := if h1 = h2 ∧ p1 = p2 then true else if h1 = h2 then (pref p1).isPrefixOf p2 else false
theorem p_is_suburi (a : AV) (h1 p1 h2 p2 : List Nat) (l1 : p1.length ≤ 100000) :
    op_is_suburi [a, .tup [.str h1, .str p1], .tup [.str h2, .str p2]] σ = some (.bool (subB h1 p1 h2 p2), σ) := by
  unfold op_is_suburi oFun m_is_suburi subB
  have hq : cmpOp .Eq (.tup [.str h1, .str p1]) (.tup [.str h2, .str p2]) σ = some (.bool (decide (h1 = h2 ∧ p1 = p2)), σ) := by
    show some (AV.bool ((h1 == h2 && (p1 == p2 && true)) && (2 == 2)), σ) = _
    congr 2
    by_cases e1 : h1 = h2 <;> by_cases e2 : p1 = p2 <;> simp [e1, e2]
  have e0 : ∀ (x y : AV), opItem (.tup [x, y]) (.int 0) σ = some (x, σ) := fun x y => rfl
  have e1 : ∀ (x y : AV), opItem (.tup [x, y]) (.int 1) σ = some (y, σ) := fun x y => rfl
  by_cases hh : h1 = h2 ∧ p1 = p2
  · simp only [v_bCons, oR_ret, oR_next, oX_ret, oX_exc, kS_next, kS_ret, kS_exc, v_bNil, v_sAsg, kAsg_some, kNx_some, v_aV, v_sIf, v_mIte, kIf_true, kIf_false, v_sRet, kRet_some, v_sExpr, kEx_some, v_mK, v_mV, kV_int, kV_str, kV_list, kV_tup, kV_bool, kV_bytes, kV_dict, kV_cell, kV_inst, kV_script, kV_range, kV_none, kV_mtch, v_mBin, v_mCmp, v_mIdx, k2_some, k2'_some, v_tCmp, kT_some, v_tVal, kTr_bool, kTr_none, kTr_mtch, v_tNot, kN_some, v_tAnd, v_tOr, kA_true, kA_false, kO_true, kO_false, v_tK, v_mNeg, kNg_some, v_lNil, v_lCons, kL_some, kL'_some, v_mCall, v_mTup, v_mList, kC_some, v_mMeth, kM_str, kM_bytes, kM_pat, kM_mtch, kM'_some, v_mSub, kD_some, v_mSlc, kSl_some, kSl1_some, kSl2_some, kSl3_some, v_sAugS, kAu_some, bi_add, bi_sub, c_ltI, c_leI, c_gtI, c_geI, c_eqI, c_neI, c_eqS, c_neS, c_isB, c_isnB, List.length_cons, List.length_nil, List.getElem?_cons_zero, List.getElem?_cons_succ, List.set_cons_zero, List.set_cons_succ, Nat.reduceAdd, Nat.reduceLT, Nat.reduceLeDiff, if_true, Bool.not_true, Bool.not_false, eta0, List.replicate, Nat.reduceSub, List.cons_append, List.nil_append, List.length_set, hq, decide_eq_true hh]
    rw [if_pos hh]
  · rw [if_neg hh]
    by_cases h12 : h1 = h2
    · have n1 : (h1 == h2) = true := by simpa using h12
      have s1 : opSlice (.str p1) (.int (-1)) .none .none σ = some (.str (p1.drop (p1.length - 1)), σ) := by
        rw [os_full (l := some (-1)) (h := none) rfl rfl (by (first | lia | omega)), slc_last]
      have st : ∀ x y : List Nat, oStarts [.str x, .str y] σ = some (.bool (y.isPrefixOf x), σ) := fun _ _ => rfl
      rw [if_pos h12]
      unfold pref
      by_cases hp : p1.drop (p1.length - 1) = [47]
      · have n2 : (p1.drop (p1.length - 1) == [47]) = true := by simpa using hp
        simp only [v_bCons, oR_ret, oR_next, oX_ret, oX_exc, kS_next, kS_ret, kS_exc, v_bNil, v_sAsg, kAsg_some, kNx_some, v_aV, v_sIf, v_mIte, kIf_true, kIf_false, v_sRet, kRet_some, v_sExpr, kEx_some, v_mK, v_mV, kV_int, kV_str, kV_list, kV_tup, kV_bool, kV_bytes, kV_dict, kV_cell, kV_inst, kV_script, kV_range, kV_none, kV_mtch, v_mBin, v_mCmp, v_mIdx, k2_some, k2'_some, v_tCmp, kT_some, v_tVal, kTr_bool, kTr_none, kTr_mtch, v_tNot, kN_some, v_tAnd, v_tOr, kA_true, kA_false, kO_true, kO_false, v_tK, v_mNeg, kNg_some, v_lNil, v_lCons, kL_some, kL'_some, v_mCall, v_mTup, v_mList, kC_some, v_mMeth, kM_str, kM_bytes, kM_pat, kM_mtch, kM'_some, v_mSub, kD_some, v_mSlc, kSl_some, kSl1_some, kSl2_some, kSl3_some, v_sAugS, kAu_some, bi_add, bi_sub, c_ltI, c_leI, c_gtI, c_geI, c_eqI, c_neI, c_eqS, c_neS, c_isB, c_isnB, List.length_cons, List.length_nil, List.getElem?_cons_zero, List.getElem?_cons_succ, List.set_cons_zero, List.set_cons_succ, Nat.reduceAdd, Nat.reduceLT, Nat.reduceLeDiff, if_true, Bool.not_true, Bool.not_false, eta0, List.replicate, Nat.reduceSub, List.cons_append, List.nil_append, List.length_set, hq, decide_eq_false hh, e0, e1, n1, s1, n2, st]
        rw [if_pos hp]
      · have n2 : (p1.drop (p1.length - 1) == [47]) = false := by simpa using hp
        have ka : kAu' p1 (some (.str [47], σ)) 3 [a, .tup [.str h1, .str p1], .tup [.str h2, .str p2], .str p1] = aV 3 (.str (p1 ++ [47])) [a, .tup [.str h1, .str p1], .tup [.str h2, .str p2], .str p1] σ := kAu'_some (by simp; (first | lia | omega))
        simp only [v_bCons, oR_ret, oR_next, oX_ret, oX_exc, kS_next, kS_ret, kS_exc, v_bNil, v_sAsg, kAsg_some, kNx_some, v_aV, v_sIf, v_mIte, kIf_true, kIf_false, v_sRet, kRet_some, v_sExpr, kEx_some, v_mK, v_mV, kV_int, kV_str, kV_list, kV_tup, kV_bool, kV_bytes, kV_dict, kV_cell, kV_inst, kV_script, kV_range, kV_none, kV_mtch, v_mBin, v_mCmp, v_mIdx, k2_some, k2'_some, v_tCmp, kT_some, v_tVal, kTr_bool, kTr_none, kTr_mtch, v_tNot, kN_some, v_tAnd, v_tOr, kA_true, kA_false, kO_true, kO_false, v_tK, v_mNeg, kNg_some, v_lNil, v_lCons, kL_some, kL'_some, v_mCall, v_mTup, v_mList, kC_some, v_mMeth, kM_str, kM_bytes, kM_pat, kM_mtch, kM'_some, v_mSub, kD_some, v_mSlc, kSl_some, kSl1_some, kSl2_some, kSl3_some, v_sAugS, kAu_some, bi_add, bi_sub, c_ltI, c_leI, c_gtI, c_geI, c_eqI, c_neI, c_eqS, c_neS, c_isB, c_isnB, List.length_cons, List.length_nil, List.getElem?_cons_zero, List.getElem?_cons_succ, List.set_cons_zero, List.set_cons_succ, Nat.reduceAdd, Nat.reduceLT, Nat.reduceLeDiff, if_true, Bool.not_true, Bool.not_false, eta0, List.replicate, Nat.reduceSub, List.cons_append, List.nil_append, List.length_set, hq, decide_eq_false hh, e0, e1, n1, s1, n2, ka, st]
        rw [if_neg hp]
    · have n1 : (h1 == h2) = false := by simpa using h12
      simp only [v_bCons, oR_ret, oR_next, oX_ret, oX_exc, kS_next, kS_ret, kS_exc, v_bNil, v_sAsg, kAsg_some, kNx_some, v_aV, v_sIf, v_mIte, kIf_true, kIf_false, v_sRet, kRet_some, v_sExpr, kEx_some, v_mK, v_mV, kV_int, kV_str, kV_list, kV_tup, kV_bool, kV_bytes, kV_dict, kV_cell, kV_inst, kV_script, kV_range, kV_none, kV_mtch, v_mBin, v_mCmp, v_mIdx, k2_some, k2'_some, v_tCmp, kT_some, v_tVal, kTr_bool, kTr_none, kTr_mtch, v_tNot, kN_some, v_tAnd, v_tOr, kA_true, kA_false, kO_true, kO_false, v_tK, v_mNeg, kNg_some, v_lNil, v_lCons, kL_some, kL'_some, v_mCall, v_mTup, v_mList, kC_some, v_mMeth, kM_str, kM_bytes, kM_pat, kM_mtch, kM'_some, v_mSub, kD_some, v_mSlc, kSl_some, kSl1_some, kSl2_some, kSl3_some, v_sAugS, kAu_some, bi_add, bi_sub, c_ltI, c_leI, c_gtI, c_geI, c_eqI, c_neI, c_eqS, c_neS, c_isB, c_isnB, List.length_cons, List.length_nil, List.getElem?_cons_zero, List.getElem?_cons_succ, List.set_cons_zero, List.set_cons_succ, Nat.reduceAdd, Nat.reduceLT, Nat.reduceLeDiff, if_true, Bool.not_true, Bool.not_false, eta0, List.replicate, Nat.reduceSub, List.cons_append, List.nil_append, List.length_set, hq, decide_eq_false hh, e0, n1]
      rw [if_neg h12]

noncomputable def flagsL (b : List UInt8) : List (List UInt8) := match flagsG b with
  | some g => bwords g
  | none => []
theorem flagsG_len {b g : List UInt8} (h : flagsG b = some g) : g.length ≤ b.length := by
  unfold flagsG at h
  split at h
  · cases h
    rw [List.length_take, List.length_drop]; (first | lia | omega)
  · cases h
theorem p_ParseFlags (b : List UInt8) (hb : b.length ≤ 100000) : op_ParseFlags [.bytes b] σ = some (.tup ((flagsL b).map .bytes), σ) := by
  unfold op_ParseFlags oFun m_ParseFlags flagsL
  have o1 : oMatch [.pat, .bytes b] σ = some (mres (flagsG b), σ) := if_pos (okS_of (by (first | lia | omega)))
  cases hg : flagsG b with
  | none =>
    rw [hg] at o1
    replace o1 : oMatch [.pat, .bytes b] σ = some (.none, σ) := o1
    have vt : vtup [] σ = some (.tup [], σ) := rfl
    simp only [v_bCons, oR_ret, oR_next, oX_ret, oX_exc, kS_next, kS_ret, kS_exc, v_bNil, v_sAsg, kAsg_some, kNx_some, v_aV, v_sIf, v_mIte, kIf_true, kIf_false, v_sRet, kRet_some, v_sExpr, kEx_some, v_mK, v_mV, kV_int, kV_str, kV_list, kV_tup, kV_bool, kV_bytes, kV_dict, kV_cell, kV_inst, kV_script, kV_range, kV_none, kV_mtch, v_mBin, v_mCmp, v_mIdx, k2_some, k2'_some, v_tCmp, kT_some, v_tVal, kTr_bool, kTr_none, kTr_mtch, v_tNot, kN_some, v_tAnd, v_tOr, kA_true, kA_false, kO_true, kO_false, v_tK, v_mNeg, kNg_some, v_lNil, v_lCons, kL_some, kL'_some, v_mCall, v_mTup, v_mList, kC_some, v_mMeth, kM_str, kM_bytes, kM_pat, kM_mtch, kM'_some, v_mSub, kD_some, v_mSlc, kSl_some, kSl1_some, kSl2_some, kSl3_some, v_sAugS, kAu_some, bi_add, bi_sub, c_ltI, c_leI, c_gtI, c_geI, c_eqI, c_neI, c_eqS, c_neS, c_isB, c_isnB, List.length_cons, List.length_nil, List.getElem?_cons_zero, List.getElem?_cons_succ, List.set_cons_zero, List.set_cons_succ, Nat.reduceAdd, Nat.reduceLT, Nat.reduceLeDiff, if_true, Bool.not_true, Bool.not_false, eta0, List.replicate, Nat.reduceSub, List.cons_append, List.nil_append, List.length_set, o1, vt]
    rfl
  | some g =>
    rw [hg] at o1
    replace o1 : oMatch [.pat, .bytes b] σ = some (.mtch g, σ) := o1
    have hl := flagsG_len hg
    have o2 : oGroup [.mtch g, .str [102, 108, 97, 103, 115]] σ = some (.bytes g, σ) := rfl
    have o3 : oBSplit [.bytes g] σ = some (.list ((bwords g).map .bytes), σ) := by
      show (if okS (g.length + 1) then _ else none) = _
      rw [okS_of (by (first | lia | omega))]; rfl
    have hw := (words_len (g.length + 1) (g.length + 1) g).1
    have o4 : oTuple [.list ((bwords g).map .bytes)] σ = some (.tup ((bwords g).map .bytes), σ) := by
      show vtup _ _ = _
      exact vtup_ok (by rw [List.length_map]; unfold bwords; (first | lia | omega))
    simp only [v_bCons, oR_ret, oR_next, oX_ret, oX_exc, kS_next, kS_ret, kS_exc, v_bNil, v_sAsg, kAsg_some, kNx_some, v_aV, v_sIf, v_mIte, kIf_true, kIf_false, v_sRet, kRet_some, v_sExpr, kEx_some, v_mK, v_mV, kV_int, kV_str, kV_list, kV_tup, kV_bool, kV_bytes, kV_dict, kV_cell, kV_inst, kV_script, kV_range, kV_none, kV_mtch, v_mBin, v_mCmp, v_mIdx, k2_some, k2'_some, v_tCmp, kT_some, v_tVal, kTr_bool, kTr_none, kTr_mtch, v_tNot, kN_some, v_tAnd, v_tOr, kA_true, kA_false, kO_true, kO_false, v_tK, v_mNeg, kNg_some, v_lNil, v_lCons, kL_some, kL'_some, v_mCall, v_mTup, v_mList, kC_some, v_mMeth, kM_str, kM_bytes, kM_pat, kM_mtch, kM'_some, v_mSub, kD_some, v_mSlc, kSl_some, kSl1_some, kSl2_some, kSl3_some, v_sAugS, kAu_some, bi_add, bi_sub, c_ltI, c_leI, c_gtI, c_geI, c_eqI, c_neI, c_eqS, c_neS, c_isB, c_isnB, List.length_cons, List.length_nil, List.getElem?_cons_zero, List.getElem?_cons_succ, List.set_cons_zero, List.set_cons_succ, Nat.reduceAdd, Nat.reduceLT, Nat.reduceLeDiff, if_true, Bool.not_true, Bool.not_false, eta0, List.replicate, Nat.reduceSub, List.cons_append, List.nil_append, List.length_set, o1, o2, o3, o4]

noncomputable def kFz (x : Option (AV × St)) : Option (AV × St) := oB x fun a σ => some (frz a σ)
theorem v_mFrz {m : ME} {η : Eta} : mFrz m η σ = kFz (m η σ) := rfl
theorem kFz_dict {n : Nat} {l : List (List Nat × AV)} (h : σ[n]? = some (.dict l)) : kFz (some (.cell n, σ)) = some (.dict l, σ.set n .dead) := by
  show some (frzC n σ (o1 σ[n]? cellVal)) = _
  rw [h]; rfl
theorem kFz_list {n : Nat} {l : List AV} (h : σ[n]? = some (.list l)) : kFz (some (.cell n, σ)) = some (.list l, σ.set n .dead) := by
  show some (frzC n σ (o1 σ[n]? cellVal)) = _
  rw [h]; rfl
noncomputable def unq (v : List Nat) : List Nat := if v.head? = some 34 ∧ v.getLast? = some 34 then (v.drop 1).take (v.length - 2) else v
noncomputable def rowT (p : List Nat × List Nat) : List Nat := p.1 ++ 61 :: p.2
noncomputable def putU (D : List (List Nat × AV)) (p : List Nat × List Nat) : List (List Nat × AV) := setD D p.1 (.str (unq p.2))
theorem setD_len (D : List (List Nat × AV)) (k : List Nat) (v : AV) : (setD D k v).length ≤ D.length + 1 := by
  unfold setD; split <;> simp
theorem oi_last {x : List Nat} {ch : Nat} (h : x.getLast? = some ch) (hx : x.length ≤ 100000) : opItem (.str x) (.int (-1)) σ = some (.str [ch], σ) := by
  have hn : 1 ≤ x.length := by cases x with | nil => cases h | cons => simp
  rw [List.getLast?_eq_getElem?] at h
  show atS x (-1) σ = _
  unfold atS
  rw [idx_neg hn]
  show o1 x[x.length - 1]? _ = _
  rw [h]; rfl
theorem p_parse_keqv_list (ps : List (List Nat × List Nat)) (hk : ∀ p ∈ ps, 61 ∉ p.1 ∧ p.2 ≠ [] ∧ p.1.length + p.2.length ≤ 100000 ∧ (p.2 = [34] → False)) (hl : ps.length ≤ 100000) :
    op_parse_keqv_list [.list (ps.map fun p => .str (rowT p))] σ = some (.dict (ps.foldl putU []), σ ++ [.dead]) := by
  unfold op_parse_keqv_list oFun m_parse_keqv_list
  -- the loop's state: the table and the last three names
  have key : ∀ (qs : List (List Nat × List Nat)) (D : List (List Nat × AV)) (e2 e3 e4 : AV), (∀ p ∈ qs, 61 ∉ p.1 ∧ p.2 ≠ [] ∧ p.1.length + p.2.length ≤ 100000 ∧ (p.2 = [34] → False)) → D.length + qs.length ≤ 200000 →
      ∃ f2 f3 f4, forG ((qs.map fun p => AV.str (rowT p)).map (aV 2)) (bCons (sAsg (mMeth "str" (mV 2) (lCons (mK (.str [61])) (lCons (mK (.int 1)) lNil)) oSplit) (aTup 2 (aCons (aV 3) (aCons (aV 4) aNil)))) (bCons (sIf (tAnd (tCmp .Eq (mIdx (mV 4) (mK (.int 0))) (mK (.str [34]))) (tAnd (tCmp .Eq (mIdx (mV 4) (mNeg (mK (.int 1)))) (mK (.str [34]))) (tK true))) (bCons (sAsg (mSlc (mV 4) (mK (.int 1)) (mNeg (mK (.int 1))) (mK .none)) (aV 4)) bNil) bNil) (bCons (sAsg (mV 4) (aSub (mV 1) (mV 3))) bNil)))
        [.list (ps.map fun p => .str (rowT p)), .cell σ.length, e2, e3, e4] (σ ++ [.dict D]) = some (.next, [.list (ps.map fun p => .str (rowT p)), .cell σ.length, f2, f3, f4], σ ++ [.dict (qs.foldl putU D)]) := by
    intro qs
    induction qs with
    | nil => intro D e2 e3 e4 _ _; exact ⟨e2, e3, e4, rfl⟩
    | cons p qs ih =>
      intro D e2 e3 e4 hq hD
      obtain ⟨k, v⟩ := p
      obtain ⟨h1, h2, h3, h4⟩ := hq (k, v) List.mem_cons_self
      dsimp only at h1 h2 h3 h4
      simp only [List.length_cons] at hD
      have es : oSplit [.str (k ++ 61 :: v), .str [61], .int 1] (σ ++ [.dict D]) = some (.list [.str k, .str v], σ ++ [.dict D]) := by
        rw [o_split2 (by decide) (by simp; (first | lia | omega)) (by simp), cut1_at h1]; rfl
      have ef : ∀ w, aSub (mV 1) (mV 3) (.str w) [.list (ps.map fun p => .str (rowT p)), .cell σ.length, .str (k ++ 61 :: v), .str k, .str w] (σ ++ [.dict D]) = some ([.list (ps.map fun p => .str (rowT p)), .cell σ.length, .str (k ++ 61 :: v), .str k, .str w], σ ++ [.dict (setD D k (.str w))]) := by
        intro w
        show o1 (setCell (σ ++ [.dict D]) σ.length (.str k) (.str w)) _ = _
        rw [setCell_dict (D := D) (by simp) (by (first | lia | omega)), List.set_append_right _ _ (Nat.le_refl _), Nat.sub_self]; rfl
      obtain ⟨c, w, hc⟩ : ∃ c w, v = c :: w := by cases v with | nil => exact absurd rfl h2 | cons c w => exact ⟨c, w, rfl⟩
      obtain ⟨d, hd⟩ : ∃ d, v.getLast? = some d := by rw [hc]; exact ⟨_, List.getLast?_eq_some_getLast (by simp)⟩
      have i0 : opItem (.str v) (.int 0) (σ ++ [.dict D]) = some (.str [c], σ ++ [.dict D]) := oi_str (k := 0) (by rw [hc]; rfl) (by decide)
      have i1 : opItem (.str v) (.int (-1)) (σ ++ [.dict D]) = some (.str [d], σ ++ [.dict D]) := oi_last hd (by (first | lia | omega))
      have turn : ∃ f2 f3 f4, (bCons (sAsg (mMeth "str" (mV 2) (lCons (mK (.str [61])) (lCons (mK (.int 1)) lNil)) oSplit) (aTup 2 (aCons (aV 3) (aCons (aV 4) aNil)))) (bCons (sIf (tAnd (tCmp .Eq (mIdx (mV 4) (mK (.int 0))) (mK (.str [34]))) (tAnd (tCmp .Eq (mIdx (mV 4) (mNeg (mK (.int 1)))) (mK (.str [34]))) (tK true))) (bCons (sAsg (mSlc (mV 4) (mK (.int 1)) (mNeg (mK (.int 1))) (mK .none)) (aV 4)) bNil) bNil) (bCons (sAsg (mV 4) (aSub (mV 1) (mV 3))) bNil)))
          [.list (ps.map fun p => .str (rowT p)), .cell σ.length, .str (k ++ 61 :: v), e3, e4] (σ ++ [.dict D]) = some (.next, [.list (ps.map fun p => .str (rowT p)), .cell σ.length, f2, f3, f4], σ ++ [.dict (putU D (k, v))]) := by
        have at2 : aTup 2 (aCons (aV 3) (aCons (aV 4) aNil)) (.list [.str k, .str v]) [.list (ps.map fun p => .str (rowT p)), .cell σ.length, .str (k ++ 61 :: v), e3, e4] (σ ++ [.dict D]) = some ([.list (ps.map fun p => .str (rowT p)), .cell σ.length, .str (k ++ 61 :: v), .str k, .str v], σ ++ [.dict D]) := atupL2 (by simp) (by simp)
        by_cases q1 : c = 34
        · by_cases q2 : d = 34
          · have hlen : 2 ≤ v.length := by
              rw [hc]
              cases w with
              | nil => exact absurd (by rw [hc, q1]) h4
              | cons => simp
            have sl : opSlice (.str v) (.int 1) (.int (-1)) .none (σ ++ [.dict D]) = some (.str ((v.drop 1).take (v.length - 2)), σ ++ [.dict D]) := by
              rw [os_full (l := some 1) (h := some (-1)) rfl rfl (by (first | lia | omega)), slc_in _ hlen]
            have b1 : ([c] == ([34] : List Nat)) = true := by rw [q1]; rfl
            have b2 : ([d] == ([34] : List Nat)) = true := by rw [q2]; rfl
            refine ⟨.str (k ++ 61 :: v), .str k, .str ((v.drop 1).take (v.length - 2)), ?_⟩
            · simp only [v_bCons, oR_ret, oR_next, oX_ret, oX_exc, kS_next, kS_ret, kS_exc, v_bNil, v_sAsg, kAsg_some, kNx_some, v_aV, v_sIf, v_mIte, kIf_true, kIf_false, v_sRet, kRet_some, v_sExpr, kEx_some, v_mK, v_mV, kV_int, kV_str, kV_list, kV_tup, kV_bool, kV_bytes, kV_dict, kV_cell, kV_inst, kV_script, kV_range, kV_none, kV_mtch, v_mBin, v_mCmp, v_mIdx, k2_some, k2'_some, v_tCmp, kT_some, v_tVal, kTr_bool, kTr_none, kTr_mtch, v_tNot, kN_some, v_tAnd, v_tOr, kA_true, kA_false, kO_true, kO_false, v_tK, v_mNeg, kNg_some, v_lNil, v_lCons, kL_some, kL'_some, v_mCall, v_mTup, v_mList, kC_some, v_mMeth, kM_str, kM_bytes, kM_pat, kM_mtch, kM'_some, v_mSub, kD_some, v_mSlc, kSl_some, kSl1_some, kSl2_some, kSl3_some, v_sAugS, kAu_some, bi_add, bi_sub, c_ltI, c_leI, c_gtI, c_geI, c_eqI, c_neI, c_eqS, c_neS, c_isB, c_isnB, List.length_cons, List.length_nil, List.getElem?_cons_zero, List.getElem?_cons_succ, List.set_cons_zero, List.set_cons_succ, Nat.reduceAdd, Nat.reduceLT, Nat.reduceLeDiff, if_true, Bool.not_true, Bool.not_false, eta0, List.replicate, Nat.reduceSub, List.cons_append, List.nil_append, List.length_set, es, at2, i0, i1, b1, b2, sl, ef]
              have : putU D (k, v) = setD D k (.str ((v.drop 1).take (v.length - 2))) := by
                unfold putU unq; dsimp only; rw [if_pos ⟨by rw [hc, q1]; rfl, by rw [hd, q2]⟩]
              rw [this]
          · have b1 : ([c] == ([34] : List Nat)) = true := by rw [q1]; rfl
            have b2 : ([d] == ([34] : List Nat)) = false := by simpa using q2
            refine ⟨.str (k ++ 61 :: v), .str k, .str v, ?_⟩
            · simp only [v_bCons, oR_ret, oR_next, oX_ret, oX_exc, kS_next, kS_ret, kS_exc, v_bNil, v_sAsg, kAsg_some, kNx_some, v_aV, v_sIf, v_mIte, kIf_true, kIf_false, v_sRet, kRet_some, v_sExpr, kEx_some, v_mK, v_mV, kV_int, kV_str, kV_list, kV_tup, kV_bool, kV_bytes, kV_dict, kV_cell, kV_inst, kV_script, kV_range, kV_none, kV_mtch, v_mBin, v_mCmp, v_mIdx, k2_some, k2'_some, v_tCmp, kT_some, v_tVal, kTr_bool, kTr_none, kTr_mtch, v_tNot, kN_some, v_tAnd, v_tOr, kA_true, kA_false, kO_true, kO_false, v_tK, v_mNeg, kNg_some, v_lNil, v_lCons, kL_some, kL'_some, v_mCall, v_mTup, v_mList, kC_some, v_mMeth, kM_str, kM_bytes, kM_pat, kM_mtch, kM'_some, v_mSub, kD_some, v_mSlc, kSl_some, kSl1_some, kSl2_some, kSl3_some, v_sAugS, kAu_some, bi_add, bi_sub, c_ltI, c_leI, c_gtI, c_geI, c_eqI, c_neI, c_eqS, c_neS, c_isB, c_isnB, List.length_cons, List.length_nil, List.getElem?_cons_zero, List.getElem?_cons_succ, List.set_cons_zero, List.set_cons_succ, Nat.reduceAdd, Nat.reduceLT, Nat.reduceLeDiff, if_true, Bool.not_true, Bool.not_false, eta0, List.replicate, Nat.reduceSub, List.cons_append, List.nil_append, List.length_set, es, at2, i0, i1, b1, b2, ef]
              have : putU D (k, v) = setD D k (.str v) := by
                unfold putU unq; dsimp only; rw [if_neg (fun e => q2 (by have := e.2; rw [hd] at this; cases this; rfl))]
              rw [this]
        · have b1 : ([c] == ([34] : List Nat)) = false := by simpa using q1
          refine ⟨.str (k ++ 61 :: v), .str k, .str v, ?_⟩
          · simp only [v_bCons, oR_ret, oR_next, oX_ret, oX_exc, kS_next, kS_ret, kS_exc, v_bNil, v_sAsg, kAsg_some, kNx_some, v_aV, v_sIf, v_mIte, kIf_true, kIf_false, v_sRet, kRet_some, v_sExpr, kEx_some, v_mK, v_mV, kV_int, kV_str, kV_list, kV_tup, kV_bool, kV_bytes, kV_dict, kV_cell, kV_inst, kV_script, kV_range, kV_none, kV_mtch, v_mBin, v_mCmp, v_mIdx, k2_some, k2'_some, v_tCmp, kT_some, v_tVal, kTr_bool, kTr_none, kTr_mtch, v_tNot, kN_some, v_tAnd, v_tOr, kA_true, kA_false, kO_true, kO_false, v_tK, v_mNeg, kNg_some, v_lNil, v_lCons, kL_some, kL'_some, v_mCall, v_mTup, v_mList, kC_some, v_mMeth, kM_str, kM_bytes, kM_pat, kM_mtch, kM'_some, v_mSub, kD_some, v_mSlc, kSl_some, kSl1_some, kSl2_some, kSl3_some, v_sAugS, kAu_some, bi_add, bi_sub, c_ltI, c_leI, c_gtI, c_geI, c_eqI, c_neI, c_eqS, c_neS, c_isB, c_isnB, List.length_cons, List.length_nil, List.getElem?_cons_zero, List.getElem?_cons_succ, List.set_cons_zero, List.set_cons_succ, Nat.reduceAdd, Nat.reduceLT, Nat.reduceLeDiff, if_true, Bool.not_true, Bool.not_false, eta0, List.replicate, Nat.reduceSub, List.cons_append, List.nil_append, List.length_set, es, at2, i0, b1, ef]
            have : putU D (k, v) = setD D k (.str v) := by
              unfold putU unq; dsimp only; rw [if_neg (fun e => q1 (by have := e.1; rw [hc] at this; cases this; rfl))]
            rw [this]
      obtain ⟨f2, f3, f4, ht⟩ := turn
      obtain ⟨g2, g3, g4, hg⟩ := ih (putU D (k, v)) f2 f3 f4 (fun p hp => hq p (List.mem_cons_of_mem _ hp)) (by
        have := setD_len D k (.str (unq v))
        have e : putU D (k, v) = setD D k (.str (unq v)) := rfl
        rw [e]; (first | lia | omega))
      refine ⟨g2, g3, g4, ?_⟩
      rw [List.map_cons, List.map_cons]
      unfold forG
      have ea : aV 2 (.str (rowT (k, v))) [.list (ps.map fun p => .str (rowT p)), .cell σ.length, e2, e3, e4] (σ ++ [.dict D]) = some ([.list (ps.map fun p => .str (rowT p)), .cell σ.length, .str (k ++ 61 :: v), e3, e4], σ ++ [.dict D]) := rfl
      rw [ea, oB_some, ht, oF_next]
      exact hg
  obtain ⟨f2, f3, f4, hf⟩ := key ps [] .unbound .unbound .unbound hk (by simp; (first | lia | omega))
  have s1 : sAsg mNewD (aV 1) [.list (ps.map fun p => .str (rowT p)), .unbound, .unbound, .unbound, .unbound] σ = some (.next, [.list (ps.map fun p => .str (rowT p)), .cell σ.length, .unbound, .unbound, .unbound], σ ++ [.dict []]) := rfl
  have s2 : ∀ mb, sFor (iVal (mV 0) (aV 2)) mb [.list (ps.map fun p => .str (rowT p)), .cell σ.length, .unbound, .unbound, .unbound] (σ ++ [.dict []]) = forG ((ps.map fun p => AV.str (rowT p)).map (aV 2)) mb [.list (ps.map fun p => .str (rowT p)), .cell σ.length, .unbound, .unbound, .unbound] (σ ++ [.dict []]) := fun _ => rfl
  have s3 : (σ ++ [ACell.dict (ps.foldl putU [])])[σ.length]? = some (.dict (ps.foldl putU [])) := by simp
  simp only [List.length_cons, List.length_nil, Nat.reduceAdd, if_true, eta0, Nat.reduceSub, List.replicate, List.cons_append, List.nil_append]
  rw [v_bCons, s1, kS_next, v_bCons, s2, hf, kS_next, v_bCons, v_sRet, v_mFrz, v_mV]
  simp only [List.getElem?_cons_zero, List.getElem?_cons_succ, kV_cell]
  rw [kFz_dict s3, kRet_some, kS_ret, oR_ret]
  simp
end
end Mine
end
section
open PySem PySem.W PyProof.Rows
set_option maxRecDepth 100000
set_option linter.unusedVariables false
set_option linter.unusedSimpArgs false
set_option maxHeartbeats 1000000
namespace Mine
section
variable {σ : St}
theorem getD_get {α : Type} (l : List α) (k : Nat) (h : k < l.length) (x : α) : l[k]? = some (l.getD k x) := by
  rw [List.getD_eq_getElem?_getD, List.getElem?_eq_getElem h]; rfl
theorem bn_div (n : Nat) {j : Int} (k : Nat) (hj : j = k) (h0 : 0 < k) (h1 : k < 1000000000) : binOp .FloorDiv (.int n) (.int j) σ = some (.int ((n / k : Nat) : Int), σ) := by
  subst hj
  rw [bi_div (by (first | lia | omega)) (okI_small (by (first | lia | omega)))]
  rfl
theorem bn_mod (n : Nat) {j : Int} (k : Nat) (hj : j = k) (h0 : 0 < k) : binOp .Mod (.int n) (.int j) σ = some (.int ((n % k : Nat) : Int), σ) := by
  subst hj
  rw [bi_mod (by (first | lia | omega))]
  rfl
theorem item4 {a b c e : List Nat} (k : Nat) (h : k < 4) : opItem (.list [.str a, .str b, .str c, .str e]) (.int k) σ = some (.str ([a, b, c, e].getD k []), σ) := by
  refine oi_list k ?_ (by (first | lia | omega))
  have : k = 0 ∨ k = 1 ∨ k = 2 ∨ k = 3 := by (first | lia | omega)
  rcases this with rfl | rfl | rfl | rfl <;> rfl
theorem item2 {a b : List Nat} (k : Nat) (h : k < 2) : opItem (.list [.str a, .str b]) (.int k) σ = some (.str ([a, b].getD k []), σ) := by
  refine oi_list k ?_ (by (first | lia | omega))
  have : k = 0 ∨ k = 1 := by (first | lia | omega)
  rcases this with rfl | rfl <;> rfl
theorem vlist4 {a b c e : AV} : vlist [a, b, c, e] σ = some (.list [a, b, c, e], σ) := rfl
theorem vlist3 {a b c : AV} : vlist [a, b, c] σ = some (.list [a, b, c], σ) := rfl
theorem vlist5 {a b c d e : AV} : vlist [a, b, c, d, e] σ = some (.list [a, b, c, d, e], σ) := rfl
theorem vlist2 {a b : AV} : vlist [a, b] σ = some (.list [a, b], σ) := rfl
theorem vlist1 {a : AV} : vlist [a] σ = some (.list [a], σ) := rfl
theorem vlist0 : vlist [] σ = some (.list [], σ) := rfl
theorem vtup1 {a : AV} : vtup [a] σ = some (.tup [a], σ) := rfl
theorem vtup2 {a b : AV} : vtup [a, b] σ = some (.tup [a, b], σ) := rfl
theorem vtup4 {a b c d : AV} : vtup [a, b, c, d] σ = some (.tup [a, b, c, d], σ) := rfl
theorem o_str {i : Int} (h : i.natAbs < 18446744073709551616) : oStr [.int i] σ = some (.str (dec i), σ) := by
  show (if i.natAbs < 2 ^ 64 then some (AV.str (dec i), σ) else none) = _
  rw [if_pos (by simpa using h)]
theorem strsOf_map : ∀ ts : List (List Nat), strsOf (ts.map .str) = some ts
  | [] => rfl
  | t :: r => by
    show o1 (strsOf (r.map .str)) (fun l => some (t :: l)) = _
    rw [strsOf_map r]; rfl
theorem o_join {sep : List Nat} {ts : List (List Nat)} (h : (ts.map List.length).sum + ts.length * sep.length ≤ 16777216) : oJoin [.str sep, .list (ts.map .str)] σ = some (.str (joinT sep ts), σ) := by
  show o1 (strsOf (ts.map .str)) _ = _
  rw [strsOf_map]
  exact if_pos (okS_of h)
theorem dec_fin : ∀ l : Fin 10, dec ((l.val : Nat) : Int) = [48 + l.val] := by decide +kernel
theorem dec_small (l : Nat) (h : l < 10) : dec (l : Int) = [48 + l] := dec_fin ⟨l, h⟩
noncomputable def retV (x : Option (Out × Eta × St)) : Option (AV × St) := oRet x
theorem v_oFun {n N : Nat} {m : MS} {l : List AV} : oFun n N m l σ = if l.length = n then retV (m (eta0 N l) σ) else none := rfl
theorem retV_ret {a : AV} {η : Eta} : retV (some (.ret a, η, σ)) = some (a, σ) := rfl
theorem view_cell {q : Nat} {l : List AV} (h : σ[q]? = some (.list l)) : viewL σ (.cell q) = some l := by
  show o1 σ[q]? cellL = _
  rw [h]; rfl
theorem last_cell (c : ACell) : (σ ++ [c])[σ.length]? = some c := by rw [List.getElem?_append_right (Nat.le_refl _), Nat.sub_self]; rfl
theorem set_last {c c' : ACell} : (σ ++ [c]).set σ.length c' = σ ++ [c'] := by rw [List.set_append_right _ _ (Nat.le_refl _), Nat.sub_self]; rfl
theorem item_cell {q : Nat} {l : List AV} (h : σ[q]? = some (.list l)) (i : Int) : opItem (.cell q) (.int i) σ = opItem (.list l) (.int i) σ := by
  unfold opItem
  rw [view_cell h]; rfl
theorem o_lenC {q : Nat} {l : List AV} (h : σ[q]? = some (.list l)) (hl : l.length ≤ 16777216) : oLen [.cell q] σ = some (.int l.length, σ) := by
  have : lenV σ (.cell q) = some l.length := by unfold lenV; rw [view_cell h]
  show o1 (lenV σ (.cell q)) _ = _
  rw [this]; exact if_pos (okS_of hl)
theorem o_insC {q k : Nat} {l : List AV} {x : AV} (h : σ[q]? = some (.list l)) (hl : l.length ≤ 16777216) (hk : k ≤ l.length) : oInsert [.cell q, .int k, x] σ = some (.none, σ.set q (.list (l.take k ++ x :: l.drop k))) := by
  show o1 (o1 σ[q]? cellL) _ = _
  rw [h]
  exact if_pos (by rw [okS_of hl, decide_eq_true (Int.natCast_nonneg k), decide_eq_true (Int.ofNat_le.mpr hk)]; rfl)
theorem len_app {α : Type} {x y : List α} {m n : Nat} (hx : x.length ≤ m) (hy : y.length ≤ n) : (x ++ y).length ≤ m + n := by
  rw [List.length_append]; exact Nat.add_le_add hx hy
theorem bs_addN {x y : List Nat} {m n : Nat} (hx : x.length ≤ m) (hy : y.length ≤ n) (h : m + n ≤ 16777216) : binOp .Add (.str x) (.str y) σ = some (.str (x ++ y), σ) := bs_add (Nat.le_trans (len_app hx hy) h)
theorem eq_nat (a b : Nat) : ((a : Int) == (b : Int)) = decide (a = b) := by
  by_cases h : a = b
  · rw [h, decide_eq_true rfl]; exact beq_self_eq_true _
  · rw [decide_eq_false h]; exact beq_eq_false_iff_ne.mpr fun e => h (Int.ofNat.inj e)
theorem intsOf_map : ∀ l : List Int, intsOf (l.map .int) = some l := by
  intro l
  induction l with
  | nil => rfl
  | cons x r ih =>
    show o1 (intsOf (r.map .int)) (fun l => some (x :: l)) = _
    rw [ih]; rfl
theorem o_sum {l : List Int} : oSum [.list (l.map .int)] σ = some (.int l.sum, σ) := by
  show o1 (intsOf (l.map .int)) (fun is => vint is.sum σ) = _
  rw [intsOf_map]; rfl
theorem allEq_self {f : AV → AV → Option Bool} : ∀ {l : List AV}, (∀ x ∈ l, f x x = some true) → allEq f l l = some true := by
  intro l
  induction l with
  | nil => intro _; rfl
  | cons x r ih =>
    intro h
    show o1 (f x x) (fun a => o1 (allEq f r r) fun b => some (a && b)) = _
    rw [h x List.mem_cons_self, ih fun y hy => h y (List.mem_cons_of_mem _ hy)]; rfl
theorem eqV_list {n : Nat} {l : List AV} (h : ∀ x ∈ l, eqV n x x = some true) : eqV (n + 1) (.list l) (.list l) = some true := (if_pos rfl).trans (allEq_self h)
theorem eqV_tup {n : Nat} {l : List AV} (h : ∀ x ∈ l, eqV n x x = some true) : eqV (n + 1) (.tup l) (.tup l) = some true := by
  show o1 (allEq (eqV n) l l) (fun r => some (r && l.length == l.length)) = _
  rw [allEq_self h, beq_self_eq_true]; rfl
theorem eqV_str {n : Nat} {x : List Nat} : eqV (n + 1) (.str x) (.str x) = some true := congrArg some (beq_self_eq_true x)
theorem eqV_int {n : Nat} {x : Int} : eqV (n + 1) (.int x) (.int x) = some true := congrArg some (beq_self_eq_true x)
theorem eqV_bytes {n : Nat} {x : List UInt8} : eqV (n + 1) (.bytes x) (.bytes x) = some true := congrArg some (beq_self_eq_true x)
theorem c_ne_self {x : AV} (h : eqV 9 x x = some true) (hd : viewD σ x = none) : cmpOp .NotEq x x σ = some (.bool false, σ) := by
  show vbool ((eqTop σ x x).map (!·)) σ = _
  unfold eqTop
  rw [hd, h]; rfl
end
end Mine
end
section
open PySem PySem.W PyProof.Rows
set_option maxRecDepth 100000
set_option linter.unusedVariables false
set_option linter.unusedSimpArgs false
set_option maxHeartbeats 1000000
namespace Mine
section
variable {σ : St}
noncomputable def rulesT : List (List Nat) := [[47, 97, 98, 47, 97, 61, 47, 97, 98], [47, 97, 61, 47, 97, 47, 97], [47, 97, 98, 47, 97, 61, 34, 47, 97, 47, 97, 98, 34], [47, 97, 98, 47, 97, 98, 61, 47, 97, 98]]
theorem p_law_rules : op_law_rules [] σ = some (.list (rulesT.map .str), σ) := rfl
noncomputable def mkc (d : Nat) : Nat := [124, 61, 47, 33].getD (d % 4) 0
noncomputable def fieldsT (l d : Nat) : List Nat := [mkc d, 49, mkc d, mkc d, 48 + l, mkc d]
noncomputable def fewT (l d : Nat) : List Nat := [mkc d, 49, mkc d, 48 + l, mkc d]
noncomputable def fldT (l d : Nat) : List Nat := if d / 4 % 4 = 3 then [fewT l d, fieldsT l d ++ [mkc d], fieldsT l d ++ [120], fieldsT l d ++ [120]].getD (d % 4) [] else fieldsT l d
noncomputable def btw (d : Nat) : List Nat := [[32], [32, 32], [9], [13, 10]].getD (d / 16 % 4) []
noncomputable def otherT : List Nat := [70, 76, 65, 71, 83, 32, 40, 47, 97, 61, 47, 97, 98, 32, 47, 97, 98, 61, 47, 97]
noncomputable def endT (d : Nat) : List Nat := [[], 32 :: otherT, 10 :: otherT ++ [41], []].getD (d / 4 % 4) []
noncomputable def tailT (d : Nat) : List Nat := [32, 80, 69, 82, 77, 65, 78, 69, 78, 84] ++ otherT ++ [41, 32, 70, 76, 65, 71, 83, 32, 40] ++ joinT (btw d) rulesT ++ [41] ++ endT d ++ [32, 34, 104, 34]
noncomputable def ansT (l d : Nat) : List Nat := if d % 16 = 15 then [50, 50, 57, 32, 111, 107, 41, 32, 40] ++ fldT l d else [50, 50, 57, 32, 111, 107, 41, 32, 40] ++ (fldT l d ++ 41 :: tailT d)
theorem fld_len (l d : Nat) : (fldT l d).length ≤ 7 := by
  unfold fldT
  split
  · have : d % 4 = 0 ∨ d % 4 = 1 ∨ d % 4 = 2 ∨ d % 4 = 3 := by (first | lia | omega)
    rcases this with h | h | h | h <;> rw [h] <;> simp [fewT, fieldsT]
  · simp [fieldsT]
theorem btw_mem (d : Nat) : btw d = [32] ∨ btw d = [32, 32] ∨ btw d = [9] ∨ btw d = [13, 10] := by
  unfold btw
  have : d / 16 % 4 = 0 ∨ d / 16 % 4 = 1 ∨ d / 16 % 4 = 2 ∨ d / 16 % 4 = 3 := by (first | lia | omega)
  rcases this with h | h | h | h <;> rw [h] <;> simp
theorem end_mem (d : Nat) : endT d = [] ∨ endT d = 32 :: otherT ∨ endT d = 10 :: otherT ++ [41] := by
  unfold endT
  have : d / 4 % 4 = 0 ∨ d / 4 % 4 = 1 ∨ d / 4 % 4 = 2 ∨ d / 4 % 4 = 3 := by (first | lia | omega)
  rcases this with h | h | h | h <;> rw [h] <;> simp
theorem end_len (d : Nat) : (endT d).length ≤ 30 := by
  rcases end_mem d with h | h | h <;> rw [h] <;> decide
theorem joinR_len (d : Nat) : (joinT (btw d) rulesT).length ≤ 60 := by
  rcases btw_mem d with h | h | h | h <;> rw [h] <;> decide
noncomputable def ansTail : MS := bCons (sIf (tCmp .Eq (mBin .Mod (mV 1) (mK (.int 16))) (mK (.int 15))) (bCons (sRet (mBin .Add (mK (.str [50, 50, 57, 32, 111, 107, 41, 32, 40])) (mV 4))) bNil) bNil) (
  bCons (sAsg (mK (.str [70, 76, 65, 71, 83, 32, 40, 47, 97, 61, 47, 97, 98, 32, 47, 97, 98, 61, 47, 97])) (aV 6)) (
  bCons (sAsg (mMeth "str" (mIdx (mList (lCons (mK (.str [32])) (lCons (mK (.str [32, 32])) (lCons (mK (.str [9])) (lCons (mK (.str [13, 10])) lNil))))) (mBin .Mod (mBin .FloorDiv (mV 1) (mK (.int 16))) (mK (.int 4)))) (lCons (mCall lNil (op_law_rules)) lNil) oJoin) (aV 7)) (
  bCons (sAsg (mList (lCons (mK (.str [])) (lCons (mBin .Add (mK (.str [32])) (mV 6)) (lCons (mBin .Add (mBin .Add (mK (.str [10])) (mV 6)) (mK (.str [41]))) (lCons (mK (.str [])) lNil))))) (aV 8)) (
  bCons (sRet (mBin .Add (mBin .Add (mBin .Add (mBin .Add (mBin .Add (mBin .Add (mBin .Add (mBin .Add (mK (.str [50, 50, 57, 32, 111, 107, 41, 32, 40])) (mV 4)) (mK (.str [41, 32, 80, 69, 82, 77, 65, 78, 69, 78, 84]))) (mV 6)) (mK (.str [41, 32, 70, 76, 65, 71, 83, 32, 40]))) (mV 7)) (mK (.str [41]))) (mIdx (mV 8) (mV 2))) (mK (.str [32, 34, 104, 34])))) (
  bNil)))))
theorem ans_join (d : Nat) : oJoin [.str ([[32], [32, 32], [9], [13, 10]].getD (d / 16 % 4) []), .list (rulesT.map .str)] σ = some (.str (joinT (btw d) rulesT), σ) := o_join (by
  show _ + _ * (btw d).length ≤ _
  rcases btw_mem d with h | h | h | h <;> rw [h] <;> decide)
theorem m4 (d : Nat) : d % 4 < 4 := Nat.mod_lt _ (by decide)
theorem ans_val {η : Eta} (f : List Nat) (l d : Nat) (hf : f = fldT l d) (h15 : ¬ d % 16 = 15) :
    retV (some (.ret (.str (([50, 50, 57, 32, 111, 107, 41, 32, 40] : List Nat) ++ f ++ [41, 32, 80, 69, 82, 77, 65, 78, 69, 78, 84] ++ otherT ++ [41, 32, 70, 76, 65, 71, 83, 32, 40] ++ joinT (btw d) rulesT ++ [41] ++ endT d ++ [32, 34, 104, 34])), η, σ)) = some (.str (ansT l d), σ) := by
  unfold ansT
  rw [if_neg h15, ← hf]
  refine congrArg (fun x => some (AV.str x, σ)) ?_
  rw [List.append_assoc, List.append_assoc, List.append_assoc, List.append_assoc, List.append_assoc, List.append_assoc, List.append_assoc]
  unfold tailT
  rw [List.append_assoc, List.append_assoc, List.append_assoc, List.append_assoc, List.append_assoc]
  rfl
theorem ans_half (l d : Nat) (f : List Nat) (hf : f = fldT l d) {a0 a3 a5 a6 a7 a8 : AV} : retV (ansTail [a0, .int d, .int ((d / 4 % 4 : Nat) : Int), a3, .str f, a5, a6, a7, a8] σ) = some (.str (ansT l d), σ) := by
  have k4 := bn_mod (σ := σ) d (j := 16) 16 rfl (by decide)
  have fl : f.length ≤ 7 := hf ▸ fld_len l d
  have hA : ([50, 50, 57, 32, 111, 107, 41, 32, 40] : List Nat).length ≤ 9 := Nat.le_refl _
  have s1 := bs_addN (σ := σ) hA fl (by decide)
  have c15 := eq_nat (d % 16) 15
  unfold ansTail
  by_cases h15 : d % 16 = 15
  · rw [decide_eq_true h15] at c15
    have c15 : ((((d % 16 : Nat) : Int) == 15) : Bool) = true := c15
    simp only [v_bCons, oR_ret, oR_next, oX_ret, oX_exc, kS_next, kS_ret, kS_exc, v_bNil, v_sAsg, kAsg_some, kNx_some, v_aV, v_sIf, v_mIte, kIf_true, kIf_false, v_sRet, kRet_some, v_sExpr, kEx_some, v_mK, v_mV, kV_int, kV_str, kV_list, kV_tup, kV_bool, kV_bytes, kV_dict, kV_cell, kV_inst, kV_script, kV_range, kV_none, kV_mtch, v_mBin, v_mCmp, v_mIdx, k2_some, k2'_some, v_tCmp, kT_some, v_tVal, kTr_bool, kTr_none, kTr_mtch, v_tNot, kN_some, v_tAnd, v_tOr, kA_true, kA_false, kO_true, kO_false, v_tK, v_mNeg, kNg_some, v_lNil, v_lCons, kL_some, kL'_some, v_mCall, v_mTup, v_mList, kC_some, v_mMeth, kM_str, kM_bytes, kM_pat, kM_mtch, kM'_some, v_mSub, kD_some, v_mSlc, kSl_some, kSl1_some, kSl2_some, kSl3_some, v_sAugS, kAu_some, bi_add, bi_sub, c_ltI, c_leI, c_gtI, c_geI, c_eqI, c_neI, c_eqS, c_neS, c_isB, c_isnB, List.length_cons, List.length_nil, List.getElem?_cons_zero, List.getElem?_cons_succ, List.set_cons_zero, List.set_cons_succ, Nat.reduceAdd, Nat.reduceLT, Nat.reduceLeDiff, if_true, Bool.not_true, Bool.not_false, k4, c15, s1, retV_ret]
    unfold ansT; rw [if_pos h15, hf]
  · rw [decide_eq_false h15] at c15
    have c15 : ((((d % 16 : Nat) : Int) == 15) : Bool) = false := c15
    have k5 := bn_div (σ := σ) d (j := 16) 16 rfl (by decide) (by decide)
    have k6 := bn_mod (σ := σ) (d / 16) (j := 4) 4 rfl (by decide)
    have i3 : opItem (.list [.str [32], .str [32, 32], .str [9], .str [13, 10]]) (.int ((d / 16 % 4 : Nat) : Int)) σ = some (.str ([[32], [32, 32], [9], [13, 10]].getD (d / 16 % 4) []), σ) := item4 _ (m4 _)
    have oj := ans_join (σ := σ) d
    have hO : otherT.length ≤ 20 := by decide
    have b1 := len_app hA fl
    have s2 := bs_addN (σ := σ) (y := [41, 32, 80, 69, 82, 77, 65, 78, 69, 78, 84]) b1 (Nat.le_refl 11) (by decide)
    have b2 := len_app (y := [41, 32, 80, 69, 82, 77, 65, 78, 69, 78, 84]) b1 (Nat.le_refl 11)
    have s3 := bs_addN (σ := σ) b2 hO (by decide)
    have b3 := len_app b2 hO
    have s4 := bs_addN (σ := σ) (y := [41, 32, 70, 76, 65, 71, 83, 32, 40]) b3 (Nat.le_refl 9) (by decide)
    have b4 := len_app (y := [41, 32, 70, 76, 65, 71, 83, 32, 40]) b3 (Nat.le_refl 9)
    have s5 := bs_addN (σ := σ) b4 (joinR_len d) (by decide)
    have b5 := len_app b4 (joinR_len d)
    have s6 := bs_addN (σ := σ) (y := [41]) b5 (Nat.le_refl 1) (by decide)
    have b6 := len_app (y := [41]) b5 (Nat.le_refl 1)
    have s7 := bs_addN (σ := σ) b6 (end_len d) (by decide)
    have b7 := len_app b6 (end_len d)
    have s8 := bs_addN (σ := σ) (y := [32, 34, 104, 34]) b7 (Nat.le_refl 4) (by decide)
    have i4 : opItem (.list [.str [], .str ([32] ++ otherT), .str ([10] ++ otherT ++ [41]), .str []]) (.int ((d / 4 % 4 : Nat) : Int)) σ = some (.str (endT d), σ) := item4 _ (m4 _)
    have t1 : binOp .Add (.str [32]) (.str otherT) σ = some (.str ([32] ++ otherT), σ) := rfl
    have t2 : binOp .Add (.str [10]) (.str otherT) σ = some (.str ([10] ++ otherT), σ) := rfl
    have t3 : binOp .Add (.str ([10] ++ otherT)) (.str [41]) σ = some (.str ([10] ++ otherT ++ [41]), σ) := rfl
    have ho : ([70, 76, 65, 71, 83, 32, 40, 47, 97, 61, 47, 97, 98, 32, 47, 97, 98, 61, 47, 97] : List Nat) = otherT := rfl
    simp only [v_bCons, oR_ret, oR_next, oX_ret, oX_exc, kS_next, kS_ret, kS_exc, v_bNil, v_sAsg, kAsg_some, kNx_some, v_aV, v_sIf, v_mIte, kIf_true, kIf_false, v_sRet, kRet_some, v_sExpr, kEx_some, v_mK, v_mV, kV_int, kV_str, kV_list, kV_tup, kV_bool, kV_bytes, kV_dict, kV_cell, kV_inst, kV_script, kV_range, kV_none, kV_mtch, v_mBin, v_mCmp, v_mIdx, k2_some, k2'_some, v_tCmp, kT_some, v_tVal, kTr_bool, kTr_none, kTr_mtch, v_tNot, kN_some, v_tAnd, v_tOr, kA_true, kA_false, kO_true, kO_false, v_tK, v_mNeg, kNg_some, v_lNil, v_lCons, kL_some, kL'_some, v_mCall, v_mTup, v_mList, kC_some, v_mMeth, kM_str, kM_bytes, kM_pat, kM_mtch, kM'_some, v_mSub, kD_some, v_mSlc, kSl_some, kSl1_some, kSl2_some, kSl3_some, v_sAugS, kAu_some, bi_add, bi_sub, c_ltI, c_leI, c_gtI, c_geI, c_eqI, c_neI, c_eqS, c_neS, c_isB, c_isnB, List.length_cons, List.length_nil, List.getElem?_cons_zero, List.getElem?_cons_succ, List.set_cons_zero, List.set_cons_succ, Nat.reduceAdd, Nat.reduceLT, Nat.reduceLeDiff, if_true, Bool.not_true, Bool.not_false, k4, c15, ho, vlist4, k5, k6, i3, p_law_rules, oj, t1, t2, t3, s1, s2, s3, s4, s5, s6, i4, s7, s8]
    exact ans_val f l d hf h15
theorem p_law_answer (l d : Nat) (hl : l < 10) : op_law_answer [.int l, .int d] σ = some (.str (ansT l d), σ) := by
  show retV (m_law_answer (eta0 9 [.int l, .int d]) σ) = _
  show retV (bCons _ (bCons _ (bCons _ (bCons _ ansTail))) [.int l, .int d, .unbound, .unbound, .unbound, .unbound, .unbound, .unbound, .unbound] σ) = _
  have k1 := bn_div (σ := σ) d (j := 4) 4 rfl (by decide) (by decide)
  have k2 := bn_mod (σ := σ) (d / 4) (j := 4) 4 rfl (by decide)
  have k3 := bn_mod (σ := σ) d (j := 4) 4 rfl (by decide)
  have i1 : opItem (.str [124, 61, 47, 33]) (.int ((d % 4 : Nat) : Int)) σ = some (.str [mkc d], σ) := oi_str (d % 4) (getD_get _ _ (m4 d) 0) (Nat.lt_trans (m4 d) (by decide))
  have os := o_str (σ := σ) (i := (l : Int)) (Nat.lt_trans hl (by decide))
  rw [dec_small l hl] at os
  have f1 : binOp .Add (.str [mkc d]) (.str [49]) σ = some (.str [mkc d, 49], σ) := rfl
  have f2 : binOp .Add (.str [mkc d, 49]) (.str [mkc d]) σ = some (.str [mkc d, 49, mkc d], σ) := rfl
  have f3 : binOp .Add (.str [mkc d, 49, mkc d]) (.str [mkc d]) σ = some (.str [mkc d, 49, mkc d, mkc d], σ) := rfl
  have f4 : binOp .Add (.str [mkc d, 49, mkc d, mkc d]) (.str [48 + l]) σ = some (.str [mkc d, 49, mkc d, mkc d, 48 + l], σ) := rfl
  have f5 : binOp .Add (.str [mkc d, 49, mkc d, mkc d, 48 + l]) (.str [mkc d]) σ = some (.str (fieldsT l d), σ) := rfl
  have c3 := eq_nat (d / 4 % 4) 3
  by_cases h3 : d / 4 % 4 = 3
  · rw [decide_eq_true h3] at c3
    have c3 : ((((d / 4 % 4 : Nat) : Int) == 3) : Bool) = true := c3
    have g3 : binOp .Add (.str [mkc d, 49, mkc d]) (.str [48 + l]) σ = some (.str [mkc d, 49, mkc d, 48 + l], σ) := rfl
    have g4 : binOp .Add (.str [mkc d, 49, mkc d, 48 + l]) (.str [mkc d]) σ = some (.str (fewT l d), σ) := rfl
    have g5 : binOp .Add (.str (fieldsT l d)) (.str [mkc d]) σ = some (.str (fieldsT l d ++ [mkc d]), σ) := rfl
    have g6 : binOp .Add (.str (fieldsT l d)) (.str [120]) σ = some (.str (fieldsT l d ++ [120]), σ) := rfl
    have hfl : [fewT l d, fieldsT l d ++ [mkc d], fieldsT l d ++ [120], fieldsT l d ++ [120]].getD (d % 4) [] = fldT l d := by unfold fldT; rw [if_pos h3]
    have i2 := item4 (σ := σ) (a := fewT l d) (b := fieldsT l d ++ [mkc d]) (c := fieldsT l d ++ [120]) (e := fieldsT l d ++ [120]) _ (m4 d)
    rw [hfl] at i2
    simp only [v_bCons, oR_ret, oR_next, oX_ret, oX_exc, kS_next, kS_ret, kS_exc, v_bNil, v_sAsg, kAsg_some, kNx_some, v_aV, v_sIf, v_mIte, kIf_true, kIf_false, v_sRet, kRet_some, v_sExpr, kEx_some, v_mK, v_mV, kV_int, kV_str, kV_list, kV_tup, kV_bool, kV_bytes, kV_dict, kV_cell, kV_inst, kV_script, kV_range, kV_none, kV_mtch, v_mBin, v_mCmp, v_mIdx, k2_some, k2'_some, v_tCmp, kT_some, v_tVal, kTr_bool, kTr_none, kTr_mtch, v_tNot, kN_some, v_tAnd, v_tOr, kA_true, kA_false, kO_true, kO_false, v_tK, v_mNeg, kNg_some, v_lNil, v_lCons, kL_some, kL'_some, v_mCall, v_mTup, v_mList, kC_some, v_mMeth, kM_str, kM_bytes, kM_pat, kM_mtch, kM'_some, v_mSub, kD_some, v_mSlc, kSl_some, kSl1_some, kSl2_some, kSl3_some, v_sAugS, kAu_some, bi_add, bi_sub, c_ltI, c_leI, c_gtI, c_geI, c_eqI, c_neI, c_eqS, c_neS, c_isB, c_isnB, List.length_cons, List.length_nil, List.getElem?_cons_zero, List.getElem?_cons_succ, List.set_cons_zero, List.set_cons_succ, Nat.reduceAdd, Nat.reduceLT, Nat.reduceLeDiff, if_true, Bool.not_true, Bool.not_false, k1, k2, k3, i1, f1, f2, f3, os, f4, f5, c3, g3, g4, g5, g6, vlist4, i2]
    exact ans_half l d _ rfl
  · rw [decide_eq_false h3] at c3
    have c3 : ((((d / 4 % 4 : Nat) : Int) == 3) : Bool) = false := c3
    have hfl : fieldsT l d = fldT l d := by unfold fldT; rw [if_neg h3]
    simp only [v_bCons, oR_ret, oR_next, oX_ret, oX_exc, kS_next, kS_ret, kS_exc, v_bNil, v_sAsg, kAsg_some, kNx_some, v_aV, v_sIf, v_mIte, kIf_true, kIf_false, v_sRet, kRet_some, v_sExpr, kEx_some, v_mK, v_mV, kV_int, kV_str, kV_list, kV_tup, kV_bool, kV_bytes, kV_dict, kV_cell, kV_inst, kV_script, kV_range, kV_none, kV_mtch, v_mBin, v_mCmp, v_mIdx, k2_some, k2'_some, v_tCmp, kT_some, v_tVal, kTr_bool, kTr_none, kTr_mtch, v_tNot, kN_some, v_tAnd, v_tOr, kA_true, kA_false, kO_true, kO_false, v_tK, v_mNeg, kNg_some, v_lNil, v_lCons, kL_some, kL'_some, v_mCall, v_mTup, v_mList, kC_some, v_mMeth, kM_str, kM_bytes, kM_pat, kM_mtch, kM'_some, v_mSub, kD_some, v_mSlc, kSl_some, kSl1_some, kSl2_some, kSl3_some, v_sAugS, kAu_some, bi_add, bi_sub, c_ltI, c_leI, c_gtI, c_geI, c_eqI, c_neI, c_eqS, c_neS, c_isB, c_isnB, List.length_cons, List.length_nil, List.getElem?_cons_zero, List.getElem?_cons_succ, List.set_cons_zero, List.set_cons_succ, Nat.reduceAdd, Nat.reduceLT, Nat.reduceLeDiff, if_true, Bool.not_true, Bool.not_false, k1, k2, k3, i1, f1, f2, f3, os, f4, f5, c3]
    exact ans_half l d _ hfl
end
end Mine
end
section
open PySem PySem.W PyProof.Rows
set_option maxRecDepth 100000
set_option linter.unusedVariables false
set_option linter.unusedSimpArgs false
set_option maxHeartbeats 1000000
namespace Mine
section
variable {σ : St}
noncomputable def quo (k : Nat) (a : List Nat) : List Nat := List.replicate (k % 2) 34 ++ a ++ List.replicate (k % 2) 34
theorem p_law_row (k : Nat) (hk : k < 10) (a : List Nat) (ha : a.length ≤ 90000) : op_law_row [.int k, .str a] σ = some (.str (rowT ([48 + k], quo k a)), σ) := by
  unfold op_law_row m_law_row
  rw [v_oFun]
  have os := o_str (σ := σ) (i := (k : Int)) (by (first | lia | omega))
  rw [dec_small k hk] at os
  have k1 := bn_mod (σ := σ) k (j := 2) 2 rfl (by decide)
  have mu : binOp .Mult (.str [34]) (.int ((k % 2 : Nat) : Int)) σ = some (.str (List.replicate (k % 2) 34), σ) := by
    have : k % 2 = 0 ∨ k % 2 = 1 := by (first | lia | omega)
    rcases this with h | h <;> rw [h] <;> rfl
  have hr : (List.replicate (k % 2) 34).length ≤ 1 := by simp; (first | lia | omega)
  have s1 : binOp .Add (.str [48 + k]) (.str [61]) σ = some (.str ([48 + k] ++ [61]), σ) := bs_add (by simp)
  have s2 : binOp .Add (.str ([48 + k] ++ [61])) (.str (List.replicate (k % 2) 34)) σ = some (.str ([48 + k] ++ [61] ++ List.replicate (k % 2) 34), σ) := bs_add (by simp only [List.length_append, List.length_cons, List.length_nil]; (first | lia | omega))
  have s3 : binOp .Add (.str ([48 + k] ++ [61] ++ List.replicate (k % 2) 34)) (.str a) σ = some (.str ([48 + k] ++ [61] ++ List.replicate (k % 2) 34 ++ a), σ) := bs_add (by simp only [List.length_append, List.length_cons, List.length_nil]; (first | lia | omega))
  have s4 : binOp .Add (.str ([48 + k] ++ [61] ++ List.replicate (k % 2) 34 ++ a)) (.str (List.replicate (k % 2) 34)) σ = some (.str ([48 + k] ++ [61] ++ List.replicate (k % 2) 34 ++ a ++ List.replicate (k % 2) 34), σ) := bs_add (by simp only [List.length_append, List.length_cons, List.length_nil]; (first | lia | omega))
  simp only [v_bCons, v_sRet, v_mBin, v_mCall, v_lCons, v_lNil, kL_some, kL'_some, kC_some, v_mV, v_mK, k2_some, k2'_some, List.length_cons, List.length_nil, Nat.reduceAdd, if_true, eta0, Nat.reduceSub, List.replicate_zero, List.append_nil, List.getElem?_cons_zero, List.getElem?_cons_succ, kV_int, kV_str, os, s1, k1, mu, s2, s3, s4, kRet_some, kS_ret, retV_ret]
  unfold rowT quo
  simp
theorem unq_quo (k : Nat) (a : List Nat) (h : a.head? = some 50) : unq (quo k a) = a := by
  unfold unq quo
  have : k % 2 = 0 ∨ k % 2 = 1 := by (first | lia | omega)
  rcases this with e | e <;> rw [e]
  · simp only [List.replicate_zero, List.nil_append, List.append_nil]
    rw [if_neg (fun q => by rw [h] at q; exact absurd q.1 (by decide))]
  · have hl : ([34] ++ a ++ [34] : List Nat).getLast? = some 34 := by rw [List.getLast?_append]; rfl
    rw [if_pos ⟨rfl, hl⟩]
    simp
theorem quo_ok (k : Nat) (a : List Nat) (h : a.head? = some 50) (hl : a.length ≤ 90000) : quo k a ≠ [] ∧ 1 + (quo k a).length ≤ 100000 ∧ (quo k a = [34] → False) := by
  have h1 : 1 ≤ a.length := by cases a with | nil => cases h | cons => simp
  have hq : (quo k a).length = 2 * (k % 2) + a.length := by unfold quo; simp; (first | lia | omega)
  refine ⟨fun e => by rw [e] at hq; simp at hq; (first | lia | omega), by (first | lia | omega), fun e => ?_⟩
  have : unq (quo k a) = a := unq_quo k a h
  rw [e] at this
  have e2 : unq [34] = [] := rfl
  rw [e2] at this
  rw [← this] at h1; simp at h1

noncomputable def kTy (x : Option (List AV × St)) (op : OutL) (η : Eta) : Option (Out × Eta × St) := oB x fun l σ => oTry (op l σ) η
noncomputable def kTy' (y : Option (Out × St)) (η : Eta) : Option (Out × Eta × St) := oTry y η
theorem v_sTry {r : ML} {op : OutL} {η : Eta} : sTry r op η σ = kTy (r η σ) op η := rfl
theorem kTy_some {l : List AV} {op : OutL} {η : Eta} : kTy (some (l, σ)) op η = kTy' (op l σ) η := rfl
theorem kTy'_ret {a : AV} {η : Eta} : kTy' (some (.ret a, σ)) η = some (.ret a, η, σ) := rfl
theorem kTy'_exc {x : List Nat} {η : Eta} : kTy' (some (.exc x, σ)) η = some (.ret (.tup [.str x]), η, σ) := rfl

theorem cutK1 : ∀ l, l < 10 → ∀ m, m ∈ [124, 61, 47, 33] → cutAll m [m, 49, m, m, 48 + l, m] = [[], [49], [], [48 + l], []] := by decide +kernel
theorem cutK2 : ∀ l, l < 10 → cutAll 124 [124, 49, 124, 48 + l, 124] = [[], [49], [48 + l], []] := by decide +kernel
theorem cutK3 : ∀ l, l < 10 → cutAll 61 [61, 49, 61, 61, 48 + l, 61, 61] = [[], [49], [], [48 + l], [], []] := by decide +kernel
theorem intK : ∀ l : Nat, l < 10 → PySem.intText? (toStr [48 + l]) = some (l : Int) := by decide +kernel
theorem mkc_cases (d : Nat) : (d % 4 = 0 ∧ mkc d = 124) ∨ (d % 4 = 1 ∧ mkc d = 61) ∨ (d % 4 = 2 ∧ mkc d = 47) ∨ (d % 4 = 3 ∧ mkc d = 33) := by
  unfold mkc
  have : d % 4 = 0 ∨ d % 4 = 1 ∨ d % 4 = 2 ∨ d % 4 = 3 := by (first | lia | omega)
  rcases this with h | h | h | h <;> rw [h] <;> simp
theorem tail_len (d : Nat) : (tailT d).length ≤ 200 := by
  unfold tailT
  have h1 := end_len d; have h2 := joinR_len d
  simp only [List.length_append, List.length_cons, List.length_nil]
  have : otherT.length = 20 := rfl
  (first | lia | omega)
theorem ans_len (l d : Nat) : (ansT l d).length ≤ 300 := by
  unfold ansT
  have h1 := fld_len l d; have h2 := tail_len d
  split <;> simp only [List.length_append, List.length_cons, List.length_nil] <;> (first | lia | omega)
theorem ans_head (l d : Nat) : (ansT l d).head? = some 50 := by unfold ansT; split <;> rfl
theorem r229_cons {A f host R : List Nat} {c : Nat} : r229 A (c :: f) host R = if (c :: f).getLast? = some c then (match cutAll c (c :: f) with
      | [_, _, _, p, _] => match PySem.intText? (toStr p) with
        | some n => .ret (.tup [.str host, .int n])
        | none => .next
      | _ => .exc R) else .exc R := rfl
theorem r229_fld (l d : Nat) (hl : l < 10) (host R A : List Nat) : (d / 4 % 4 = 3 → d % 16 ≠ 15 → r229 A (fldT l d) host R = .exc R) ∧ (d / 4 % 4 ≠ 3 → r229 A (fldT l d) host R = .ret (.tup [.str host, .int l])) := by
  refine ⟨fun h3 h15 => ?_, fun h3 => ?_⟩
  · unfold fldT
    rw [if_pos h3]
    rcases mkc_cases d with ⟨h, m⟩ | ⟨h, m⟩ | ⟨h, m⟩ | ⟨h, m⟩
    · unfold fewT; rw [h, m]
      show r229 A [124, 49, 124, 48 + l, 124] host R = _
      rw [r229_cons, if_pos (by simp), cutK2 l hl]
    · unfold fieldsT; rw [h, m]
      show r229 A [61, 49, 61, 61, 48 + l, 61, 61] host R = _
      rw [r229_cons, if_pos (by simp), cutK3 l hl]
    · unfold fieldsT; rw [h, m]
      show r229 A [47, 49, 47, 47, 48 + l, 47, 120] host R = _
      rw [r229_cons, if_neg (by simp)]
    · (first | lia | omega)
  · unfold fldT
    rw [if_neg h3]
    unfold fieldsT
    have hm : mkc d ∈ [124, 61, 47, 33] := by rcases mkc_cases d with ⟨h, m⟩ | ⟨h, m⟩ | ⟨h, m⟩ | ⟨h, m⟩ <;> rw [m] <;> decide
    rw [r229_cons, if_pos (by simp), cutK1 l hl _ hm]
    dsimp only
    rw [intK l hl]
theorem fld_no41 (l d : Nat) (hl : l < 10) : 41 ∉ fldT l d := by
  unfold fldT
  rcases mkc_cases d with ⟨h, m⟩ | ⟨h, m⟩ | ⟨h, m⟩ | ⟨h, m⟩ <;> (split <;> (simp [fewT, fieldsT, m, h] <;> (first | lia | omega)))
theorem fld_head (l d : Nat) : (fldT l d).head? = some (mkc d) := by
  unfold fldT
  split
  · have : d % 4 = 0 ∨ d % 4 = 1 ∨ d % 4 = 2 ∨ d % 4 = 3 := by (first | lia | omega)
    rcases this with h | h | h | h <;> rw [h] <;> rfl
  · rfl
theorem p_ans_told (l d : Nat) (hl : l < 10) (host : List Nat) (ptl : List AV) : op_law_told [.str (ansT l d), .tup (.str host :: ptl)] σ = some (if d / 4 % 4 = 3 then .tup [.str (ansT l d)] else .tup [.str host, .int l], σ) := by
  unfold op_law_told m_law_told
  rw [v_oFun]
  have al := ans_len l d
  have key : opx_parse229 [.str (ansT l d), .tup (.str host :: ptl)] σ = some (if d / 4 % 4 = 3 then .exc (ansT l d) else .ret (.tup [.str host, .int l]), σ) := by
    by_cases h15 : d % 16 = 15
    · have h3 : d / 4 % 4 = 3 := by (first | lia | omega)
      rw [if_pos h3]
      have e : ansT l d = 50 :: 50 :: 57 :: [32, 111, 107, 41, 32] ++ 40 :: fldT l d := by unfold ansT; rw [if_pos h15]; rfl
      rw [e] at al ⊢
      exact p_229_open (by decide) (fld_no41 l d hl) (by (first | lia | omega))
    · have e : ansT l d = 50 :: 50 :: 57 :: [32, 111, 107, 41, 32] ++ 40 :: (fldT l d ++ 41 :: tailT d) := by unfold ansT; rw [if_neg h15]; rfl
      obtain ⟨r1, r2⟩ := r229_fld l d hl host (ansT l d) (50 :: 50 :: 57 :: [32, 111, 107, 41, 32])
      have hm : mkc d < 256 := by rcases mkc_cases d with ⟨h, m⟩ | ⟨h, m⟩ | ⟨h, m⟩ | ⟨h, m⟩ <;> rw [m] <;> decide
      have hp : ∀ p ∈ cutAll (mkc d) (fldT l d), p.length ≤ 640 := by
        have gen : ∀ (x : List Nat) (c : Nat), ∀ p ∈ cutAll c x, p.length ≤ x.length := by
          intro x c
          induction x with
          | nil => intro p hp; simp [cutAll] at hp; subst hp; simp
          | cons y r ih =>
            intro p hp
            unfold cutAll at hp
            split at hp
            · rcases List.mem_cons.mp hp with rfl | hp
              · simp
              · have := ih p hp; simp; (first | lia | omega)
            · split at hp
              · rename_i h t hq
                rcases List.mem_cons.mp hp with rfl | hp
                · have := ih h (by rw [hq]; exact List.mem_cons_self); simp; (first | lia | omega)
                · have := ih p (by rw [hq]; exact List.mem_cons_of_mem _ hp); simp; (first | lia | omega)
              · simp at hp; subst hp; simp
        intro p hp
        have := gen _ _ p hp
        have := fld_len l d
        (first | lia | omega)
      have := p_229 (σ := σ) (h := [32, 111, 107, 41, 32]) (f := fldT l d) (tl := tailT d) (host := host) (ptl := ptl) (c := mkc d) (by decide) (fld_no41 l d hl) (fld_head l d) hm (by rw [← e]; (first | lia | omega)) hp (by
        rw [← e]
        by_cases h3 : d / 4 % 4 = 3
        · rw [r1 h3 h15]; exact fun q => nomatch q
        · rw [r2 h3]; exact fun q => nomatch q)
      rw [← e] at this
      rw [this]
      by_cases h3 : d / 4 % 4 = 3
      · rw [r1 h3 h15, if_pos h3]
      · rw [r2 h3, if_neg h3]
  by_cases h3 : d / 4 % 4 = 3
  · rw [if_pos h3] at key ⊢
    simp only [v_bCons, oR_ret, oR_next, oX_ret, oX_exc, kS_next, kS_ret, kS_exc, v_bNil, v_sAsg, kAsg_some, kNx_some, v_aV, v_sIf, v_mIte, kIf_true, kIf_false, v_sRet, kRet_some, v_sExpr, kEx_some, v_mK, v_mV, kV_int, kV_str, kV_list, kV_tup, kV_bool, kV_bytes, kV_dict, kV_cell, kV_inst, kV_script, kV_range, kV_none, kV_mtch, v_mBin, v_mCmp, v_mIdx, k2_some, k2'_some, v_tCmp, kT_some, v_tVal, kTr_bool, kTr_none, kTr_mtch, v_tNot, kN_some, v_tAnd, v_tOr, kA_true, kA_false, kO_true, kO_false, v_tK, v_mNeg, kNg_some, v_lNil, v_lCons, kL_some, kL'_some, v_mCall, v_mTup, v_mList, kC_some, v_mMeth, kM_str, kM_bytes, kM_pat, kM_mtch, kM'_some, v_mSub, kD_some, v_mSlc, kSl_some, kSl1_some, kSl2_some, kSl3_some, v_sAugS, kAu_some, bi_add, bi_sub, c_ltI, c_leI, c_gtI, c_geI, c_eqI, c_neI, c_eqS, c_neS, c_isB, c_isnB, List.length_cons, List.length_nil, List.getElem?_cons_zero, List.getElem?_cons_succ, List.set_cons_zero, List.set_cons_succ, Nat.reduceAdd, Nat.reduceLT, Nat.reduceLeDiff, if_true, Bool.not_true, Bool.not_false, eta0, List.replicate, Nat.reduceSub, List.cons_append, List.nil_append, List.length_set, v_sTry, kTy_some, key, kTy'_exc, retV_ret]
  · rw [if_neg h3] at key ⊢
    simp only [v_bCons, oR_ret, oR_next, oX_ret, oX_exc, kS_next, kS_ret, kS_exc, v_bNil, v_sAsg, kAsg_some, kNx_some, v_aV, v_sIf, v_mIte, kIf_true, kIf_false, v_sRet, kRet_some, v_sExpr, kEx_some, v_mK, v_mV, kV_int, kV_str, kV_list, kV_tup, kV_bool, kV_bytes, kV_dict, kV_cell, kV_inst, kV_script, kV_range, kV_none, kV_mtch, v_mBin, v_mCmp, v_mIdx, k2_some, k2'_some, v_tCmp, kT_some, v_tVal, kTr_bool, kTr_none, kTr_mtch, v_tNot, kN_some, v_tAnd, v_tOr, kA_true, kA_false, kO_true, kO_false, v_tK, v_mNeg, kNg_some, v_lNil, v_lCons, kL_some, kL'_some, v_mCall, v_mTup, v_mList, kC_some, v_mMeth, kM_str, kM_bytes, kM_pat, kM_mtch, kM'_some, v_mSub, kD_some, v_mSlc, kSl_some, kSl1_some, kSl2_some, kSl3_some, v_sAugS, kAu_some, bi_add, bi_sub, c_ltI, c_leI, c_gtI, c_geI, c_eqI, c_neI, c_eqS, c_neS, c_isB, c_isnB, List.length_cons, List.length_nil, List.getElem?_cons_zero, List.getElem?_cons_succ, List.set_cons_zero, List.set_cons_succ, Nat.reduceAdd, Nat.reduceLT, Nat.reduceLeDiff, if_true, Bool.not_true, Bool.not_false, eta0, List.replicate, Nat.reduceSub, List.cons_append, List.nil_append, List.length_set, v_sTry, kTy_some, key, kTy'_ret, retV_ret]

noncomputable def restT (s e : List Nat) : List Nat := [32, 70, 76, 65, 71, 83, 32, 40] ++ joinT s rulesT ++ [41] ++ e ++ [32, 34, 104, 34]
theorem seekK : ∀ s, s ∈ [[32], [32, 32], [9], [13, 10]] → ∀ e, e ∈ [[], 32 :: otherT, 10 :: otherT ++ [41]] → fseek (restT s e) = some (joinT s rulesT) := by decide +kernel
theorem wordsK : ∀ s, s ∈ [[32], [32, 32], [9], [13, 10]] → bwords (toB (joinT s rulesT)) = rulesT.map toB := by decide +kernel
theorem ascK : ∀ s, s ∈ [[32], [32, 32], [9], [13, 10]] → ∀ e, e ∈ [[], 32 :: otherT, 10 :: otherT ++ [41]] → asc (restT s e) = true := by decide +kernel
theorem btw_mem' (d : Nat) : btw d ∈ [[32], [32, 32], [9], [13, 10]] := by rcases btw_mem d with h | h | h | h <;> rw [h] <;> decide
theorem end_mem' (d : Nat) : endT d ∈ [[], 32 :: otherT, 10 :: otherT ++ [41]] := by rcases end_mem d with h | h | h <;> rw [h] <;> simp
theorem asc_app (a b : List Nat) : asc (a ++ b) = (asc a && asc b) := by unfold asc; rw [List.all_append]
noncomputable def preT (l d : Nat) : List Nat := [50, 50, 57, 32, 111, 107, 41, 32, 40] ++ fldT l d ++ [41, 32, 80, 69, 82, 77, 65, 78, 69, 78, 84] ++ otherT ++ [41]
theorem ans_split (l d : Nat) (h15 : d % 16 ≠ 15) : ansT l d = preT l d ++ restT (btw d) (endT d) := by
  unfold ansT preT restT tailT; rw [if_neg h15]; simp
theorem fld_asc (l d : Nat) (hl : l < 10) : asc (fldT l d) = true ∧ 10 ∉ fldT l d := by
  unfold fldT
  rcases mkc_cases d with ⟨h, m⟩ | ⟨h, m⟩ | ⟨h, m⟩ | ⟨h, m⟩ <;> (split <;> (simp [fewT, fieldsT, m, h, asc] <;> (first | lia | omega)))
theorem ans_asc (l d : Nat) (hl : l < 10) : asc (ansT l d) = true := by
  have hf := (fld_asc l d hl).1
  by_cases h15 : d % 16 = 15
  · unfold ansT; rw [if_pos h15, asc_app, hf]; rfl
  · rw [ans_split l d h15, asc_app, ascK _ (btw_mem' d) _ (end_mem' d)]
    unfold preT
    rw [asc_app, asc_app, asc_app, asc_app, hf]; rfl
theorem flags_ans (l d : Nat) (hl : l < 10) (h15 : d % 16 ≠ 15) : flagsL (toB (ansT l d)) = rulesT.map toB := by
  unfold flagsL
  rw [flagsG_eq (ans_asc l d hl)]
  have : fseek (ansT l d) = some (joinT (btw d) rulesT) := by
    rw [ans_split l d h15]
    refine fseek_pre ?_ (seekK _ (btw_mem' d) _ (end_mem' d))
    unfold preT
    have := (fld_asc l d hl).2
    simp only [List.mem_append, not_or]
    exact ⟨⟨⟨⟨by decide, this⟩, by decide⟩, by decide⟩, by decide⟩
  rw [this]
  show bwords (toB (joinT (btw d) rulesT)) = _
  exact wordsK _ (btw_mem' d)
end
end Mine
end
section
open PySem PySem.W PyProof.Rows
set_option maxRecDepth 100000
set_option linter.unusedVariables false
set_option linter.unusedSimpArgs false
set_option maxHeartbeats 1000000
namespace Mine
noncomputable def enc : List Bool → List Nat
  | [] => []
  | b :: r => (if b then [47, 97, 98] else [47, 97]) ++ enc r
theorem enc_app (a b : List Bool) : enc (a ++ b) = enc a ++ enc b := by
  induction a with
  | nil => rfl
  | cons x r ih => simp [enc, ih]
theorem enc_len (a : List Bool) : (enc a).length ≤ 3 * a.length := by
  induction a with
  | nil => simp [enc]
  | cons x r ih => cases x <;> simp [enc] <;> (first | lia | omega)
theorem enc_true (n : Nat) : (List.replicate n [47, 97, 98]).flatten = enc (List.replicate n true) := by
  induction n with
  | zero => rfl
  | succ n ih => rw [List.replicate_succ, List.replicate_succ, List.flatten_cons, ih]; rfl
theorem enc_pre : ∀ (ps qs : List Bool), ps.length < qs.length → (enc ps ++ [47]).isPrefixOf (enc qs) = ps.isPrefixOf qs
  | [], q :: qs, _ => by cases q <;> simp [enc, List.isPrefixOf]
  | p :: ps, q :: qs, h => by
    have ih := enc_pre ps qs (by simpa using h)
    have hne : ∀ x : List Bool, ∃ t, enc x ++ [47] = 47 :: t := fun x => by
      cases x with
      | nil => exact ⟨[], rfl⟩
      | cons b r => cases b <;> simp [enc]
    cases p <;> cases q
    · simpa [enc, List.isPrefixOf] using ih
    · obtain ⟨t, ht⟩ := hne ps
      simp only [enc]
      simp only [Bool.false_eq_true, if_false, if_true, List.cons_append, List.nil_append, List.isPrefixOf]
      rw [ht]; simp [List.isPrefixOf]
    · simp only [enc]
      simp only [Bool.false_eq_true, if_false, if_true, List.cons_append, List.nil_append, List.isPrefixOf]
      cases qs with
      | nil => simp [enc, List.isPrefixOf]
      | cons b r => cases b <;> simp [enc, List.isPrefixOf]
    · simpa [enc, List.isPrefixOf] using ih
theorem enc_last (ps : List Bool) (h : ps ≠ []) : (enc ps).drop ((enc ps).length - 1) = [97] ∨ (enc ps).drop ((enc ps).length - 1) = [98] := by
  induction ps with
  | nil => exact absurd rfl h
  | cons b r ih =>
    cases r with
    | nil => cases b <;> simp [enc]
    | cons c s =>
      have e : enc (b :: c :: s) = (if b then [47, 97, 98] else [47, 97]) ++ enc (c :: s) := rfl
      rw [e]
      have h1 : 1 ≤ (enc (c :: s)).length := by cases c <;> simp [enc]
      have := ih (by simp)
      generalize (if b then [47, 97, 98] else [47, 97]) = Y
      have hd : (Y ++ enc (c :: s)).drop ((Y ++ enc (c :: s)).length - 1) = (enc (c :: s)).drop ((enc (c :: s)).length - 1) := by
        rw [List.length_append, show Y.length + (enc (c :: s)).length - 1 = Y.length + ((enc (c :: s)).length - 1) by (first | lia | omega), List.drop_append, List.drop_of_length_le (by (first | lia | omega)), List.nil_append]
        congr 1; (first | lia | omega)
      rw [hd]
      exact this
theorem enc_pref (ps : List Bool) (h : ps ≠ []) : pref (enc ps) = enc ps ++ [47] ∧ pref (enc ps ++ [47]) = enc ps ++ [47] := by
  unfold pref
  constructor
  · rw [if_neg]
    rcases enc_last ps h with e | e <;> rw [e] <;> decide
  · rw [if_pos]
    simp
theorem enc_no47 (qs : List Bool) : ∀ ps, enc qs ≠ enc ps ++ [47] := by
  intro ps e
  have hl : qs ≠ [] := by rintro rfl; simp [enc] at e
  have h1 := enc_last qs hl
  rw [e] at h1
  simp at h1
theorem enc_inj : ∀ (a b : List Bool), enc a = enc b → a = b
  | [], [], _ => rfl
  | [], b :: r, e => by cases b <;> simp [enc] at e
  | a :: r, [], e => by cases a <;> simp [enc] at e
  | a :: r, b :: s, e => by
    cases a <;> cases b
    · simp [enc] at e; rw [enc_inj r s e]
    · exfalso
      simp [enc] at e
      cases r with
      | nil => simp [enc] at e
      | cons c t => cases c <;> simp [enc] at e
    · exfalso
      simp [enc] at e
      cases s with
      | nil => simp [enc] at e
      | cons c t => cases c <;> simp [enc] at e
    · simp [enc] at e; rw [enc_inj r s e]
theorem sub_cov (ps qs : List Bool) (hp : ps ≠ []) (h : ps.length < qs.length) (e : List Nat) (he : e = [] ∨ e = [47]) : subB [104] (enc ps ++ e) [104] (enc qs) = ps.isPrefixOf qs := by
  unfold subB
  have hne : ¬ (enc ps ++ e = enc qs) := by
    intro q
    rcases he with rfl | rfl
    · rw [List.append_nil] at q
      have := enc_inj _ _ q
      rw [this] at h; (first | lia | omega)
    · exact enc_no47 qs ps q.symm
  rw [if_neg (fun x => hne x.2), if_pos rfl]
  obtain ⟨h1, h2⟩ := enc_pref ps hp
  rcases he with rfl | rfl
  · rw [List.append_nil, h1, enc_pre ps qs h]
  · rw [h2, enc_pre ps qs h]
theorem sub_far (h : List Nat) (hh : h ≠ [104]) (p q : List Nat) : subB h p [104] q = false := by
  unfold subB
  rw [if_neg (fun x => hh x.1), if_neg hh]
theorem sub_self (p : List Nat) : subB [104] p [104] p = true := by unfold subB; rw [if_pos ⟨rfl, rfl⟩]

noncomputable def stp : Nat → List Bool → Option (List Bool)
  | 0, r => some r
  | n + 1, true :: r => stp n r
  | _ + 1, _ => none
theorem stp_some : ∀ (n : Nat) (b r : List Bool), stp n b = some r ↔ b = List.replicate n true ++ r
  | 0, b, r => by simp [stp]
  | n + 1, [], r => by simp [stp, List.replicate_succ]
  | n + 1, true :: b, r => by simp [stp, List.replicate_succ, stp_some n b r]
  | n + 1, false :: b, r => by simp [stp, List.replicate_succ]
theorem stp_pre : ∀ (n : Nat) (b k : List Bool), (List.replicate n true ++ k).isPrefixOf b = match stp n b with | some r => k.isPrefixOf r | none => (List.replicate n true ++ k).isPrefixOf b && false
  | 0, b, k => rfl
  | n + 1, [], k => by simp [stp, List.replicate_succ, List.isPrefixOf]
  | n + 1, true :: b, k => by
    have ih := stp_pre n b k
    simp only [List.replicate_succ, List.cons_append, List.isPrefixOf, beq_self_eq_true, Bool.true_and, stp]
    rw [ih]
    cases stp n b <;> simp
  | n + 1, false :: b, k => by simp [stp, List.replicate_succ, List.isPrefixOf]
noncomputable def gF : List Bool → List Bool
  | true :: false :: r => false :: true :: r
  | false :: r => false :: false :: r
  | true :: true :: r => true :: r
  | r => r
noncomputable def gB : List Bool → List Bool
  | false :: true :: r => true :: false :: r
  | false :: false :: r => false :: r
  | true :: r => true :: true :: r
  | r => r
noncomputable def led (n : Nat) (back : Bool) (b : List Bool) : List Bool := match stp n b with
  | none => b
  | some r => List.replicate n true ++ (if back then gB r else gF r)

noncomputable def rulesP : List (List Nat × List Nat) := [([47, 97, 98, 47, 97], [47, 97, 98]), ([47, 97], [47, 97, 47, 97]), ([47, 97, 98, 47, 97], [34, 47, 97, 47, 97, 98, 34]), ([47, 97, 98, 47, 97, 98], [47, 97, 98])]
noncomputable def backP : List (List Nat × List Nat) := [([47, 97, 47, 97, 98], [47, 97, 98, 47, 97]), ([47, 97, 47, 97], [47, 97]), ([47, 97, 98], [47, 97, 98, 47, 97, 98])]
noncomputable def T0D : List (List Nat × AV) := [([47, 97, 98, 47, 97], .str [47, 97, 47, 97, 98]), ([47, 97], .str [47, 97, 47, 97]), ([47, 97, 98, 47, 97, 98], .str [47, 97, 98])]
noncomputable def T1D : List (List Nat × AV) := [([47, 97, 47, 97, 98], .str [47, 97, 98, 47, 97]), ([47, 97, 47, 97], .str [47, 97]), ([47, 97, 98], .str [47, 97, 98, 47, 97, 98])]
theorem T0_eq : rulesP.foldl putU [] = T0D := by rfl
theorem T1_eq : backP.foldl putU [] = T1D := by rfl
section
variable {σ : St}
theorem p_rules_table : op_parse_keqv_list [.list (rulesT.map .str)] σ = some (.dict T0D, σ ++ [.dead]) := by
  have := p_parse_keqv_list (σ := σ) rulesP (by decide) (by decide)
  rw [T0_eq] at this
  exact this
theorem p_back_table : op_parse_keqv_list [.list [.str [47, 97, 47, 97, 98, 61, 47, 97, 98, 47, 97], .str [47, 97, 47, 97, 61, 47, 97], .str [47, 97, 98, 61, 47, 97, 98, 47, 97, 98]]] σ = some (.dict T1D, σ ++ [.dead]) := by
  have := p_parse_keqv_list (σ := σ) backP (by decide) (by decide)
  rw [T1_eq] at this
  exact this
theorem o_encode {x : List Nat} (h : asc x = true) (hl : x.length ≤ 16777216) : oEncode [.str x] σ = some (.bytes (toB x), σ) := by
  exact if_pos (by rw [h, okS_of hl]; rfl)
end
end Mine
end
section
open PySem PySem.W PyProof.Rows
set_option maxRecDepth 100000
set_option linter.unusedVariables false
set_option linter.unusedSimpArgs false
set_option maxHeartbeats 1000000
namespace Mine
section
variable {σ : St} (ad : Adr) (l d : Nat) (host P : List Nat) (back : Bool)
noncomputable def EL (l d : Nat) (host P : List Nat) (back : Bool) (fl tb en mg dp sd mt : AV) : Eta := [.str (ansT l d), .tup [.str host, .int l], .tup [.str [104], .str P], .bool back, .str host, .int l, fl, tb, en, mg, dp, sd, mt, .unbound, .unbound, .unbound, .unbound, .unbound, .unbound, .unbound, .unbound]
noncomputable def flB : AV := .tup ((rulesT.map toB).map .bytes)
theorem led_enc (h15 : d % 16 ≠ 15) (hl : l < 10) : sAsg (mCall (lCons (mMeth "str" (mV 0) lNil oEncode) lNil) op_ParseFlags) (aV 6) (EL l d host P back .unbound .unbound .unbound .unbound .unbound .unbound .unbound) σ = some (.next, EL l d host P back flB .unbound .unbound .unbound .unbound .unbound .unbound, σ) := by
  have al := ans_len l d
  have e1 := o_encode (σ := σ) (ans_asc l d hl) (by (first | lia | omega))
  have e2 := p_ParseFlags (σ := σ) (toB (ansT l d)) (by unfold toB; rw [List.length_map]; (first | lia | omega))
  rw [flags_ans l d hl h15] at e2
  unfold EL flB
  simp only [v_bCons, oR_ret, oR_next, oX_ret, oX_exc, kS_next, kS_ret, kS_exc, v_bNil, v_sAsg, kAsg_some, kNx_some, v_aV, v_sIf, v_mIte, kIf_true, kIf_false, v_sRet, kRet_some, v_sExpr, kEx_some, v_mK, v_mV, kV_int, kV_str, kV_list, kV_tup, kV_bool, kV_bytes, kV_dict, kV_cell, kV_inst, kV_script, kV_range, kV_none, kV_mtch, v_mBin, v_mCmp, v_mIdx, k2_some, k2'_some, v_tCmp, kT_some, v_tVal, kTr_bool, kTr_none, kTr_mtch, v_tNot, kN_some, v_tAnd, v_tOr, kA_true, kA_false, kO_true, kO_false, v_tK, v_mNeg, kNg_some, v_lNil, v_lCons, kL_some, kL'_some, v_mCall, v_mTup, v_mList, kC_some, v_mMeth, kM_str, kM_bytes, kM_pat, kM_mtch, kM'_some, v_mSub, kD_some, v_mSlc, kSl_some, kSl1_some, kSl2_some, kSl3_some, v_sAugS, kAu_some, bi_add, bi_sub, c_ltI, c_leI, c_gtI, c_geI, c_eqI, c_neI, c_eqS, c_neS, c_isB, c_isnB, List.length_cons, List.length_nil, List.getElem?_cons_zero, List.getElem?_cons_succ, List.set_cons_zero, List.set_cons_succ, Nat.reduceAdd, Nat.reduceLT, Nat.reduceLeDiff, if_true, Bool.not_true, Bool.not_false, eta0, List.replicate, Nat.reduceSub, List.cons_append, List.nil_append, List.length_set, e1, e2]
theorem led_cmp (b o : MS) : sIf (tCmp .NotEq (mV 6) (mCall (lCons (mComp [13] (iVal (mCall lNil (op_law_rules)) (aV 13)) (gIf (tK true) (gList (mMeth "str" (mV 13) lNil oEncode)))) lNil) oTuple)) b o (EL l d host P back flB .unbound .unbound .unbound .unbound .unbound .unbound) σ = o (EL l d host P back flB .unbound .unbound .unbound .unbound .unbound .unbound) σ := by
  have hc : mComp [13] (iVal (mCall lNil (op_law_rules)) (aV 13)) (gIf (tK true) (gList (mMeth "str" (mV 13) lNil oEncode))) (EL l d host P back flB .unbound .unbound .unbound .unbound .unbound .unbound) σ = some (.list (rulesT.map fun r => .bytes (toB r)), σ) := by
    refine comp_mapA (a := .list (rulesT.map .str)) rulesT .str (fun r => .bytes (toB r)) (by simp only [v_mCall, v_lNil, kC_some, p_law_rules]) rfl rfl (by show 13 < 21; decide) ?_ (by decide)
    intro r hr
    have ha : ∀ r ∈ rulesT, asc r = true ∧ r.length ≤ 16777216 := by decide
    obtain ⟨h1, h2⟩ := ha r hr
    have e1 := o_encode (σ := σ) h1 h2
    unfold EL
    simp only [v_bCons, oR_ret, oR_next, oX_ret, oX_exc, kS_next, kS_ret, kS_exc, v_bNil, v_sAsg, kAsg_some, kNx_some, v_aV, v_sIf, v_mIte, kIf_true, kIf_false, v_sRet, kRet_some, v_sExpr, kEx_some, v_mK, v_mV, kV_int, kV_str, kV_list, kV_tup, kV_bool, kV_bytes, kV_dict, kV_cell, kV_inst, kV_script, kV_range, kV_none, kV_mtch, v_mBin, v_mCmp, v_mIdx, k2_some, k2'_some, v_tCmp, kT_some, v_tVal, kTr_bool, kTr_none, kTr_mtch, v_tNot, kN_some, v_tAnd, v_tOr, kA_true, kA_false, kO_true, kO_false, v_tK, v_mNeg, kNg_some, v_lNil, v_lCons, kL_some, kL'_some, v_mCall, v_mTup, v_mList, kC_some, v_mMeth, kM_str, kM_bytes, kM_pat, kM_mtch, kM'_some, v_mSub, kD_some, v_mSlc, kSl_some, kSl1_some, kSl2_some, kSl3_some, v_sAugS, kAu_some, bi_add, bi_sub, c_ltI, c_leI, c_gtI, c_geI, c_eqI, c_neI, c_eqS, c_neS, c_isB, c_isnB, List.length_cons, List.length_nil, List.getElem?_cons_zero, List.getElem?_cons_succ, List.set_cons_zero, List.set_cons_succ, Nat.reduceAdd, Nat.reduceLT, Nat.reduceLeDiff, if_true, Bool.not_true, Bool.not_false, eta0, List.replicate, Nat.reduceSub, List.cons_append, List.nil_append, List.length_set, e1]
  have e2 : oTuple [.list (rulesT.map fun r => .bytes (toB r))] σ = some (flB, σ) := by
    unfold flB
    rw [List.map_map]
    exact o_tuple (by decide)
  have e3 : cmpOp .NotEq flB flB σ = some (.bool false, σ) := by
    exact c_ne_self (eqV_tup fun x hx => by obtain ⟨b, _, hb⟩ := List.mem_map.mp hx; rw [← hb]; exact eqV_bytes) rfl
  rw [v_sIf]
  have e4 : tCmp .NotEq (mV 6) (mCall (lCons (mComp [13] (iVal (mCall lNil (op_law_rules)) (aV 13)) (gIf (tK true) (gList (mMeth "str" (mV 13) lNil oEncode)))) lNil) oTuple) (EL l d host P back flB .unbound .unbound .unbound .unbound .unbound .unbound) σ = some (false, σ) := by
    rw [v_tCmp]
    have e5 : mV 6 (EL l d host P back flB .unbound .unbound .unbound .unbound .unbound .unbound) σ = some (flB, σ) := rfl
    rw [e5, k2_some, v_mCall, v_lCons, hc, kL_some, v_lNil, kL'_some, kC_some, e2, k2'_some, e3]
    rfl
  rw [e4, kIf_false]
theorem ofB_toB {t : List Nat} (h : asc t = true) : ofB (toB t) = t := toB_nat h
theorem led_tab : sAsg (mCall (lCons (mComp [14] (iVal (mV 6) (aV 14)) (gIf (tK true) (gList (mMeth "bytes" (mV 14) lNil oDecode)))) lNil) (op_parse_keqv_list)) (aV 7) (EL l d host P back flB .unbound .unbound .unbound .unbound .unbound .unbound) σ = some (.next, EL l d host P back flB (.dict T0D) .unbound .unbound .unbound .unbound .unbound, σ ++ [.dead]) := by
  have hc : mComp [14] (iVal (mV 6) (aV 14)) (gIf (tK true) (gList (mMeth "bytes" (mV 14) lNil oDecode))) (EL l d host P back flB .unbound .unbound .unbound .unbound .unbound .unbound) σ = some (.list (rulesT.map .str), σ) := by
    refine comp_mapA (a := flB) rulesT (fun r => .bytes (toB r)) .str rfl (by unfold flB; rw [List.map_map]; rfl) rfl (by show 14 < 21; decide) ?_ (by decide)
    intro r hr
    have ha : ∀ r ∈ rulesT, asc r = true ∧ oDecode [.bytes (toB r)] σ = some (.str r, σ) := by
      intro r hr
      rcases List.mem_cons.mp hr with rfl | hr
      · exact ⟨by decide, rfl⟩
      rcases List.mem_cons.mp hr with rfl | hr
      · exact ⟨by decide, rfl⟩
      rcases List.mem_cons.mp hr with rfl | hr
      · exact ⟨by decide, rfl⟩
      rcases List.mem_cons.mp hr with rfl | hr
      · exact ⟨by decide, rfl⟩
      · cases hr
    obtain ⟨h1, h2⟩ := ha r hr
    unfold EL
    simp only [v_bCons, oR_ret, oR_next, oX_ret, oX_exc, kS_next, kS_ret, kS_exc, v_bNil, v_sAsg, kAsg_some, kNx_some, v_aV, v_sIf, v_mIte, kIf_true, kIf_false, v_sRet, kRet_some, v_sExpr, kEx_some, v_mK, v_mV, kV_int, kV_str, kV_list, kV_tup, kV_bool, kV_bytes, kV_dict, kV_cell, kV_inst, kV_script, kV_range, kV_none, kV_mtch, v_mBin, v_mCmp, v_mIdx, k2_some, k2'_some, v_tCmp, kT_some, v_tVal, kTr_bool, kTr_none, kTr_mtch, v_tNot, kN_some, v_tAnd, v_tOr, kA_true, kA_false, kO_true, kO_false, v_tK, v_mNeg, kNg_some, v_lNil, v_lCons, kL_some, kL'_some, v_mCall, v_mTup, v_mList, kC_some, v_mMeth, kM_str, kM_bytes, kM_pat, kM_mtch, kM'_some, v_mSub, kD_some, v_mSlc, kSl_some, kSl1_some, kSl2_some, kSl3_some, v_sAugS, kAu_some, bi_add, bi_sub, c_ltI, c_leI, c_gtI, c_geI, c_eqI, c_neI, c_eqS, c_neS, c_isB, c_isnB, List.length_cons, List.length_nil, List.getElem?_cons_zero, List.getElem?_cons_succ, List.set_cons_zero, List.set_cons_succ, Nat.reduceAdd, Nat.reduceLT, Nat.reduceLeDiff, if_true, Bool.not_true, Bool.not_false, eta0, List.replicate, Nat.reduceSub, List.cons_append, List.nil_append, List.length_set, h2]
  rw [v_sAsg, v_mCall, v_lCons, hc, kL_some, v_lNil, kL'_some, kC_some, p_rules_table]
  rfl
theorem led_back : sIf (tVal (mV 3)) (bCons (sAsg (mCall (lCons (mComp [15] (iVal (mV 7) (aV 15)) (gIf (tK true) (gList (mBin .Add (mBin .Add (mIdx (mV 7) (mV 15)) (mK (.str [61]))) (mV 15))))) lNil) (op_parse_keqv_list)) (aV 7)) (bCons (sAsg (mK (.str [47])) (aV 8)) bNil)) bNil (EL l d host P back flB (.dict T0D) (.str []) .unbound .unbound .unbound .unbound) σ =
    some (.next, EL l d host P back flB (.dict (if back then T1D else T0D)) (.str (if back then [47] else [])) .unbound .unbound .unbound .unbound, if back then σ ++ [.dead] else σ) := by
  rw [v_sIf]
  have e0 : tVal (mV 3) (EL l d host P back flB (.dict T0D) (.str []) .unbound .unbound .unbound .unbound) σ = some (back, σ) := rfl
  rw [e0]
  cases back with
  | false => rfl
  | true =>
    rw [kIf_true]
    have hc : mComp [15] (iVal (mV 7) (aV 15)) (gIf (tK true) (gList (mBin .Add (mBin .Add (mIdx (mV 7) (mV 15)) (mK (.str [61]))) (mV 15)))) (EL l d host P true flB (.dict T0D) (.str []) .unbound .unbound .unbound .unbound) σ = some (.list [.str [47, 97, 47, 97, 98, 61, 47, 97, 98, 47, 97], .str [47, 97, 47, 97, 61, 47, 97], .str [47, 97, 98, 61, 47, 97, 98, 47, 97, 98]], σ) := by rfl
    rw [v_bCons, v_sAsg, v_mCall, v_lCons, hc, kL_some, v_lNil, kL'_some, kC_some, p_back_table]
    rfl
noncomputable def keysB (back : Bool) : List (List Bool) := if back then [[false, true], [false, false], [true]] else [[true, false], [false], [true, true]]
noncomputable def valsB (back : Bool) : List (List Bool) := if back then [[true, false], [false], [true, true]] else [[false, true], [false, false], [true]]
theorem led_deep (en mg sd mt : AV) : sAsg (mBin .Mult (mK (.str [47, 97, 98])) (mV 5)) (aV 10) (EL l d host P back flB (.dict (if back then T1D else T0D)) en mg .unbound sd mt) σ = if l < 1000 then some (.next, EL l d host P back flB (.dict (if back then T1D else T0D)) en mg (.str (enc (List.replicate l true))) sd mt, σ) else sAsg (mBin .Mult (mK (.str [47, 97, 98])) (mV 5)) (aV 10) (EL l d host P back flB (.dict (if back then T1D else T0D)) en mg .unbound sd mt) σ := by
  by_cases h : l < 1000
  · rw [if_pos h]
    have e1 : binOp .Mult (.str [47, 97, 98]) (.int l) σ = some (.str (enc (List.replicate l true)), σ) := by
      rw [bs_mul (by (first | lia | omega)) (by (first | lia | omega)) (by simp; (first | lia | omega)), Int.toNat_natCast, enc_true]
    unfold EL
    simp only [v_bCons, oR_ret, oR_next, oX_ret, oX_exc, kS_next, kS_ret, kS_exc, v_bNil, v_sAsg, kAsg_some, kNx_some, v_aV, v_sIf, v_mIte, kIf_true, kIf_false, v_sRet, kRet_some, v_sExpr, kEx_some, v_mK, v_mV, kV_int, kV_str, kV_list, kV_tup, kV_bool, kV_bytes, kV_dict, kV_cell, kV_inst, kV_script, kV_range, kV_none, kV_mtch, v_mBin, v_mCmp, v_mIdx, k2_some, k2'_some, v_tCmp, kT_some, v_tVal, kTr_bool, kTr_none, kTr_mtch, v_tNot, kN_some, v_tAnd, v_tOr, kA_true, kA_false, kO_true, kO_false, v_tK, v_mNeg, kNg_some, v_lNil, v_lCons, kL_some, kL'_some, v_mCall, v_mTup, v_mList, kC_some, v_mMeth, kM_str, kM_bytes, kM_pat, kM_mtch, kM'_some, v_mSub, kD_some, v_mSlc, kSl_some, kSl1_some, kSl2_some, kSl3_some, v_sAugS, kAu_some, bi_add, bi_sub, c_ltI, c_leI, c_gtI, c_geI, c_eqI, c_neI, c_eqS, c_neS, c_isB, c_isnB, List.length_cons, List.length_nil, List.getElem?_cons_zero, List.getElem?_cons_succ, List.set_cons_zero, List.set_cons_succ, Nat.reduceAdd, Nat.reduceLT, Nat.reduceLeDiff, if_true, Bool.not_true, Bool.not_false, eta0, List.replicate, Nat.reduceSub, List.cons_append, List.nil_append, List.length_set, e1]
  · rw [if_neg h]
noncomputable def saidL (back : Bool) (b : List Bool) : List AV := (List.zip (keysB back) b).map fun p => .tup [.str (enc p.1), .bool p.2]
theorem led_said (hP : P.length ≤ 1000) (hl : l < 10) (mt : AV) : ∃ bs : List Bool, bs = (keysB back).map (fun k => subB host (enc (List.replicate l true) ++ enc k ++ (if back then [47] else [])) [104] P) ∧
    sAsg (mComp [16] (iVal (mV 7) (aV 16)) (gIf (tK true) (gList (mTup (lCons (mV 16) (lCons (mSub ad.mgr (mV 9) (lCons (mTup (lCons (mV 4) (lCons (mBin .Add (mBin .Add (mV 10) (mV 16)) (mV 8)) lNil))) (lCons (mV 2) lNil)) op_is_suburi) lNil)))))) (aV 11) (EL l d host P back flB (.dict (if back then T1D else T0D)) (.str (if back then [47] else [])) (.inst ad.mgr) (.str (enc (List.replicate l true))) .unbound mt) σ =
      some (.next, EL l d host P back flB (.dict (if back then T1D else T0D)) (.str (if back then [47] else [])) (.inst ad.mgr) (.str (enc (List.replicate l true))) (.list (saidL back bs)) mt, σ) := by
  refine ⟨_, rfl, ?_⟩
  have hc : mComp [16] (iVal (mV 7) (aV 16)) (gIf (tK true) (gList (mTup (lCons (mV 16) (lCons (mSub ad.mgr (mV 9) (lCons (mTup (lCons (mV 4) (lCons (mBin .Add (mBin .Add (mV 10) (mV 16)) (mV 8)) lNil))) (lCons (mV 2) lNil)) op_is_suburi) lNil))))) (EL l d host P back flB (.dict (if back then T1D else T0D)) (.str (if back then [47] else [])) (.inst ad.mgr) (.str (enc (List.replicate l true))) .unbound mt) σ =
      some (.list ((keysB back).map fun k => .tup [.str (enc k), .bool (subB host (enc (List.replicate l true) ++ enc k ++ (if back then [47] else [])) [104] P)]), σ) := by
    refine comp_mapA (a := .dict (if back then T1D else T0D)) (keysB back) (fun k => .str (enc k)) _ rfl (by cases back <;> rfl) rfl (by show 16 < 21; decide) ?_ (by cases back <;> decide)
    intro k hk
    have hk' : (enc k).length ≤ 6 := by
      have : ∀ k ∈ keysB back, (enc k).length ≤ 6 := by cases back <;> decide
      exact this k hk
    have hr := enc_len (List.replicate l true)
    rw [List.length_replicate] at hr
    have s1 : binOp .Add (.str (enc (List.replicate l true))) (.str (enc k)) σ = some (.str (enc (List.replicate l true) ++ enc k), σ) := bs_add (by rw [List.length_append]; (first | lia | omega))
    have s2 : binOp .Add (.str (enc (List.replicate l true) ++ enc k)) (.str (if back then [47] else [])) σ = some (.str (enc (List.replicate l true) ++ enc k ++ (if back then [47] else [])), σ) := bs_add (by rw [List.length_append, List.length_append]; cases back <;> simp <;> (first | lia | omega))
    have s3 := p_is_suburi (σ := σ) (.inst ad.mgr) host (enc (List.replicate l true) ++ enc k ++ (if back then [47] else [])) [104] P (by rw [List.length_append, List.length_append]; cases back <;> simp <;> (first | lia | omega))
    unfold EL
    simp only [v_bCons, oR_ret, oR_next, oX_ret, oX_exc, kS_next, kS_ret, kS_exc, v_bNil, v_sAsg, kAsg_some, kNx_some, v_aV, v_sIf, v_mIte, kIf_true, kIf_false, v_sRet, kRet_some, v_sExpr, kEx_some, v_mK, v_mV, kV_int, kV_str, kV_list, kV_tup, kV_bool, kV_bytes, kV_dict, kV_cell, kV_inst, kV_script, kV_range, kV_none, kV_mtch, v_mBin, v_mCmp, v_mIdx, k2_some, k2'_some, v_tCmp, kT_some, v_tVal, kTr_bool, kTr_none, kTr_mtch, v_tNot, kN_some, v_tAnd, v_tOr, kA_true, kA_false, kO_true, kO_false, v_tK, v_mNeg, kNg_some, v_lNil, v_lCons, kL_some, kL'_some, v_mCall, v_mTup, v_mList, kC_some, v_mMeth, kM_str, kM_bytes, kM_pat, kM_mtch, kM'_some, v_mSub, kD_some, v_mSlc, kSl_some, kSl1_some, kSl2_some, kSl3_some, v_sAugS, kAu_some, bi_add, bi_sub, c_ltI, c_leI, c_gtI, c_geI, c_eqI, c_neI, c_eqS, c_neS, c_isB, c_isnB, List.length_cons, List.length_nil, List.getElem?_cons_zero, List.getElem?_cons_succ, List.set_cons_zero, List.set_cons_succ, Nat.reduceAdd, Nat.reduceLT, Nat.reduceLeDiff, if_true, Bool.not_true, Bool.not_false, eta0, List.replicate, Nat.reduceSub, List.cons_append, List.nil_append, List.length_set, s1, s2, vtup2, s3]
  rw [v_sAsg, hc, kAsg_some]
  have : (keysB back).map (fun k => AV.tup [.str (enc k), .bool (subB host (enc (List.replicate l true) ++ enc k ++ (if back then [47] else [])) [104] P)]) = saidL back ((keysB back).map fun k => subB host (enc (List.replicate l true) ++ enc k ++ (if back then [47] else [])) [104] P) := by
    unfold saidL; cases back <;> rfl
  rw [this]
  rfl
end
end Mine
end
section
open PySem PySem.W PyProof.Rows
set_option maxRecDepth 100000
set_option linter.unusedVariables false
set_option linter.unusedSimpArgs false
set_option maxHeartbeats 1000000
namespace Mine
section
variable {σ : St} (ad : Adr) (l d : Nat) (host P : List Nat) (back : Bool)
noncomputable def metL (back : Bool) (bs : List Bool) : List AV := ((List.zip (keysB back) bs).filter fun p => p.2).map fun p => .str (enc p.1)
theorem led_met (bs : List Bool) (hb : bs.length = 3) (tb en mg dp : AV) : sAsg (mComp [17, 18] (iVal (mV 11) (aTup 2 (aCons (aV 17) (aCons (aV 18) aNil)))) (gIf (tCmp .Is (mV 18) (mK (.bool true))) (gList (mV 17)))) (aV 12) (EL l d host P back flB tb en mg dp (.list (saidL back bs)) .unbound) σ =
    some (.next, EL l d host P back flB tb en mg dp (.list (saidL back bs)) (.list (metL back bs)), σ) := by
  match bs, hb with
  | [b0, b1, b2], _ => cases back <;> cases b0 <;> cases b1 <;> cases b2 <;> rfl
noncomputable def oneB (bs : List Bool) : Prop := bs = [false, false, false] ∨ bs = [true, false, false] ∨ bs = [false, true, false] ∨ bs = [false, false, true]
theorem led_chk (b : MS) (bs : List Bool) (hb : oneB bs) (tb en mg dp : AV) : sIf (tOr (tCmp .Gt (mCall (lCons (mV 12) lNil) oLen) (mK (.int 1))) (tOr (tCmp .NotEq (mComp [19, 20] (iVal (mV 11) (aTup 2 (aCons (aV 19) (aCons (aV 20) aNil)))) (gIf (tAnd (tCmp .IsNot (mV 20) (mK (.bool true))) (tAnd (tCmp .IsNot (mV 20) (mK (.bool false))) (tK true))) (gList (mV 19)))) (mList lNil)) (tK false))) b bNil
      (EL l d host P back flB tb en mg dp (.list (saidL back bs)) (.list (metL back bs))) σ = some (.next, EL l d host P back flB tb en mg dp (.list (saidL back bs)) (.list (metL back bs)), σ) := by
  rcases hb with rfl | rfl | rfl | rfl <;> cases back <;> rfl
theorem led_self (b : MS) (hP : P.length ≤ 1000) (tb en dp sd mt : AV) : sIf (tCmp .IsNot (mSub ad.mgr (mV 9) (lCons (mV 2) (lCons (mV 2) lNil)) op_is_suburi) (mK (.bool true))) b bNil (EL l d host P back flB tb en (.inst ad.mgr) dp sd mt) σ = some (.next, EL l d host P back flB tb en (.inst ad.mgr) dp sd mt, σ) := by
  have s3 := p_is_suburi (σ := σ) (.inst ad.mgr) [104] P [104] P (by (first | lia | omega))
  rw [sub_self] at s3
  rw [v_sIf]
  have : tCmp .IsNot (mSub ad.mgr (mV 9) (lCons (mV 2) (lCons (mV 2) lNil)) op_is_suburi) (mK (.bool true)) (EL l d host P back flB tb en (.inst ad.mgr) dp sd mt) σ = some (false, σ) := by
    rw [v_tCmp, v_mSub]
    have e9 : mV 9 (EL l d host P back flB tb en (.inst ad.mgr) dp sd mt) σ = some (.inst ad.mgr, σ) := rfl
    have e2 : mV 2 (EL l d host P back flB tb en (.inst ad.mgr) dp sd mt) σ = some (.tup [.str [104], .str P], σ) := rfl
    rw [e9, kD_some]
    simp only [v_lCons, v_lNil, e2, kL_some, kL'_some, kM'_some, s3, k2_some, v_mK, k2'_some]
    rfl
  rw [this, kIf_false, v_bNil]
theorem led_none (b : MS) (tb en mg dp sd : AV) : sIf (tCmp .Eq (mV 12) (mList lNil)) (bCons (sRet (mV 2)) bNil) bNil (EL l d host P back flB tb en mg dp sd (.list [])) σ = some (.ret (.tup [.str [104], .str P]), EL l d host P back flB tb en mg dp sd (.list []), σ) := by rfl
theorem led_some (k : AV) (tb en mg dp sd : AV) : sIf (tCmp .Eq (mV 12) (mList lNil)) (bCons (sRet (mV 2)) bNil) bNil (EL l d host P back flB tb en mg dp sd (.list [k])) σ = some (.next, EL l d host P back flB tb en mg dp sd (.list [k]), σ) := by rfl
theorem led_ret (D : List (List Nat × AV)) (K V r : List Bool) (hD : lookD (enc K) D = some (.str (enc V))) (hP : P = enc (List.replicate l true ++ (K ++ r))) (hl : l < 10) (hK : K.length ≤ 2) (hV : V.length ≤ 2) (hr : r.length ≤ 100) (en mg sd : AV) :
    sRet (mTup (lCons (mV 4) (lCons (mBin .Add (mBin .Add (mV 10) (mIdx (mV 7) (mIdx (mV 12) (mK (.int 0))))) (mSlc (mIdx (mV 2) (mK (.int 1))) (mCall (lCons (mBin .Add (mV 10) (mIdx (mV 12) (mK (.int 0)))) lNil) oLen) (mK .none) (mK .none))) lNil)))
      (EL l d host P back flB (.dict D) en mg (.str (enc (List.replicate l true))) sd (.list [.str (enc K)])) σ = some (.ret (.tup [.str host, .str (enc (List.replicate l true ++ (V ++ r)))]), EL l d host P back flB (.dict D) en mg (.str (enc (List.replicate l true))) sd (.list [.str (enc K)]), σ) := by
  have h1 := enc_len (List.replicate l true)
  rw [List.length_replicate] at h1
  have h2 := enc_len K
  have h3 := enc_len V
  have h4 := enc_len r
  have hPl : P = enc (List.replicate l true) ++ enc K ++ enc r := by rw [hP, enc_app, enc_app, List.append_assoc]
  have s1 : binOp .Add (.str (enc (List.replicate l true))) (.str (enc V)) σ = some (.str (enc (List.replicate l true) ++ enc V), σ) := bs_add (by rw [List.length_append]; (first | lia | omega))
  have s2 : binOp .Add (.str (enc (List.replicate l true))) (.str (enc K)) σ = some (.str (enc (List.replicate l true) ++ enc K), σ) := bs_add (by rw [List.length_append]; (first | lia | omega))
  have s3 := o_lenS (σ := σ) (x := enc (List.replicate l true) ++ enc K) (by rw [List.length_append]; (first | lia | omega))
  have s4 : opSlice (.str P) (.int ((enc (List.replicate l true) ++ enc K).length : Int)) .none .none σ = some (.str (enc r), σ) := by
    rw [os_full (l := some _) (h := none) rfl rfl (by rw [hPl]; simp only [List.length_append]; (first | lia | omega)), slc_from _ _ (by rw [hPl]; simp only [List.length_append]; (first | lia | omega)), hPl, List.drop_left]
  have s5 : binOp .Add (.str (enc (List.replicate l true) ++ enc V)) (.str (enc r)) σ = some (.str (enc (List.replicate l true) ++ enc V ++ enc r), σ) := bs_add (by simp only [List.length_append]; (first | lia | omega))
  have s6 : opItem (.list [.str (enc K)]) (.int 0) σ = some (.str (enc K), σ) := rfl
  have s7 : opItem (.tup [.str [104], .str P]) (.int 1) σ = some (.str P, σ) := rfl
  have s8 := oi_dict (σ := σ) hD
  have e : enc (List.replicate l true ++ (V ++ r)) = enc (List.replicate l true) ++ enc V ++ enc r := by rw [enc_app, enc_app, List.append_assoc]
  rw [e]
  unfold EL
  simp only [v_bCons, oR_ret, oR_next, oX_ret, oX_exc, kS_next, kS_ret, kS_exc, v_bNil, v_sAsg, kAsg_some, kNx_some, v_aV, v_sIf, v_mIte, kIf_true, kIf_false, v_sRet, kRet_some, v_sExpr, kEx_some, v_mK, v_mV, kV_int, kV_str, kV_list, kV_tup, kV_bool, kV_bytes, kV_dict, kV_cell, kV_inst, kV_script, kV_range, kV_none, kV_mtch, v_mBin, v_mCmp, v_mIdx, k2_some, k2'_some, v_tCmp, kT_some, v_tVal, kTr_bool, kTr_none, kTr_mtch, v_tNot, kN_some, v_tAnd, v_tOr, kA_true, kA_false, kO_true, kO_false, v_tK, v_mNeg, kNg_some, v_lNil, v_lCons, kL_some, kL'_some, v_mCall, v_mTup, v_mList, kC_some, v_mMeth, kM_str, kM_bytes, kM_pat, kM_mtch, kM'_some, v_mSub, kD_some, v_mSlc, kSl_some, kSl1_some, kSl2_some, kSl3_some, v_sAugS, kAu_some, bi_add, bi_sub, c_ltI, c_leI, c_gtI, c_geI, c_eqI, c_neI, c_eqS, c_neS, c_isB, c_isnB, List.length_cons, List.length_nil, List.getElem?_cons_zero, List.getElem?_cons_succ, List.set_cons_zero, List.set_cons_succ, Nat.reduceAdd, Nat.reduceLT, Nat.reduceLeDiff, if_true, Bool.not_true, Bool.not_false, eta0, List.replicate, Nat.reduceSub, List.cons_append, List.nil_append, List.length_set, s6, s8, s1, s7, s2, s3, s4, s5, vtup2]

theorem p_law_led (hl : l < 10) (h3 : d / 4 % 4 ≠ 3) (bits : List Bool) (hb1 : l + 3 ≤ bits.length) (hb2 : bits.length ≤ 100) :
    op_law_led ad [.str (ansT l d), .tup [.str host, .int l], .tup [.str [104], .str (enc bits)], .bool back] σ = some (.tup [.str [104], .str (enc (if host = [104] then led l back bits else bits))], if back then σ ++ [.dead] ++ [.dead] else σ ++ [.dead]) := by
  have h15 : d % 16 ≠ 15 := by (first | lia | omega)
  have hP : (enc bits).length ≤ 1000 := by have := enc_len bits; (first | lia | omega)
  unfold op_law_led m_law_led
  rw [v_oFun, if_pos (by rfl)]
  have e1 : ∀ r : MS, (bCons (sIf (tCmp .Eq (mCall (lCons (mV 1) lNil) oLen) (mK (.int 1))) (bCons (sRet (mV 2)) bNil) bNil) (bCons (sAsg (mV 1) (aTup 2 (aCons (aV 4) (aCons (aV 5) aNil)))) r)) (eta0 21 [.str (ansT l d), .tup [.str host, .int l], .tup [.str [104], .str (enc bits)], .bool back]) σ = r (EL l d host (enc bits) back .unbound .unbound .unbound .unbound .unbound .unbound .unbound) σ := fun r => rfl
  rw [e1, v_bCons, led_enc l d host (enc bits) back h15 hl, kS_next, v_bCons, led_cmp, v_bNil, kS_next, v_bCons, led_tab, kS_next]
  have e2 : ∀ (r : MS) (s : St), bCons (sAsg (mK (.str [])) (aV 8)) r (EL l d host (enc bits) back flB (.dict T0D) .unbound .unbound .unbound .unbound .unbound) s = r (EL l d host (enc bits) back flB (.dict T0D) (.str []) .unbound .unbound .unbound .unbound) s := fun r s => rfl
  rw [e2, v_bCons, led_back, kS_next]
  have e3 : ∀ (r : MS) (s : St), bCons (sAsg (mK (.inst ad.mgr)) (aV 9)) r (EL l d host (enc bits) back flB (.dict (if back then T1D else T0D)) (.str (if back then [47] else [])) .unbound .unbound .unbound .unbound) s = r (EL l d host (enc bits) back flB (.dict (if back then T1D else T0D)) (.str (if back then [47] else [])) (.inst ad.mgr) .unbound .unbound .unbound) s := fun r s => rfl
  rw [e3, v_bCons, led_deep, if_pos (by (first | lia | omega)), kS_next, v_bCons]
  generalize hs : (if back then σ ++ [ACell.dead] ++ [.dead] else σ ++ [.dead]) = s
  obtain ⟨bs, hbs, e4⟩ := led_said (σ := s) ad l d host (enc bits) back hP hl .unbound
  have hbl : bs.length = 3 := by rw [hbs, List.length_map]; cases back <;> rfl
  -- what the bases cover
  have cov : oneB bs ∧ ((metL back bs = [] ∧ (if host = [104] then led l back bits else bits) = bits) ∨ ∃ K V r, metL back bs = [.str (enc K)] ∧ lookD (enc K) (if back then T1D else T0D) = some (.str (enc V)) ∧ host = [104] ∧ bits = List.replicate l true ++ (K ++ r) ∧ led l back bits = List.replicate l true ++ (V ++ r) ∧ K.length ≤ 2 ∧ V.length ≤ 2) := by
    by_cases hh : host = [104]
    · rw [if_pos hh]
      have hbs' : bs = (keysB back).map fun k => (List.replicate l true ++ k).isPrefixOf bits := by
        rw [hbs]
        apply List.map_congr_left
        intro k hk
        have hk1 : k ≠ [] ∧ k.length ≤ 2 := by
          have : ∀ k ∈ keysB back, k ≠ [] ∧ k.length ≤ 2 := by cases back <;> decide
          exact this k hk
        rw [hh, ← enc_app]
        exact sub_cov _ _ (by simp [hk1.1]) (by simp; (first | lia | omega)) _ (by cases back <;> simp)
      have hpre : ∀ k, (List.replicate l true ++ k).isPrefixOf bits = match stp l bits with | some r => k.isPrefixOf r | none => (List.replicate l true ++ k).isPrefixOf bits && false := fun k => stp_pre l bits k
      cases hst : stp l bits with
      | none =>
        rw [hst] at hpre
        have hpre0 : ∀ k, (List.replicate l true ++ k).isPrefixOf bits = false := fun k => by have q := hpre k; dsimp only at q; rw [Bool.and_false] at q; exact q
        have : bs = [false, false, false] := by
          rw [hbs']
          cases back <;> simp [keysB, hpre0]
        refine ⟨.inl this, .inl ⟨by rw [this]; cases back <;> rfl, by unfold led; rw [hst]⟩⟩
      | some r =>
        rw [hst] at hpre
        have hbit := (stp_some l bits r).mp hst
        have hrl : 3 ≤ r.length := by rw [hbit] at hb1; simp at hb1; (first | lia | omega)
        match r, hrl with
        | a :: b :: c :: r', _ =>
          have hled : led l back bits = List.replicate l true ++ (if back then gB (a :: b :: c :: r') else gF (a :: b :: c :: r')) := by unfold led; rw [hst]
          rw [hled]
          cases back
          · cases a
            · have : bs = [false, true, false] := by rw [hbs']; simp [keysB, hpre, List.isPrefixOf]
              exact ⟨.inr (.inr (.inl this)), .inr ⟨[false], [false, false], b :: c :: r', by rw [this]; rfl, rfl, hh, hbit, rfl, by decide, by decide⟩⟩
            · cases b
              · have : bs = [true, false, false] := by rw [hbs']; simp [keysB, hpre, List.isPrefixOf]
                exact ⟨.inr (.inl this), .inr ⟨[true, false], [false, true], c :: r', by rw [this]; rfl, rfl, hh, hbit, rfl, by decide, by decide⟩⟩
              · have : bs = [false, false, true] := by rw [hbs']; simp [keysB, hpre, List.isPrefixOf]
                exact ⟨.inr (.inr (.inr this)), .inr ⟨[true, true], [true], c :: r', by rw [this]; rfl, rfl, hh, hbit, rfl, by decide, by decide⟩⟩
          · cases a
            · cases b
              · have : bs = [false, true, false] := by rw [hbs']; simp [keysB, hpre, List.isPrefixOf]
                exact ⟨.inr (.inr (.inl this)), .inr ⟨[false, false], [false], c :: r', by rw [this]; rfl, rfl, hh, hbit, rfl, by decide, by decide⟩⟩
              · have : bs = [true, false, false] := by rw [hbs']; simp [keysB, hpre, List.isPrefixOf]
                exact ⟨.inr (.inl this), .inr ⟨[false, true], [true, false], c :: r', by rw [this]; rfl, rfl, hh, hbit, rfl, by decide, by decide⟩⟩
            · have : bs = [false, false, true] := by rw [hbs']; simp [keysB, hpre, List.isPrefixOf]
              exact ⟨.inr (.inr (.inr this)), .inr ⟨[true], [true, true], b :: c :: r', by rw [this]; rfl, rfl, hh, hbit, rfl, by decide, by decide⟩⟩
    · rw [if_neg hh]
      have : bs = [false, false, false] := by
        rw [hbs]
        have : ∀ p, subB host p [104] (enc bits) = false := fun p => sub_far host hh p _
        cases back <;> simp [keysB, this]
      refine ⟨.inl this, .inl ⟨by rw [this]; cases back <;> rfl, rfl⟩⟩
  obtain ⟨one, cov⟩ := cov
  rw [e4, kS_next, v_bCons, led_met l d host (enc bits) back bs hbl, kS_next, v_bCons, led_chk l d host (enc bits) back _ bs one, kS_next, v_bCons, led_self ad l d host (enc bits) back _ hP, kS_next, v_bCons]
  rcases cov with ⟨hm, hr⟩ | ⟨K, V, r, hm, hD, hh, hbit, hr, hK, hV⟩
  · rw [hm, led_none l d host (enc bits) back bNil, kS_ret, retV_ret, hr]
  · rw [hm, led_some, kS_next, v_bCons, led_ret l d host (enc bits) back _ K V r hD (by rw [← hbit]) hl hK hV (by rw [hbit] at hb2; simp at hb2; (first | lia | omega)), kS_ret, retV_ret, if_pos hh, hr, hh]
theorem p_law_led_sp (s : List Nat) (pl : AV) (a : AV) : op_law_led ad [a, .tup [.str s], pl, .bool back] σ = match pl with | .unbound => none | v => some (v, σ) := by
  cases pl <;> rfl
end
end Mine
end
section
open PySem PySem.W PyProof.Rows
set_option maxRecDepth 100000
set_option linter.unusedVariables false
set_option linter.unusedSimpArgs false
set_option maxHeartbeats 1000000
namespace Mine
noncomputable def V : Nat → List Bool → Nat
  | _, [] => 0
  | e, b :: r => (if b then 2 ^ e else 0) + V (e - 1) r
theorem V_lt : ∀ (e : Nat) (b : List Bool), b.length ≤ e + 1 → V e b < 2 ^ (e + 1)
  | e, [], _ => Nat.two_pow_pos _
  | 0, [b], _ => by cases b <;> simp [V]
  | 0, _ :: _ :: _, h => by simp at h
  | e + 1, b :: r, h => by
    have ih := V_lt e r (by simpa using h)
    have e1 : V (e + 1) (b :: r) = (if b then 2 ^ (e + 1) else 0) + V e r := rfl
    have e2 : 2 ^ (e + 1 + 1) = 2 ^ (e + 1) + 2 ^ (e + 1) := by rw [Nat.pow_succ]; (first | lia | omega)
    rw [e1, e2]
    cases b <;> simp <;> (first | lia | omega)
theorem V_two : ∀ (e : Nat) (b : List Bool), b.length ≤ e + 1 → V (e + 1) b = 2 * V e b
  | e, [], _ => rfl
  | 0, [b], _ => by cases b <;> simp [V]
  | 0, _ :: _ :: _, h => by simp at h
  | e + 1, b :: r, h => by
    have ih := V_two e r (by simpa using h)
    have e1 : V (e + 1 + 1) (b :: r) = (if b then 2 ^ (e + 1 + 1) else 0) + V (e + 1) r := rfl
    have e2 : V (e + 1) (b :: r) = (if b then 2 ^ (e + 1) else 0) + V e r := rfl
    rw [e1, e2, ih, Nat.pow_succ 2 (e + 1)]
    cases b <;> simp <;> (first | lia | omega)
theorem V_bit : ∀ (e : Nat) (b : List Bool) (i : Nat) (x : Bool), b.length ≤ e + 1 → b[i]? = some x → V e b / 2 ^ (e - i) % 2 = if x then 1 else 0
  | e, [], i, x, _, h => by simp at h
  | 0, [b], i, x, _, h => by
    cases i with
    | zero => simp at h; subst h; cases b <;> simp [V]
    | succ i => simp at h
  | 0, _ :: _ :: _, _, _, h, _ => by simp at h
  | e + 1, b :: r, i, x, h, hx => by
    have e1 : V (e + 1) (b :: r) = (if b then 2 ^ (e + 1) else 0) + V e r := rfl
    have hlt := V_lt e r (by simpa using h)
    cases i with
    | zero =>
      simp at hx; subst hx
      rw [e1, Nat.sub_zero]
      cases b
      · simp [Nat.div_eq_of_lt hlt]
      · have : (2 ^ (e + 1) + V e r) / 2 ^ (e + 1) = 1 := by
          rw [Nat.add_div_left _ (Nat.two_pow_pos _), Nat.div_eq_of_lt hlt]
        simp [this]
    | succ i =>
      have ih := V_bit e r i x (by simpa using h) (by simpa using hx)
      have hi : i < r.length := by simp at hx; exact (List.getElem?_eq_some_iff.mp hx).1
      have hie : i ≤ e := by simp at h; (first | lia | omega)
      rw [show e + 1 - (i + 1) = e - i by (first | lia | omega), e1]
      cases b
      · simpa using ih
      · have e3 : 2 ^ (e + 1) = 2 ^ (e - i) * 2 ^ (i + 1) := by rw [← Nat.pow_add]; congr 1; (first | lia | omega)
        rw [if_pos rfl, e3, Nat.mul_add_div (Nat.two_pow_pos _), Nat.pow_succ, Nat.add_comm, Nat.mul_comm (2 ^ i) 2, Nat.add_mul_mod_self_left]
        exact ih
noncomputable def stepN (n : Nat) (p : Nat × Nat) : Nat × Nat :=
  if 4 * p.2 ≤ 2 ^ (19 - n) then (p.1 - 1, 2 * p.2) else if 2 * p.2 ≤ 2 ^ (19 - n) then (p.1, p.2 + 2 ^ (19 - n) / 4) else if p.2 ≤ 2 ^ (19 - n) then (p.1 + 1, (p.2 + 2 ^ (19 - n)) / 2) else p
noncomputable def numB (b : List Bool) : Nat × Nat := (b.length, 2 ^ 19 - V 18 b)
theorem ar1 {P a : Nat} (h : a < 2 * P) : 8 * P - (4 * P + 2 * a) = 2 * (8 * P - (4 * P + (2 * P + a))) ∧ 4 * (8 * P - (4 * P + (2 * P + a))) ≤ 8 * P := by (first | lia | omega)
theorem ar2 {P a : Nat} (h : a < 2 * P) : 8 * P - (0 + (2 * P + a)) = 8 * P - (4 * P + (0 + a)) + 8 * P / 4 ∧ ¬ 4 * (8 * P - (4 * P + (0 + a))) ≤ 8 * P ∧ 2 * (8 * P - (4 * P + (0 + a))) ≤ 8 * P := by (first | lia | omega)
theorem ar3 {P a : Nat} (h : 2 * a < 4 * P) : 8 * P - (0 + (0 + a)) = (8 * P - (0 + 2 * a) + 8 * P) / 2 ∧ ¬ 4 * (8 * P - (0 + 2 * a)) ≤ 8 * P ∧ ¬ 2 * (8 * P - (0 + 2 * a)) ≤ 8 * P ∧ 8 * P - (0 + 2 * a) ≤ 8 * P := by (first | lia | omega)
theorem ar4 {T S v : Nat} (h : S ≤ T) : T - (T - S + v) = S - v := by (first | lia | omega)
theorem ar5 {S x : Nat} (h : S < x) : ¬ 4 * x ≤ S ∧ ¬ 2 * x ≤ S ∧ ¬ x ≤ S := by (first | lia | omega)
theorem ar6 {a : Nat} (h : a < 2 ^ 18) : 2 ^ 18 < 2 ^ 19 - (0 + a) := by (first | lia | omega)
theorem ar7 {a : Nat} (h : a < 2 ^ 18) : 2 ^ 17 < 2 ^ 19 - (0 + a) := by (first | lia | omega)
theorem ar8 {a : Nat} (h : a < 2 ^ 17) : 2 ^ 17 < 2 ^ 19 - (2 ^ 18 + (0 + a)) := by (first | lia | omega)
theorem ar9 {n : Nat} (h : n ≤ 2) : n = 0 ∨ n = 1 ∨ n = 2 := by (first | lia | omega)
theorem numB_core (e : Nat) (r : List Bool) (hr1 : 3 ≤ r.length) (hr2 : r.length ≤ e + 1) :
      (∃ r', r = true :: true :: r' ∧ 2 ^ (e + 2) - V (e + 1) (true :: r') = 2 * (2 ^ (e + 2) - V (e + 1) r) ∧ 4 * (2 ^ (e + 2) - V (e + 1) r) ≤ 2 ^ (e + 2)) ∨
      (∃ r', r = true :: false :: r' ∧ 2 ^ (e + 2) - V (e + 1) (false :: true :: r') = (2 ^ (e + 2) - V (e + 1) r) + 2 ^ (e + 2) / 4 ∧ ¬ 4 * (2 ^ (e + 2) - V (e + 1) r) ≤ 2 ^ (e + 2) ∧ 2 * (2 ^ (e + 2) - V (e + 1) r) ≤ 2 ^ (e + 2)) ∨
      (∃ r', r = false :: r' ∧ 2 ^ (e + 2) - V (e + 1) (false :: false :: r') = ((2 ^ (e + 2) - V (e + 1) r) + 2 ^ (e + 2)) / 2 ∧ ¬ 4 * (2 ^ (e + 2) - V (e + 1) r) ≤ 2 ^ (e + 2) ∧ ¬ 2 * (2 ^ (e + 2) - V (e + 1) r) ≤ 2 ^ (e + 2) ∧ 2 ^ (e + 2) - V (e + 1) r ≤ 2 ^ (e + 2)) := by
  cases e with
  | zero => exact absurd (Nat.le_trans hr1 hr2) (by decide)
  | succ f =>
    have p3 : 2 ^ (f + 1 + 2) = 8 * 2 ^ f := by rw [Nat.pow_add, Nat.pow_succ, Nat.mul_assoc, Nat.mul_comm]
    have p2 : 2 ^ (f + 2) = 4 * 2 ^ f := by rw [Nat.pow_add, Nat.mul_comm]
    have p1 : 2 ^ (f + 1) = 2 * 2 ^ f := by rw [Nat.pow_succ, Nat.mul_comm]
    cases r with
    | nil => exact absurd hr1 (by decide)
    | cons x s =>
      have hs : s.length ≤ f + 1 := Nat.le_of_succ_le_succ hr2
      cases x with
      | false =>
        refine .inr (.inr ⟨s, rfl, ?_⟩)
        have a := V_lt (f + 1) s (Nat.le_succ_of_le hs)
        have c := V_two f s hs
        rw [c, p2] at a
        show 2 ^ (f + 1 + 2) - (0 + (0 + V f s)) = (2 ^ (f + 1 + 2) - (0 + V (f + 1) s) + 2 ^ (f + 1 + 2)) / 2 ∧ ¬ 4 * (2 ^ (f + 1 + 2) - (0 + V (f + 1) s)) ≤ 2 ^ (f + 1 + 2) ∧ ¬ 2 * (2 ^ (f + 1 + 2) - (0 + V (f + 1) s)) ≤ 2 ^ (f + 1 + 2) ∧ 2 ^ (f + 1 + 2) - (0 + V (f + 1) s) ≤ 2 ^ (f + 1 + 2)
        rw [c, p3]; exact ar3 a
      | true =>
        cases s with
        | nil => exact absurd hr1 (by decide)
        | cons y r' =>
          have hs' : r'.length ≤ f + 1 := Nat.le_trans (Nat.le_succ _) hs
          have a := V_lt f r' hs'
          rw [p1] at a
          cases y with
          | true =>
            refine .inl ⟨r', rfl, ?_⟩
            have c := V_two f r' hs'
            show 2 ^ (f + 1 + 2) - (2 ^ (f + 2) + V (f + 1) r') = 2 * (2 ^ (f + 1 + 2) - (2 ^ (f + 2) + (2 ^ (f + 1) + V f r'))) ∧ 4 * (2 ^ (f + 1 + 2) - (2 ^ (f + 2) + (2 ^ (f + 1) + V f r'))) ≤ 2 ^ (f + 1 + 2)
            rw [c, p3, p2, p1]; exact ar1 a
          | false =>
            refine .inr (.inl ⟨r', rfl, ?_⟩)
            show 2 ^ (f + 1 + 2) - (0 + (2 ^ (f + 1) + V f r')) = 2 ^ (f + 1 + 2) - (2 ^ (f + 2) + (0 + V f r')) + 2 ^ (f + 1 + 2) / 4 ∧ ¬ 4 * (2 ^ (f + 1 + 2) - (2 ^ (f + 2) + (0 + V f r'))) ≤ 2 ^ (f + 1 + 2) ∧ 2 * (2 ^ (f + 1 + 2) - (2 ^ (f + 2) + (0 + V f r'))) ≤ 2 ^ (f + 1 + 2)
            rw [p3, p2, p1]; exact ar2 a
theorem V_ones (n : Nat) (hn : n ≤ 2) (x : List Bool) : V 18 (List.replicate n true ++ x) = 2 ^ 19 - 2 ^ (19 - n) + V (18 - n) x := by
  rcases ar9 hn with h | h | h <;> rw [h]
  · exact (Nat.zero_add _).symm
  · rfl
  · exact (Nat.add_assoc _ _ _).symm
theorem numB_big (n : Nat) (hn : n ≤ 2) (b : List Bool) (h1 : n + 3 ≤ b.length) (h2 : b.length ≤ 18) (hst : stp n b = none) : 2 ^ (19 - n) < 2 ^ 19 - V 18 b := by
  cases b with
  | nil => exact absurd h1 (Nat.not_succ_le_zero _)
  | cons x r =>
    have hr := Nat.le_of_succ_le_succ h2
    rcases ar9 hn with h | h | h <;> rw [h] at hst ⊢
    · exact nomatch hst
    · cases x with
      | true => exact nomatch hst
      | false => exact ar6 (V_lt 17 r (Nat.le_succ_of_le hr))
    · cases x with
      | false => exact ar7 (V_lt 17 r (Nat.le_succ_of_le hr))
      | true =>
        cases r with
        | nil => rw [h] at h1; exact absurd h1 (by decide)
        | cons y r =>
          cases y with
          | true => exact nomatch hst
          | false => exact ar8 (V_lt 16 r (Nat.le_trans (Nat.le_succ _) hr))
theorem numB_led (n : Nat) (hn : n ≤ 2) (b : List Bool) (h1 : n + 3 ≤ b.length) (h2 : b.length ≤ 18) : numB (led n false b) = stepN n (numB b) := by
  cases hst : stp n b with
  | none =>
    have hled : led n false b = b := by unfold led; rw [hst]
    rw [hled]
    obtain ⟨a1, a2, a3⟩ := ar5 (numB_big n hn b h1 h2 hst)
    unfold stepN numB
    dsimp only
    rw [if_neg a1, if_neg a2, if_neg a3]
  | some r =>
    have hb := (stp_some n b r).mp hst
    have hled : led n false b = List.replicate n true ++ gF r := by unfold led; rw [hst]; rfl
    rw [hled]
    have hm : 17 - n + 2 = 19 - n := by (first | lia | omega)
    have hm1 : 18 - n = 17 - n + 1 := by (first | lia | omega)
    have hle : 2 ^ (19 - n) ≤ 2 ^ 19 := Nat.pow_le_pow_right (by decide) (Nat.sub_le _ _)
    have hrl : 3 ≤ r.length ∧ r.length ≤ 17 - n + 1 := by
      rw [hb, List.length_append, List.length_replicate] at h1 h2; (first | lia | omega)
    unfold numB stepN
    rw [hb, V_ones n hn, V_ones n hn, hm1]
    dsimp only
    rw [ar4 hle, ar4 hle, ← hm]
    rcases numB_core (17 - n) r hrl.1 hrl.2 with ⟨r', hq, q1, q2⟩ | ⟨r', hq, q1, q2, q3⟩ | ⟨r', hq, q1, q2, q3, q4⟩
    · rw [if_pos q2, ← q1, hq]
      simp [gF]
    · rw [if_neg q2, if_pos q3, ← q1, hq]
      simp [gF]
    · rw [if_neg q2, if_neg q3, if_pos q4, ← q1, hq]
      simp [gF]
      (first | lia | omega)
end Mine
end
section
open PySem PySem.W PyProof.Rows
set_option maxRecDepth 100000
set_option linter.unusedVariables false
set_option linter.unusedSimpArgs false
set_option maxHeartbeats 1000000
namespace Mine
section
variable {σ : St}
noncomputable def bitV (b : Bool) : AV := .int (if b then 1 else 0)
noncomputable def ED (B L : AV) (D x : Nat) (n s : AV) : Eta := [B, L, .int D, .int x, n, s, .unbound, .unbound]
noncomputable def dueBody : MS := bCons (sAsg (mBin .Pow (mK (.int 2)) (mBin .Sub (mK (.int 19)) (mV 4))) (aV 5)) (bCons (sIf (tCmp .LtE (mBin .Mult (mK (.int 4)) (mV 3)) (mV 5)) (bCons (sAsg (mBin .Mult (mK (.int 2)) (mV 3)) (aV 3)) (bCons (sAsg (mBin .Sub (mV 2) (mK (.int 1))) (aV 2)) bNil)) (bCons (sIf (tCmp .LtE (mBin .Mult (mK (.int 2)) (mV 3)) (mV 5)) (bCons (sAsg (mBin .Add (mV 3) (mBin .FloorDiv (mV 5) (mK (.int 4)))) (aV 3)) bNil) (bCons (sIf (tCmp .LtE (mV 3) (mV 5)) (bCons (sAsg (mBin .FloorDiv (mBin .Add (mV 3) (mV 5)) (mK (.int 2))) (aV 3)) (bCons (sAsg (mBin .Add (mV 2) (mK (.int 1))) (aV 2)) bNil)) bNil) bNil)) bNil)) bNil)
theorem due_turn (B L : AV) (D x n : Nat) (y : AV) (hn : n ≤ 19) (hD : 1 ≤ D) (hx : x ≤ 1000000) : dueBody (ED B L D x (.int n) y) σ = some (.next, ED B L (stepN n (D, x)).1 (stepN n (D, x)).2 (.int n) (.int ((2 ^ (19 - n) : Nat) : Int)), σ) := by
  have hs : 2 ^ (19 - n) ≤ 2 ^ 19 := Nat.pow_le_pow_right (by decide) (by (first | lia | omega))
  have p1 : binOp .Pow (.int 2) (.int (19 - (n : Int))) σ = some (.int ((2 ^ (19 - n) : Nat) : Int), σ) := by
    rw [bi_pow (by (first | lia | omega)) (by (first | lia | omega)) (by decide)]
    have : (19 - (n : Int)).toNat = 19 - n := by (first | lia | omega)
    rw [this]
    congr 3
  unfold stepN
  dsimp only
  generalize 2 ^ (19 - n) = s at *
  have m4 : binOp .Mult (.int 4) (.int x) σ = some (.int ((4 * x : Nat) : Int), σ) := by rw [bi_mul rfl (okI_small (by (first | lia | omega)))]; congr 3
  have m2 : binOp .Mult (.int 2) (.int x) σ = some (.int ((2 * x : Nat) : Int), σ) := by rw [bi_mul rfl (okI_small (by (first | lia | omega)))]; congr 3
  have d4 := bn_div (σ := σ) s (j := 4) 4 rfl (by decide) (by decide)
  have d2 := bn_div (σ := σ) (x + s) (j := 2) 2 rfl (by decide) (by decide)
  have a1 : binOp .Add (.int x) (.int ((s / 4 : Nat) : Int)) σ = some (.int ((x + s / 4 : Nat) : Int), σ) := rfl
  have a2 : binOp .Add (.int x) (.int s) σ = some (.int ((x + s : Nat) : Int), σ) := rfl
  have a3 : binOp .Add (.int D) (.int 1) σ = some (.int ((D + 1 : Nat) : Int), σ) := rfl
  have a4 : binOp .Sub (.int D) (.int 1) σ = some (.int ((D - 1 : Nat) : Int), σ) := by rw [bi_sub]; congr 3; (first | lia | omega)
  have c1 : ∀ u v : Nat, cmpOp .LtE (.int u) (.int v) σ = some (.bool (decide (u ≤ v)), σ) := fun u v => by
    rw [c_leI]; congr 3; simp
  unfold dueBody ED
  by_cases h1 : 4 * x ≤ s
  · simp only [v_bCons, v_bNil, v_sAsg, v_sIf, v_mBin, v_mK, v_mV, List.getElem?_cons_zero, List.getElem?_cons_succ, kV_int, k2_some, k2'_some, bi_sub, p1, m4, c1, h1, decide_true, v_tCmp, kT_some, kIf_true, m2, a4, kAsg_some, v_aV, List.length_cons, List.length_nil, Nat.reduceAdd, Nat.reduceLT, if_true, List.set_cons_zero, List.set_cons_succ, kNx_some, kS_next]
  · by_cases h2 : 2 * x ≤ s
    · simp only [v_bCons, v_bNil, v_sAsg, v_sIf, v_mBin, v_mK, v_mV, List.getElem?_cons_zero, List.getElem?_cons_succ, kV_int, k2_some, k2'_some, bi_sub, p1, m4, c1, h1, h2, decide_true, decide_false, v_tCmp, kT_some, kIf_true, kIf_false, m2, d4, a1, kAsg_some, v_aV, List.length_cons, List.length_nil, Nat.reduceAdd, Nat.reduceLT, if_true, if_false, List.set_cons_zero, List.set_cons_succ, kNx_some, kS_next]
    · by_cases h3 : x ≤ s
      · simp only [v_bCons, v_bNil, v_sAsg, v_sIf, v_mBin, v_mK, v_mV, List.getElem?_cons_zero, List.getElem?_cons_succ, kV_int, k2_some, k2'_some, bi_sub, p1, m4, c1, h1, h2, h3, decide_true, decide_false, v_tCmp, kT_some, kIf_true, kIf_false, m2, a2, d2, a3, kAsg_some, v_aV, List.length_cons, List.length_nil, Nat.reduceAdd, Nat.reduceLT, if_true, if_false, List.set_cons_zero, List.set_cons_succ, kNx_some, kS_next]
      · simp only [v_bCons, v_bNil, v_sAsg, v_sIf, v_mBin, v_mK, v_mV, List.getElem?_cons_zero, List.getElem?_cons_succ, kV_int, k2_some, k2'_some, bi_sub, p1, m4, c1, h1, h2, h3, decide_true, decide_false, v_tCmp, kT_some, kIf_true, kIf_false, m2, kAsg_some, v_aV, List.length_cons, List.length_nil, Nat.reduceAdd, Nat.reduceLT, if_true, if_false, List.set_cons_zero, List.set_cons_succ, kNx_some, kS_next]
theorem led_length (n : Nat) (back : Bool) (b : List Bool) : b.length ≤ (led n back b).length + 1 ∧ (led n back b).length ≤ b.length + 1 := by
  unfold led
  cases hst : stp n b with
  | none => exact ⟨Nat.le_succ _, Nat.le_succ _⟩
  | some r =>
    have hb := (stp_some n b r).mp hst
    have : r.length ≤ (if back then gB r else gF r).length + 1 ∧ (if back then gB r else gF r).length ≤ r.length + 1 := by
      cases back
      · match r with
        | [] => simp [gF]
        | [true] => simp [gF]
        | true :: true :: _ => simp [gF]
        | true :: false :: _ => simp [gF]
        | false :: _ => simp [gF]
      · match r with
        | [] => simp [gB]
        | [false] => simp [gB]
        | false :: true :: _ => simp [gB]
        | false :: false :: _ => simp [gB]
        | true :: _ => simp [gB]
    dsimp only
    rw [hb]
    simp only [List.length_append, List.length_replicate]
    (first | lia | omega)
theorem due_loop (B L : AV) : ∀ (ns : List Nat) (b : List Bool) (n0 s0 : AV), (∀ n ∈ ns, n ≤ 2) → b.length + ns.length ≤ 19 → 5 + ns.length ≤ b.length →
    ∃ n1 s1, forG ((ns.map fun (n : Nat) => AV.int n).map (aV 4)) dueBody (ED B L b.length (2 ^ 19 - V 18 b) n0 s0) σ = some (.next, ED B L (ns.foldl (fun b n => led n false b) b).length (2 ^ 19 - V 18 (ns.foldl (fun b n => led n false b) b)) n1 s1, σ)
  | [], b, n0, s0, _, _, _ => ⟨n0, s0, rfl⟩
  | n :: ns, b, n0, s0, hn, h1, h2 => by
    simp only [List.length_cons] at h1 h2
    have hn2 := hn n List.mem_cons_self
    obtain ⟨q1, q2⟩ := led_length n false b
    obtain ⟨n1, s1, ih⟩ := due_loop B L ns (led n false b) (.int n) (.int ((2 ^ (19 - n) : Nat) : Int)) (fun m hm => hn m (List.mem_cons_of_mem _ hm)) (by (first | lia | omega)) (by (first | lia | omega))
    refine ⟨n1, s1, ?_⟩
    rw [List.map_cons, List.map_cons]
    unfold forG
    have ea : aV 4 (.int n) (ED B L b.length (2 ^ 19 - V 18 b) n0 s0) σ = some (ED B L b.length (2 ^ 19 - V 18 b) (.int n) s0, σ) := rfl
    rw [ea, oB_some, due_turn B L _ _ n s0 (by (first | lia | omega)) (by (first | lia | omega)) (by (first | lia | omega)), oF_next]
    have hnum := numB_led n hn2 b (by (first | lia | omega)) (by (first | lia | omega))
    unfold numB at hnum
    rw [← hnum]
    exact ih
theorem joinT_nil : ∀ ts : List (List Nat), joinT [] ts = ts.flatten
  | [] => rfl
  | [x] => by simp [joinT]
  | x :: y :: r => by
    show x ++ [] ++ joinT [] (y :: r) = _
    rw [joinT_nil (y :: r)]
    simp
theorem range_map_bits (b : List Bool) (f : Nat → List Nat) (h : ∀ i x, b[i]? = some x → f i = if x then [47, 97, 98] else [47, 97]) : ((List.range b.length).map f).flatten = enc b := by
  have key : ∀ (b : List Bool) (g : Nat → List Nat), (∀ i x, b[i]? = some x → g i = if x then [47, 97, 98] else [47, 97]) → ((List.range b.length).map g).flatten = enc b := by
    intro b
    induction b with
    | nil => intro g _; rfl
    | cons x r ih =>
      intro g hg
      rw [List.length_cons, List.range_succ_eq_map, List.map_cons, List.map_map, List.flatten_cons, ih (g ∘ Nat.succ) (fun i y hy => hg (i + 1) y (by simpa using hy)), hg 0 x rfl]
      rfl
  exact key b f h
theorem V_sum : ∀ (e : Nat) (b : List Bool), ((List.range b.length).map fun i => (((if b.getD i false then 2 ^ (e - i) else 0 : Nat) : Nat) : Int)).sum = (V e b : Nat)
  | _, [] => rfl
  | e, x :: r => by
    have ih := V_sum (e - 1) r
    rw [List.length_cons, List.range_succ_eq_map, List.map_cons, List.map_map, List.sum_cons]
    have e1 : (List.range r.length).map ((fun i => (((if (x :: r).getD i false then 2 ^ (e - i) else 0 : Nat) : Nat) : Int)) ∘ Nat.succ) = (List.range r.length).map fun i => (((if r.getD i false then 2 ^ (e - 1 - i) else 0 : Nat) : Nat) : Int) := by
      refine List.map_congr_left fun i _ => ?_
      show (((if r.getD i false then 2 ^ (e - (i + 1)) else 0 : Nat) : Nat) : Int) = _
      rw [Nat.sub_sub, Nat.add_comm 1 i]
    rw [e1, ih]
    exact (Int.natCast_add _ _).symm
theorem p_law_due (bits : List Bool) (hb : bits.length = 14) (ns : List Nat) (hn : ∀ n ∈ ns, n ≤ 2) (hl : ns.length ≤ 5) :
    op_law_due [.list (bits.map bitV), .list (ns.map fun (n : Nat) => .int n)] σ = some (.str (enc (ns.foldl (fun b n => led n false b) bits)), σ) := by
  unfold op_law_due m_law_due
  rw [v_oFun, if_pos (by rfl)]
  have hV := V_lt 18 bits (by (first | lia | omega))
  -- the sum
  have hc : mComp [6] (iVal (mCall (lCons (mK (.int 14)) lNil) oRange) (aV 6)) (gIf (tK true) (gList (mBin .Mult (mIdx (mV 0) (mV 6)) (mBin .Pow (mK (.int 2)) (mBin .Sub (mK (.int 18)) (mV 6)))))) [.list (bits.map bitV), .list (ns.map fun (n : Nat) => .int n), .int 14, .unbound, .unbound, .unbound, .unbound, .unbound] σ =
      some (.list ((List.range 14).map fun i => AV.int (((if bits.getD i false then 2 ^ (18 - i) else 0 : Nat) : Nat) : Int)), σ) := by
    refine comp_mapA (a := .range 0 14 1) (List.range 14) (fun (k : Nat) => AV.int k) _ rfl (iter_range 14 (by decide)) rfl (by show 6 < 8; decide) ?_ (by decide)
    intro i hi
    have hi' : i < 14 := List.mem_range.mp hi
    have e1 : opItem (.list (bits.map bitV)) (.int i) σ = some (bitV (bits.getD i false), σ) := oi_list i (by rw [List.getElem?_map, getD_get bits i (by (first | lia | omega)) false]; rfl) (by (first | lia | omega))
    have e2 : binOp .Pow (.int 2) (.int (18 - (i : Int))) σ = some (.int ((2 ^ (18 - i) : Nat) : Int), σ) := by
      rw [bi_pow (by (first | lia | omega)) (by (first | lia | omega)) (by decide)]
      have : (18 - (i : Int)).toNat = 18 - i := by (first | lia | omega)
      rw [this]
      congr 3
    have hp : 2 ^ (18 - i) ≤ 2 ^ 18 := Nat.pow_le_pow_right (by decide) (by (first | lia | omega))
    have e3 : ∀ (b : Bool) (p : Nat), p ≤ 2 ^ 18 → binOp .Mult (bitV b) (.int p) σ = some (.int ((if b then p else 0 : Nat) : Int), σ) := by
      intro b p hp
      unfold bitV
      rw [bi_mul (by cases b <;> rfl) (okI_small (by (first | lia | omega)))]
      cases b <;> simp
    have e4 := e3 (bits.getD i false) _ hp
    generalize bits.getD i false = b at *
    cases b
    · simp only [v_mBin, v_mIdx, v_mK, v_mV, List.set_cons_zero, List.set_cons_succ, List.getElem?_cons_zero, List.getElem?_cons_succ, kV_list, kV_int, k2_some, k2'_some, e1, bi_sub, e2, e4]
    · simp only [v_mBin, v_mIdx, v_mK, v_mV, List.set_cons_zero, List.set_cons_succ, List.getElem?_cons_zero, List.getElem?_cons_succ, kV_list, kV_int, k2_some, k2'_some, e1, bi_sub, e2, e4]
  have hsum : oSum [.list ((List.range 14).map fun i => AV.int (((if bits.getD i false then 2 ^ (18 - i) else 0 : Nat) : Nat) : Int))] σ = some (.int ((V 18 bits : Nat) : Int), σ) := by
    have e1 : ((List.range 14).map fun i => AV.int (((if bits.getD i false then 2 ^ (18 - i) else 0 : Nat) : Nat) : Int)) = (((List.range 14).map fun i => (((if bits.getD i false then 2 ^ (18 - i) else 0 : Nat) : Nat) : Int))).map .int := by rw [List.map_map]; rfl
    rw [e1, o_sum, ← hb, V_sum 18 bits]
  have hpow : binOp .Pow (.int 2) (.int 19) σ = some (.int 524288, σ) := by rw [bi_pow (by decide) (by decide) (by decide)]; rfl
  have hsub : binOp .Sub (.int 524288) (.int ((V 18 bits : Nat) : Int)) σ = some (.int ((2 ^ 19 - V 18 bits : Nat) : Int), σ) := by rw [bi_sub]; congr 3; (first | lia | omega)
  rw [v_bCons]
  have s1 : sAsg (mK (.int 14)) (aV 2) (eta0 8 [.list (bits.map bitV), .list (ns.map fun (n : Nat) => .int n)]) σ = some (.next, [.list (bits.map bitV), .list (ns.map fun (n : Nat) => .int n), .int 14, .unbound, .unbound, .unbound, .unbound, .unbound], σ) := rfl
  rw [s1, kS_next, v_bCons, v_sAsg, v_mBin, v_mBin, v_mK, k2_some, v_mK, k2'_some, hpow, k2_some, v_mCall, v_lCons, hc, kL_some, v_lNil, kL'_some, kC_some, hsum, k2'_some, hsub, kAsg_some]
  have s2 : aV 3 (.int ((2 ^ 19 - V 18 bits : Nat) : Int)) [.list (bits.map bitV), .list (ns.map fun (n : Nat) => .int n), .int 14, .unbound, .unbound, .unbound, .unbound, .unbound] σ = some (ED (.list (bits.map bitV)) (.list (ns.map fun (n : Nat) => .int n)) bits.length (2 ^ 19 - V 18 bits) .unbound .unbound, σ) := by rw [hb]; rfl
  rw [s2, kNx_some, kS_next, v_bCons]
  obtain ⟨n1, s1', hloop⟩ := due_loop (σ := σ) (.list (bits.map bitV)) (.list (ns.map fun (n : Nat) => .int n)) ns bits .unbound .unbound hn (by (first | lia | omega)) (by (first | lia | omega))
  have s3 : sFor (iVal (mV 1) (aV 4)) dueBody (ED (.list (bits.map bitV)) (.list (ns.map fun (n : Nat) => .int n)) bits.length (2 ^ 19 - V 18 bits) .unbound .unbound) σ = forG ((ns.map fun (n : Nat) => AV.int n).map (aV 4)) dueBody (ED (.list (bits.map bitV)) (.list (ns.map fun (n : Nat) => .int n)) bits.length (2 ^ 19 - V 18 bits) .unbound .unbound) σ := rfl
  change retV (kS (sFor (iVal (mV 1) (aV 4)) dueBody (ED (.list (bits.map bitV)) (.list (ns.map fun (n : Nat) => AV.int n)) bits.length (2 ^ 19 - V 18 bits) .unbound .unbound) σ) _) = _
  rw [s3, hloop, kS_next, v_bCons]
  generalize hF : ns.foldl (fun b n => led n false b) bits = F at *
  have hFl : F.length ≤ 19 := by
    have : ∀ (ns : List Nat) (b : List Bool), (ns.foldl (fun b n => led n false b) b).length ≤ b.length + ns.length := by
      intro ns
      induction ns with
      | nil => intro b; simp
      | cons n r ih =>
        intro b
        have := ih (led n false b)
        have h2 := (led_length n false b).2
        simp only [List.foldl_cons, List.length_cons]; (first | lia | omega)
    have := this ns bits
    rw [hF] at this; (first | lia | omega)
  have hVF := V_lt 18 F (by (first | lia | omega))
  have hc2 : mComp [7] (iVal (mCall (lCons (mV 2) lNil) oRange) (aV 7)) (gIf (tK true) (gList (mIdx (mList (lCons (mK (.str [47, 97])) (lCons (mK (.str [47, 97, 98])) lNil))) (mBin .Mod (mBin .FloorDiv (mBin .Sub (mBin .Pow (mK (.int 2)) (mK (.int 19))) (mV 3)) (mBin .Pow (mK (.int 2)) (mBin .Sub (mK (.int 18)) (mV 7)))) (mK (.int 2))))))
      (ED (.list (bits.map bitV)) (.list (ns.map fun (n : Nat) => .int n)) F.length (2 ^ 19 - V 18 F) n1 s1') σ = some (.list ((List.range F.length).map fun i => AV.str ([[47, 97], [47, 97, 98]].getD (V 18 F / 2 ^ (18 - i) % 2) [])), σ) := by
    refine comp_mapA (a := .range 0 F.length 1) (List.range F.length) (fun (k : Nat) => AV.int k) _ rfl (iter_range _ (by (first | lia | omega))) rfl (by show 7 < 8; decide) ?_ (by simp; (first | lia | omega))
    intro i hi
    have hi' : i < F.length := List.mem_range.mp hi
    have e1 : binOp .Sub (.int 524288) (.int ((2 ^ 19 - V 18 F : Nat) : Int)) σ = some (.int ((V 18 F : Nat) : Int), σ) := by rw [bi_sub]; congr 3; (first | lia | omega)
    have e2 : binOp .Pow (.int 2) (.int (18 - (i : Int))) σ = some (.int ((2 ^ (18 - i) : Nat) : Int), σ) := by
      rw [bi_pow (by (first | lia | omega)) (by (first | lia | omega)) (by decide)]
      have : (18 - (i : Int)).toNat = 18 - i := by (first | lia | omega)
      rw [this]
      congr 3
    have hp : 2 ^ (18 - i) ≤ 2 ^ 18 := Nat.pow_le_pow_right (by decide) (by (first | lia | omega))
    have e3 := bn_div (σ := σ) (V 18 F) (j := ((2 ^ (18 - i) : Nat) : Int)) (2 ^ (18 - i)) rfl (Nat.two_pow_pos _) (by (first | lia | omega))
    have e4 := bn_mod (σ := σ) (V 18 F / 2 ^ (18 - i)) (j := 2) 2 rfl (by decide)
    have e5 := item2 (σ := σ) (a := [47, 97]) (b := [47, 97, 98]) (V 18 F / 2 ^ (18 - i) % 2) (by (first | lia | omega))
    unfold ED
    simp only [v_mBin, v_mIdx, v_mList, v_lCons, v_lNil, kL_some, kL'_some, kC_some, vlist2, v_mK, v_mV, List.set_cons_zero, List.set_cons_succ, List.getElem?_cons_zero, List.getElem?_cons_succ, kV_int, k2_some, k2'_some, hpow, e1, bi_sub, e2, e3, e4, e5]
  have hj : oJoin [.str [], .list ((List.range F.length).map fun i => AV.str ([[47, 97], [47, 97, 98]].getD (V 18 F / 2 ^ (18 - i) % 2) []))] σ = some (.str (enc F), σ) := by
    have e1 : ((List.range F.length).map fun i => AV.str ([[47, 97], [47, 97, 98]].getD (V 18 F / 2 ^ (18 - i) % 2) [])) = ((List.range F.length).map fun i => ([[47, 97], [47, 97, 98]].getD (V 18 F / 2 ^ (18 - i) % 2) [] : List Nat)).map .str := by rw [List.map_map]; rfl
    rw [e1, o_join, joinT_nil, range_map_bits]
    · intro i x hx
      rw [V_bit 18 F i x (by (first | lia | omega)) hx]
      cases x <;> rfl
    · have : ∀ (l : List Nat), ((l.map fun i => ([[47, 97], [47, 97, 98]].getD (V 18 F / 2 ^ (18 - i) % 2) [] : List Nat)).map List.length).sum ≤ 3 * l.length := by
        intro l
        induction l with
        | nil => simp
        | cons i r ih =>
          have : V 18 F / 2 ^ (18 - i) % 2 = 0 ∨ V 18 F / 2 ^ (18 - i) % 2 = 1 := by (first | lia | omega)
          simp only [List.map_cons, List.sum_cons, List.length_cons]
          rcases this with h | h <;> rw [h] <;> simp <;> simp at ih <;> (first | lia | omega)
      have := this (List.range F.length)
      simp only [List.length_nil, Nat.mul_zero, Nat.add_zero]
      rw [List.length_range] at this
      (first | lia | omega)
  rw [v_sRet, v_mMeth, v_mK, kM_str, v_lCons, hc2, kL_some, v_lNil, kL'_some, kM'_some, hj, kRet_some, kS_ret, retV_ret]
end
end Mine
end
section
open PySem PySem.W PyProof.Rows
set_option maxRecDepth 100000
set_option linter.unusedVariables false
set_option linter.unusedSimpArgs false
set_option maxHeartbeats 1000000
namespace Mine
noncomputable def walkR (row : List Nat) : Nat → Nat → Nat × Nat
  | 0, lv => (0, lv)
  | p + 1, lv => if row.getD p 0 < lv then walkR row p (lv + 1) else (p + 1, lv)
noncomputable def insW (row : List Nat) (lv : Nat) : List Nat := row.take (walkR row row.length lv).1 ++ (walkR row row.length lv).2 :: row.drop (walkR row row.length lv).1
noncomputable def fall (ns : List Nat) : List Nat := ns.foldl insW []
theorem walk_le (row : List Nat) : ∀ p lv, (walkR row p lv).1 ≤ p ∧ (walkR row p lv).2 ≤ lv + p
  | 0, lv => ⟨Nat.le_refl _, Nat.le_refl _⟩
  | p + 1, lv => by
    unfold walkR
    split
    · have := walk_le row p (lv + 1); (first | lia | omega)
    · exact ⟨Nat.le_refl _, by (first | lia | omega)⟩
theorem insW_len (row : List Nat) (lv : Nat) : (insW row lv).length = row.length + 1 := by
  have := (walk_le row row.length lv).1
  unfold insW; simp; (first | lia | omega)
theorem insW_le (row : List Nat) (lv M : Nat) (h : ∀ x ∈ row, x ≤ M) (hl : lv + row.length ≤ M) : ∀ x ∈ insW row lv, x ≤ M := by
  intro x hx
  unfold insW at hx
  have := (walk_le row row.length lv).2
  rcases List.mem_append.mp hx with hx | hx
  · exact h x (List.mem_of_mem_take hx)
  · rcases List.mem_cons.mp hx with rfl | hx
    · (first | lia | omega)
    · exact h x (List.mem_of_mem_drop hx)
section
variable {σ : St}
noncomputable def whT : MT := tAnd (tCmp .Gt (mV 3) (mK (.int 0))) (tAnd (tCmp .Lt (mIdx (mV 1) (mBin .Sub (mV 3) (mK (.int 1)))) (mV 2)) (tK true))
noncomputable def whB : MS := bCons (sAsg (mBin .Sub (mV 3) (mK (.int 1))) (aV 3)) (bCons (sAsg (mBin .Add (mV 2) (mK (.int 1))) (aV 2)) bNil)
noncomputable def natV (n : Nat) : AV := .int n
theorem fall_while (L : AV) (row : List Nat) (hr : row.length ≤ 50) : ∀ (p lv fuel : Nat), p ≤ row.length → p < fuel → whileG fuel whT whB [L, .cell σ.length, .int lv, .int p] (σ ++ [.list (row.map natV)]) =
    some (.next, [L, .cell σ.length, .int (walkR row p lv).2, .int (walkR row p lv).1], σ ++ [.list (row.map natV)])
  | _, _, 0, _, h => absurd h (Nat.not_lt_zero _)
  | 0, lv, fuel + 1, _, _ => by
    have ht : whT [L, .cell σ.length, .int lv, .int ((0 : Nat) : Int)] (σ ++ [.list (row.map natV)]) = some (false, σ ++ [.list (row.map natV)]) := rfl
    unfold whileG; rw [ht]; rfl
  | p + 1, lv, fuel + 1, h1, h2 => by
    have hv := fun i : Int => item_cell (last_cell (σ := σ) (.list (row.map natV))) i
    have e1 : binOp .Sub (.int ((p + 1 : Nat) : Int)) (.int 1) (σ ++ [ACell.list (row.map natV)]) = some (.int p, σ ++ [.list (row.map natV)]) := by rw [bi_sub]; congr 3; (first | lia | omega)
    have e2 : opItem (.list (row.map natV)) (.int p) (σ ++ [ACell.list (row.map natV)]) = some (natV (row.getD p 0), σ ++ [.list (row.map natV)]) := oi_list p (by rw [List.getElem?_map, getD_get row p (by (first | lia | omega)) 0]; rfl) (by (first | lia | omega))
    have c0 : cmpOp .Gt (.int ((p + 1 : Nat) : Int)) (.int 0) (σ ++ [ACell.list (row.map natV)]) = some (.bool true, σ ++ [.list (row.map natV)]) := by rw [c_gtI]; congr 3; simp
    have c1 : cmpOp .Lt (natV (row.getD p 0)) (.int lv) (σ ++ [ACell.list (row.map natV)]) = some (.bool (decide (row.getD p 0 < lv)), σ ++ [.list (row.map natV)]) := by
      unfold natV; rw [c_ltI]; congr 3; simp
    have ht : whT [L, .cell σ.length, .int lv, .int ((p + 1 : Nat) : Int)] (σ ++ [.list (row.map natV)]) = some (decide (row.getD p 0 < lv), σ ++ [.list (row.map natV)]) := by
      unfold whT
      simp only [v_tAnd, v_tCmp, v_mIdx, v_mBin, v_mV, v_mK, List.getElem?_cons_zero, List.getElem?_cons_succ, kV_int, kV_cell, k2_some, k2'_some, c0, kT_some, kA_true, e1, hv, e2, c1, v_tK]
      cases decide (row.getD p 0 < lv) <;> rfl
    unfold whileG walkR
    rw [ht]
    by_cases h : row.getD p 0 < lv
    · rw [decide_eq_true h, if_pos h, oT_t]
      have eb : whB [L, .cell σ.length, .int lv, .int ((p + 1 : Nat) : Int)] (σ ++ [.list (row.map natV)]) = some (.next, [L, .cell σ.length, .int ((lv + 1 : Nat) : Int), .int p], σ ++ [.list (row.map natV)]) := by
        unfold whB
        have e3 : binOp .Add (.int lv) (.int 1) (σ ++ [ACell.list (row.map natV)]) = some (.int ((lv + 1 : Nat) : Int), σ ++ [.list (row.map natV)]) := rfl
        simp only [v_bCons, v_bNil, v_sAsg, v_mBin, v_mV, v_mK, List.getElem?_cons_zero, List.getElem?_cons_succ, kV_int, k2_some, k2'_some, e1, e3, kAsg_some, v_aV, List.length_cons, List.length_nil, Nat.reduceAdd, Nat.reduceLT, if_true, List.set_cons_zero, List.set_cons_succ, kNx_some, kS_next]
      rw [eb, oF_next]
      exact fall_while L row hr p (lv + 1) fuel (by (first | lia | omega)) (by (first | lia | omega))
    · rw [decide_eq_false h, if_neg h, oT_f]
theorem fall_loop (L : AV) : ∀ (ns row : List Nat) (a b : AV), row.length + ns.length ≤ 40 → ∃ a' b', forG ((ns.map natV).map (aV 2)) (bCons (sAsg (mCall (lCons (mV 1) lNil) oLen) (aV 3)) (bCons (whileG 100 whT whB) (bCons (sExpr (mMeth "list" (mV 1) (lCons (mV 3) (lCons (mV 2) lNil)) oInsert)) bNil))) [L, .cell σ.length, a, b] (σ ++ [.list (row.map natV)]) =
    some (.next, [L, .cell σ.length, a', b'], σ ++ [.list ((ns.foldl insW row).map natV)])
  | [], row, a, b, _ => ⟨a, b, rfl⟩
  | n :: ns, row, a, b, h => by
    simp only [List.length_cons] at h
    have hl := insW_len row n
    obtain ⟨a', b', ih⟩ := fall_loop L ns (insW row n) (.int (walkR row row.length n).2) (.int (walkR row row.length n).1) (by (first | lia | omega))
    refine ⟨a', b', ?_⟩
    rw [List.map_cons, List.map_cons]
    unfold forG
    have ea : aV 2 (natV n) [L, .cell σ.length, a, b] (σ ++ [.list (row.map natV)]) = some ([L, .cell σ.length, .int n, b], σ ++ [.list (row.map natV)]) := rfl
    rw [ea, oB_some]
    have hg := last_cell (σ := σ) (.list (row.map natV))
    have hrl : (row.map natV).length = row.length := List.length_map ..
    have e1 : oLen [.cell σ.length] (σ ++ [ACell.list (row.map natV)]) = some (.int row.length, σ ++ [.list (row.map natV)]) := by
      rw [o_lenC hg (by (first | lia | omega)), hrl]
    have e2 := fall_while (σ := σ) L row (by (first | lia | omega)) row.length n 100 (Nat.le_refl _) (by (first | lia | omega))
    have hw := (walk_le row row.length n).1
    have e3 : oInsert [.cell σ.length, .int (walkR row row.length n).1, .int (walkR row row.length n).2] (σ ++ [ACell.list (row.map natV)]) = some (.none, σ ++ [.list ((insW row n).map natV)]) := by
      rw [o_insC hg (by (first | lia | omega)) (by (first | lia | omega)), set_last]
      unfold insW
      simp [natV]
    have turn : (bCons (sAsg (mCall (lCons (mV 1) lNil) oLen) (aV 3)) (bCons (whileG 100 whT whB) (bCons (sExpr (mMeth "list" (mV 1) (lCons (mV 3) (lCons (mV 2) lNil)) oInsert)) bNil))) [L, .cell σ.length, .int n, b] (σ ++ [.list (row.map natV)]) =
        some (.next, [L, .cell σ.length, .int (walkR row row.length n).2, .int (walkR row row.length n).1], σ ++ [.list ((insW row n).map natV)]) := by
      rw [v_bCons, v_sAsg]
      simp only [v_mCall, v_lCons, v_lNil, v_mV, List.getElem?_cons_zero, List.getElem?_cons_succ, kV_cell, kL_some, kL'_some, kC_some, e1, kAsg_some, v_aV, List.length_cons, List.length_nil, Nat.reduceAdd, Nat.reduceLT, if_true, List.set_cons_zero, List.set_cons_succ, kNx_some, kS_next]
      rw [v_bCons, e2, kS_next, v_bCons, v_sExpr, v_mMeth]
      simp only [v_mV, List.getElem?_cons_zero, List.getElem?_cons_succ, kV_cell, kV_int, v_lCons, v_lNil, kL_some, kL'_some, kM_cellL hg, kM'_some, e3, kEx_some, kS_next, v_bNil]
    rw [turn, oF_next]
    exact ih
theorem p_law_falling (ns : List Nat) (h : ns.length ≤ 40) : op_law_falling [.list (ns.map natV)] σ = some (.list ((fall ns).map natV), σ ++ [.dead]) := by
  unfold op_law_falling m_law_falling
  rw [v_oFun, if_pos (by rfl)]
  obtain ⟨a, b, hl⟩ := fall_loop (σ := σ) (.list (ns.map natV)) ns [] .unbound .unbound (by simpa using h)
  have s1 : sAsg (mNewL lNil) (aV 1) (eta0 4 [.list (ns.map natV)]) σ = some (.next, [.list (ns.map natV), .cell σ.length, .unbound, .unbound], σ ++ [.list []]) := rfl
  rw [v_bCons, s1, kS_next, v_bCons]
  change retV (kS (forG ((ns.map natV).map (aV 2)) (bCons (sAsg (mCall (lCons (mV 1) lNil) oLen) (aV 3)) (bCons (whileG 100 whT whB) (bCons (sExpr (mMeth "list" (mV 1) (lCons (mV 3) (lCons (mV 2) lNil)) oInsert)) bNil))) [.list (ns.map natV), .cell σ.length, .unbound, .unbound] (σ ++ [.list (([] : List Nat).map natV)])) _) = _
  rw [hl, kS_next, v_bCons, v_sRet, v_mFrz, v_mV]
  simp only [List.getElem?_cons_zero, List.getElem?_cons_succ, kV_cell]
  rw [kFz_list (l := (ns.foldl insW []).map natV) (by simp), kRet_some, kS_ret, retV_ret]
  unfold fall
  simp
end
theorem stp_app : ∀ (n k : Nat) (r : List Bool), stp (n + k) (List.replicate n true ++ r) = stp k r
  | 0, k, r => by simp
  | n + 1, k, r => by
    rw [show n + 1 + k = (n + k) + 1 by (first | lia | omega), List.replicate_succ, List.cons_append]
    exact stp_app n k r
theorem stp_fall (n k : Nat) (r : List Bool) : stp (n + (k + 1)) (List.replicate n true ++ false :: r) = none := by
  rw [stp_app]; rfl
theorem stp_over (n k : Nat) : stp (n + (k + 1)) (List.replicate n true) = none := by
  have := stp_app n (k + 1) []
  rw [List.append_nil] at this
  rw [this]; rfl
theorem led_none_eq {n : Nat} {back : Bool} {b : List Bool} (h : stp n b = none) : led n back b = b := by unfold led; rw [h]
theorem led_some_eq {n : Nat} {back : Bool} {b r : List Bool} (h : stp n b = some r) : led n back b = List.replicate n true ++ (if back then gB r else gF r) := by unfold led; rw [h]
theorem rep_snoc (n : Nat) (r : List Bool) : List.replicate n true ++ true :: r = List.replicate (n + 1) true ++ r := by
  rw [List.replicate_succ', List.append_assoc]; rfl
theorem led_comm (x lv : Nat) (h : x < lv) (y : List Bool) : led lv false (led x false y) = led x false (led (lv + 1) false y) := by
  obtain ⟨k, rfl⟩ : ∃ k, lv = x + (k + 1) := ⟨lv - x - 1, by (first | lia | omega)⟩
  have stp_less : ∀ (n k : Nat) (b : List Bool), stp n b = none → stp (n + k) b = none := by
    intro n
    induction n with
    | zero => intro k b h; simp [stp] at h
    | succ n ih =>
      intro k b h
      rw [show n + 1 + k = (n + k) + 1 by (first | lia | omega)]
      match b with
      | [] => rfl
      | true :: r => exact ih k r (by simpa [stp] using h)
      | false :: r => rfl
  cases hst : stp x y with
  | none =>
    rw [led_none_eq hst, led_none_eq (stp_less x (k + 1) y hst)]
    have : stp (x + (k + 1) + 1) y = none := by rw [show x + (k + 1) + 1 = x + (k + 2) by (first | lia | omega)]; exact stp_less x (k + 2) y hst
    rw [led_none_eq this, led_none_eq hst]
  | some r =>
    have hy := (stp_some x y r).mp hst
    have hx : led x false y = List.replicate x true ++ gF r := led_some_eq hst
    rw [hx]
    match r, hy, hx, hst with
    | [], hy, hx, hst =>
      have e0 : gF [] = [] := rfl
      rw [e0, List.append_nil] at hx ⊢
      rw [List.append_nil] at hy
      rw [led_none_eq (stp_over x k)]
      have : stp (x + (k + 1) + 1) y = none := by rw [hy, show x + (k + 1) + 1 = x + (k + 1 + 1) by (first | lia | omega)]; exact stp_over x (k + 1)
      rw [led_none_eq this, hx]
    | [true], hy, hx, hst =>
      have e0 : gF [true] = [true] := rfl
      rw [e0] at hx ⊢
      have n2 : stp (x + (k + 1) + 1) y = none := by
        rw [hy, show x + (k + 1) + 1 = x + (k + 2) by (first | lia | omega), stp_app]
        cases k <;> rfl
      rw [led_none_eq n2, hx]
      cases k with
      | zero =>
        have : stp (x + (0 + 1)) (List.replicate x true ++ [true]) = some [] := by rw [stp_app]; rfl
        rw [led_some_eq this]
        show List.replicate (x + 1) true ++ [] = _
        rw [List.append_nil, List.replicate_succ']
      | succ k =>
        have : stp (x + (k + 1 + 1)) (List.replicate x true ++ [true]) = none := by rw [stp_app]; rfl
        rw [led_none_eq this]
    | false :: r1, hy, hx, hst =>
      have e0 : gF (false :: r1) = false :: false :: r1 := rfl
      rw [e0] at hx ⊢
      rw [led_none_eq (stp_fall x k _)]
      have : stp (x + (k + 1) + 1) y = none := by rw [hy, show x + (k + 1) + 1 = x + (k + 1 + 1) by (first | lia | omega)]; exact stp_fall x (k + 1) _
      rw [led_none_eq this, hx]
    | true :: false :: r2, hy, hx, hst =>
      have e0 : gF (true :: false :: r2) = false :: true :: r2 := rfl
      rw [e0] at hx ⊢
      rw [led_none_eq (stp_fall x k _)]
      have : stp (x + (k + 1) + 1) y = none := by
        rw [hy, rep_snoc, show x + (k + 1) + 1 = (x + 1) + (k + 1) by (first | lia | omega)]; exact stp_fall (x + 1) k _
      rw [led_none_eq this, hx]
    | true :: true :: r3, hy, hx, hst =>
      have e0 : gF (true :: true :: r3) = true :: r3 := rfl
      rw [e0] at hx ⊢
      have a1 : stp (x + (k + 1)) (List.replicate x true ++ true :: r3) = stp k r3 := by rw [stp_app]; rfl
      have a2 : stp (x + (k + 1) + 1) y = stp k r3 := by rw [hy, show x + (k + 1) + 1 = x + (k + 2) by (first | lia | omega), stp_app]; rfl
      cases hk : stp k r3 with
      | none =>
        rw [hk] at a1 a2
        rw [led_none_eq a1, led_none_eq a2, hx]
      | some q =>
        rw [hk] at a1 a2
        rw [led_some_eq a1, led_some_eq a2]
        simp only [Bool.false_eq_true, if_false]
        have a3 : stp x (List.replicate (x + (k + 1) + 1) true ++ gF q) = some (true :: true :: (List.replicate k true ++ gF q)) := by
          rw [stp_some]
          rw [rep_snoc, rep_snoc, ← List.append_assoc, List.replicate_append_replicate]
          congr 2; (first | lia | omega)
        rw [led_some_eq a3]
        show _ = List.replicate x true ++ (true :: (List.replicate k true ++ gF q))
        rw [rep_snoc, ← List.append_assoc, List.replicate_append_replicate]
        congr 2; (first | lia | omega)
theorem led_inv (n : Nat) (y : List Bool) (h : n + 2 ≤ y.length) : led n true (led n false y) = y := by
  cases hst : stp n y with
  | none => rw [led_none_eq hst, led_none_eq hst]
  | some r =>
    have hy := (stp_some n y r).mp hst
    have hr : 2 ≤ r.length := by rw [hy] at h; simp at h; (first | lia | omega)
    have a : stp n (led n false y) = some (gF r) := by rw [led_some_eq hst, stp_some]; rfl
    rw [led_some_eq a, hy]
    simp only [if_true]
    congr 1
    match r, hr with
    | true :: false :: _, _ => rfl
    | true :: true :: _, _ => rfl
    | false :: _ :: _, _ => rfl
noncomputable def fld (b : List Bool) (ns : List Nat) : List Bool := ns.foldl (fun b n => led n false b) b
theorem fld_walk (row : List Nat) (b : List Bool) : ∀ (p lv : Nat), p ≤ row.length → fld b (row.take p ++ lv :: row.drop p) = fld b (row.take (walkR row p lv).1 ++ (walkR row p lv).2 :: row.drop (walkR row p lv).1)
  | 0, lv, _ => rfl
  | p + 1, lv, h => by
    unfold walkR
    by_cases hc : row.getD p 0 < lv
    · rw [if_pos hc, ← fld_walk row b p (lv + 1) (by (first | lia | omega))]
      have hp : row[p]? = some (row.getD p 0) := getD_get row p (by (first | lia | omega)) 0
      have e1 : row.take (p + 1) = row.take p ++ [row.getD p 0] := by rw [List.take_add_one, hp]; rfl
      have e2 : row.drop p = row.getD p 0 :: row.drop (p + 1) := by
        rw [List.drop_eq_getElem_cons (by (first | lia | omega))]
        congr 1
        have := List.getElem?_eq_getElem (l := row) (i := p) (by (first | lia | omega))
        rw [hp] at this; exact (Option.some.inj this).symm
      rw [e1, e2]
      unfold fld
      simp only [List.foldl_append, List.foldl_cons, List.foldl_nil]
      rw [led_comm _ _ hc]
    · rw [if_neg hc]
theorem fld_ins (row : List Nat) (lv : Nat) (b : List Bool) : fld b (insW row lv) = led lv false (fld b row) := by
  unfold insW
  rw [← fld_walk row b row.length lv (Nat.le_refl _)]
  unfold fld
  simp
theorem fld_fall (ns : List Nat) (b : List Bool) : fld b (fall ns) = fld b ns := by
  have key : ∀ (ns row : List Nat), fld b (ns.foldl insW row) = fld (fld b row) ns := by
    intro ns
    induction ns with
    | nil => intro row; rfl
    | cons n r ih => intro row; rw [List.foldl_cons, ih, fld_ins]; rfl
  exact key ns []
theorem fall_ok (ns : List Nat) (h : ∀ n ∈ ns, n ≤ 2) (hl : ns.length ≤ 5) : (fall ns).length = ns.length ∧ ∀ n ∈ fall ns, n ≤ 6 := by
  have key : ∀ (ns row : List Nat), (∀ n ∈ ns, n ≤ 2) → (∀ n ∈ row, n ≤ 6) → row.length + ns.length ≤ 5 → (ns.foldl insW row).length = row.length + ns.length ∧ ∀ n ∈ ns.foldl insW row, n ≤ 6 := by
    intro ns
    induction ns with
    | nil => intro row _ h2 _; exact ⟨rfl, h2⟩
    | cons n r ih =>
      intro row h1 h2 h3
      simp only [List.length_cons] at h3
      have hn := h1 n List.mem_cons_self
      have e := insW_len row n
      obtain ⟨i1, i2⟩ := ih (insW row n) (fun m hm => h1 m (List.mem_cons_of_mem _ hm)) (insW_le row n 6 h2 (by (first | lia | omega))) (by (first | lia | omega))
      exact ⟨by rw [List.foldl_cons, i1, e, List.length_cons]; (first | lia | omega), i2⟩
  have := key ns [] h (fun _ hm => nomatch hm) (by simpa using hl)
  simpa [fall] using this
theorem fldB_len (ns : List Nat) (b : List Bool) : b.length ≤ (fld b ns).length + ns.length ∧ (fld b ns).length ≤ b.length + ns.length := by
  induction ns generalizing b with
  | nil => simp [fld]
  | cons n r ih =>
    have h1 := ih (led n false b)
    have h2 := led_length n false b
    have : fld b (n :: r) = fld (led n false b) r := rfl
    rw [this, List.length_cons]; (first | lia | omega)
end Mine
end
section
open PySem PySem.W PyProof.Rows
set_option maxRecDepth 100000
set_option linter.unusedVariables false
set_option linter.unusedSimpArgs false
set_option maxHeartbeats 1000000
namespace Mine
section
variable {σ : St} {η : Eta}
structure Has (η : Eta) (l : List (Nat × AV)) : Prop where
  len : η.length = 40
  u : ∀ j, 20 ≤ j → unb η j = true
  at' : ∀ p ∈ l, η[p.1]? = some p.2
noncomputable def lkp (k : Nat) : List (Nat × AV) → Option AV
  | [] => none
  | p :: r => if p.1 = k then some p.2 else lkp k r
theorem lkp_mem {k : Nat} {a : AV} : ∀ {l : List (Nat × AV)}, lkp k l = some a → (k, a) ∈ l
  | [], h => by cases h
  | p :: r, h => by
    unfold lkp at h
    split at h
    · rename_i e; cases h; subst e; exact List.mem_cons_self
    · exact List.mem_cons_of_mem _ (lkp_mem h)
theorem Has.get {l : List (Nat × AV)} (H : Has η l) (k : Nat) {a : AV} (e : lkp k l = some a) : η[k]? = some a := H.at' (k, a) (lkp_mem e)
theorem Has.set {l : List (Nat × AV)} (H : Has η l) (i : Nat) (a : AV) (hi : i < 20) : Has (η.set i a) ((i, a) :: l.filter (fun p => p.1 != i)) where
  len := by rw [List.length_set]; exact H.len
  u := by
    intro j hj
    have := H.u j hj
    unfold unb at this ⊢
    rw [List.getElem?_set_ne (by (first | lia | omega))]; exact this
  at' := by
    intro p hp
    rcases List.mem_cons.mp hp with rfl | hp
    · exact List.getElem?_set_self (by rw [H.len]; (first | lia | omega))
    · obtain ⟨h1, h2⟩ := List.mem_filter.mp hp
      have : p.1 ≠ i := by simpa using h2
      rw [List.getElem?_set_ne (fun e => this e.symm)]; exact H.at' p h1
theorem doAsg {m : ME} {i : Nat} {a : AV} {σ' : St} {l l' : List (Nat × AV)} (H : Has η l) (hi : i < 20) (hm : m η σ = some (a, σ')) (hl : (i, a) :: l.filter (fun p => p.1 != i) = l') : ∃ η', sAsg m (aV i) η σ = some (.next, η', σ') ∧ Has η' l' := by
  refine ⟨η.set i a, ?_, hl ▸ H.set i a hi⟩
  rw [v_sAsg, hm, kAsg_some, v_aV, if_pos (by rw [H.len]; (first | lia | omega))]; rfl
theorem mV_of {k : Nat} {a : AV} (h : η[k]? = some a) (hu : a ≠ .unbound) : mV k η σ = some (a, σ) := by rw [v_mV, h, kV_some hu]
noncomputable def Near (η : Eta) (i : Nat) (x : AV) (η' : Eta) : Prop := (∀ j a, j ≠ i → η[j]? = some a → η'[j]? = some a) ∧ η'[i]? = some x
theorem near_set {l : List (Nat × AV)} (H : Has η l) (i : Nat) (x : AV) (hi : i < 40) : Near η i x (η.set i x) :=
  ⟨fun j a hj h => by rw [List.getElem?_set_ne (fun e => hj e.symm)]; exact h, List.getElem?_set_self (by rw [H.len]; (first | lia | omega))⟩
theorem ownU {l : List (Nat × AV)} (H : Has η l) {i : Nat} (h : 20 ≤ i) : [i].all (unb η) = true := by simp [H.u i h]
theorem cLst {α : Type} {l : List (Nat × AV)} {m e : ME} {a : AV} (H : Has η l) (i : Nat) (as : List α) (g f : α → AV) (h20 : 20 ≤ i) (h40 : i < 40) (hn : as.length ≤ 1000) (hm : m η σ = some (a, σ)) (ha : iterL a = some (as.map g))
    (he : ∀ x ∈ as, ∀ η', Near η i (g x) η' → e η' σ = some (f x, σ)) : mComp [i] (iVal m (aV i)) (gIf (tK true) (gList e)) η σ = some (.list (as.map f), σ) :=
  comp_mapA as g f hm ha (ownU H h20) (by rw [H.len]; exact h40) (fun x hx => he x hx _ (near_set H i _ h40)) (by (first | lia | omega))
theorem cFil {α : Type} {l : List (Nat × AV)} {m e : ME} {t : MT} {a : AV} (H : Has η l) (i : Nat) (as : List α) (g : α → AV) (p : α → Bool) (f : α → AV) (h20 : 20 ≤ i) (h40 : i < 40) (hn : as.length ≤ 1000) (hm : m η σ = some (a, σ)) (ha : iterL a = some (as.map g))
    (ht : ∀ x ∈ as, ∀ η', Near η i (g x) η' → t η' σ = some (p x, σ)) (he : ∀ x ∈ as, p x = true → ∀ η', Near η i (g x) η' → e η' σ = some (f x, σ)) : mComp [i] (iVal m (aV i)) (gIf t (gList e)) η σ = some (.list ((as.filter p).map f), σ) :=
  comp_filterA as g p f hm ha (ownU H h20) (by rw [H.len]; exact h40) (fun x hx => ht x hx _ (near_set H i _ h40)) (fun x hx hp => he x hx hp _ (near_set H i _ h40)) (by (first | lia | omega))
theorem rng {n : Nat} (h : n ≤ 1000) : iterL (.range 0 n 1) = some ((List.range n).map fun (k : Nat) => AV.int k) := iter_range n (by (first | lia | omega))
noncomputable def cel (ns : List Int) (i : Nat) (c : Int) : Int := c + (pickNums ns (some i) none (some 3)).sum
theorem law_cells {l : List (Nat × AV)} (H : Has η l) (ns : List Int) (hns : ns.length ≤ 63) (h0 : η[0]? = some (.script ns)) :
    mComp [20, 21] (iEnum (mList (lCons (mK (.int 147)) (lCons (mK (.int 96)) (lCons (mK (.int 150560359425)) lNil)))) (aCons (aV 20) (aCons (aV 21) aNil))) (gIf (tK true) (gList (mBin .Add (mV 21) (mCall (lCons (mSlc (mV 0) (mV 20) (mK .none) (mK (.int 3))) lNil) oSum)))) η σ =
      some (.list [.int (cel ns 0 147), .int (cel ns 1 96), .int (cel ns 2 150560359425)], σ) := by
  refine (comp_enum (σ := σ) [.int 147, .int 96, .int 150560359425] (fun x => match x.1 with | .int c => .int (cel ns x.2 c) | _ => .none) rfl (by simp [H.u 20 (by decide), H.u 21 (by decide)]) (by rw [H.len]; decide) (by rw [H.len]; decide) ?_ (by decide)).trans rfl
  have key : ∀ (i : Nat) (c : Int), (mBin .Add (mV 21) (mCall (lCons (mSlc (mV 0) (mV 20) (mK .none) (mK (.int 3))) lNil) oSum)) ((η.set 20 (.int i)).set 21 (.int c)) σ = some (.int (cel ns i c), σ) := by
    intro i c
    have g0 : ((η.set 20 (AV.int i)).set 21 (.int c))[0]? = some (.script ns) := by rw [List.getElem?_set_ne (by decide), List.getElem?_set_ne (by decide)]; exact h0
    have g20 : ((η.set 20 (AV.int i)).set 21 (.int c))[20]? = some (.int i) := by rw [List.getElem?_set_ne (by decide)]; exact List.getElem?_set_self (by rw [H.len]; decide)
    have g21 : ((η.set 20 (AV.int i)).set 21 (.int c))[21]? = some (.int c) := List.getElem?_set_self (by rw [List.length_set, H.len]; decide)
    have e1 : opSlice (.script ns) (.int i) .none (.int 3) σ = some (.list ((pickNums ns (some i) none (some 3)).map .int), σ) := by
      show (if ¬ (some (3 : Int)) = some 0 then if okS ns.length then some (AV.list ((pickNums ns (some i) none (some 3)).map .int), σ) else none else none) = _
      rw [if_pos (by decide), if_pos (okS_of (by (first | lia | omega)))]
    have e2 : oSum [.list ((pickNums ns (some i) none (some 3)).map .int)] σ = some (.int (pickNums ns (some i) none (some 3)).sum, σ) := o_sum
    simp only [v_bCons, oR_ret, oR_next, oX_ret, oX_exc, kS_next, kS_ret, kS_exc, v_bNil, v_sAsg, kAsg_some, kNx_some, v_aV, v_sIf, v_mIte, kIf_true, kIf_false, v_sRet, kRet_some, v_sExpr, kEx_some, v_mK, v_mV, kV_int, kV_str, kV_list, kV_tup, kV_bool, kV_bytes, kV_dict, kV_cell, kV_inst, kV_script, kV_range, kV_none, kV_mtch, v_mBin, v_mCmp, v_mIdx, k2_some, k2'_some, v_tCmp, kT_some, v_tVal, kTr_bool, kTr_none, kTr_mtch, v_tNot, kN_some, v_tAnd, v_tOr, kA_true, kA_false, kO_true, kO_false, v_tK, v_mNeg, kNg_some, v_lNil, v_lCons, kL_some, kL'_some, v_mCall, v_mTup, v_mList, kC_some, v_mMeth, kM_str, kM_bytes, kM_pat, kM_mtch, kM'_some, v_mSub, kD_some, v_mSlc, kSl_some, kSl1_some, kSl2_some, kSl3_some, v_sAugS, kAu_some, bi_add, bi_sub, c_ltI, c_leI, c_gtI, c_geI, c_eqI, c_neI, c_eqS, c_neS, c_isB, c_isnB, List.length_cons, List.length_nil, List.getElem?_cons_zero, List.getElem?_cons_succ, List.set_cons_zero, List.set_cons_succ, Nat.reduceAdd, Nat.reduceLT, Nat.reduceLeDiff, if_true, Bool.not_true, Bool.not_false, eta0, List.replicate, Nat.reduceSub, List.cons_append, List.nil_append, List.length_set, g0, g20, g21, e1, e2]
    rfl
  intro x hx
  simp only [List.zipIdx_cons, List.zipIdx_nil, List.mem_cons, List.not_mem_nil, or_false] at hx
  rcases hx with rfl | rfl | rfl <;> exact key _ _
theorem b_pow (b k : Nat) (hb : b < 1000) (hk : k ≤ 1000) : binOp .Pow (.int b) (.int k) σ = some (.int ((b ^ k : Nat) : Int), σ) := by
  rw [bi_pow (by (first | lia | omega)) (by (first | lia | omega)) (by (first | lia | omega)), Int.toNat_natCast]
  congr 3
theorem b_fdiv (c : Int) (p : Nat) (h0 : 0 < p) (h1 : p < 18446744073709551616) : binOp .FloorDiv (.int c) (.int p) σ = some (.int (c / p), σ) := bi_div (by (first | lia | omega)) (okI_of (by (first | lia | omega)))
theorem b_fmod (c : Int) (p : Nat) (h0 : 0 < p) : binOp .Mod (.int c) (.int p) σ = some (.int (((c % p).toNat : Nat) : Int), σ) := by
  rw [bi_mod (by (first | lia | omega))]
  have := Int.emod_nonneg c (b := (p : Int)) (by (first | lia | omega))
  congr 3; (first | lia | omega)
noncomputable def bitsOf (c : Int) : List Bool := List.replicate (c % (8 : Nat)).toNat true ++ (List.range (14 - (c % (8 : Nat)).toNat)).map fun k => decide (((c / (8 : Nat)) / ((2 ^ k : Nat) : Int) % (2 : Nat)).toNat = 1)
theorem bits_len (c : Int) : (bitsOf c).length = 14 := by unfold bitsOf; simp; (first | lia | omega)
theorem law_bits {l : List (Nat × AV)} (H : Has η l) (c0 c1 c2 : Int) (h1 : η[1]? = some (.list [.int c0, c1', c2'])) (h2 : η[2]? = some (.int ((c0 % (8 : Nat)).toNat : Nat))) :
    mBin .Add (mBin .Mult (mList (lCons (mK (.int 1)) lNil)) (mV 2)) (mComp [22] (iVal (mCall (lCons (mBin .Sub (mK (.int 14)) (mV 2)) lNil) oRange) (aV 22)) (gIf (tK true) (gList (mBin .Mod (mBin .FloorDiv (mBin .FloorDiv (mIdx (mV 1) (mK (.int 0))) (mK (.int 8))) (mBin .Pow (mK (.int 2)) (mV 22))) (mK (.int 2)))))) η σ =
      some (.list ((bitsOf c0).map bitV), σ) := by
  have hn : (c0 % (8 : Nat)).toNat < 8 := by (first | lia | omega)
  generalize hN : (c0 % (8 : Nat)).toNat = n at *
  have hm : mCall (lCons (mBin .Sub (mK (.int 14)) (mV 2)) lNil) oRange η σ = some (.range 0 ((14 - n : Nat) : Int) 1, σ) := by
    have e : binOp .Sub (.int 14) (.int n) σ = some (.int ((14 - n : Nat) : Int), σ) := by rw [bi_sub]; congr 3; (first | lia | omega)
    simp only [v_mCall, v_lCons, v_lNil, v_mBin, v_mK, v_mV, h2, kV_int, k2_some, k2'_some, e, kL_some, kL'_some, kC_some]
    rfl
  have hc := cLst (σ := σ) (e := mBin .Mod (mBin .FloorDiv (mBin .FloorDiv (mIdx (mV 1) (mK (.int 0))) (mK (.int 8))) (mBin .Pow (mK (.int 2)) (mV 22))) (mK (.int 2))) H 22 (List.range (14 - n)) (fun (k : Nat) => AV.int k) (fun k => bitV (decide (((c0 / (8 : Nat)) / ((2 ^ k : Nat) : Int) % (2 : Nat)).toNat = 1))) (by decide) (by decide) (by simp; (first | lia | omega)) hm (rng (by (first | lia | omega))) (by
    rintro k hk η' ⟨hj, hi⟩
    have hk' : k < 14 - n := List.mem_range.mp hk
    have g1 := hj 1 _ (by decide) h1
    have e1 : opItem (.list [.int c0, c1', c2']) (.int 0) σ = some (.int c0, σ) := oi_list 0 rfl (by decide)
    have e2 : binOp .FloorDiv (.int c0) (.int 8) σ = some (.int (c0 / (8 : Nat)), σ) := b_fdiv c0 8 (by decide) (by decide)
    have e3 : binOp .Pow (.int 2) (.int k) σ = some (.int ((2 ^ k : Nat) : Int), σ) := b_pow 2 k (by decide) (by (first | lia | omega))
    have hp : 2 ^ k ≤ 2 ^ 14 := Nat.pow_le_pow_right (by decide) (by (first | lia | omega))
    have hp0 : 0 < 2 ^ k := Nat.pow_pos (by decide)
    have e4 : binOp .FloorDiv (.int (c0 / (8 : Nat))) (.int ((2 ^ k : Nat) : Int)) σ = some (.int ((c0 / (8 : Nat)) / ((2 ^ k : Nat) : Int)), σ) := b_fdiv _ _ hp0 (by (first | lia | omega))
    have e5 : binOp .Mod (.int ((c0 / (8 : Nat)) / ((2 ^ k : Nat) : Int))) (.int 2) σ = some (.int ((((c0 / (8 : Nat)) / ((2 ^ k : Nat) : Int) % (2 : Nat)).toNat : Nat) : Int), σ) := b_fmod _ 2 (by decide)
    simp only [v_mBin, v_mIdx, v_mK, v_mV, g1, hi, kV_list, kV_int, k2_some, k2'_some, e1, e2, e3, e4, e5]
    have : ((c0 / (8 : Nat)) / ((2 ^ k : Nat) : Int) % (2 : Nat)).toNat < 2 := by (first | lia | omega)
    generalize ((c0 / (8 : Nat)) / ((2 ^ k : Nat) : Int) % (2 : Nat)).toNat = z at *
    unfold bitV
    match z, this with
    | 0, _ => rfl
    | 1, _ => rfl)
  have e1 : binOp .Mult (.list [.int 1]) (.int n) σ = some (.list ((List.replicate n true).map bitV), σ) := by
    rw [bl_mul (by (first | lia | omega)) (by (first | lia | omega)) (by simp; (first | lia | omega)), Int.toNat_natCast]
    congr 3
    rw [List.map_replicate]
    clear hm hc h1 h2 hN hn
    induction n with
    | zero => rfl
    | succ n ih => rw [List.replicate_succ, List.flatten_cons, ih, List.replicate_succ]; rfl
  rw [v_mBin, v_mBin]
  simp only [v_mList, v_lCons, v_lNil, v_mK, kL_some, kL'_some, kC_some, vlist1, k2_some, v_mV, h2, kV_int, k2'_some, e1, hc]
  rw [bl_add (by simp; (first | lia | omega))]
  unfold bitsOf
  rw [hN, List.map_append, List.map_map]
  rfl
noncomputable def bsW (b : Bool) : List Nat := if b then [47, 97, 98] else [47, 97]
theorem flat_enc : ∀ b : List Bool, (b.map bsW).flatten = enc b
  | [] => rfl
  | true :: r => by rw [List.map_cons, List.flatten_cons, flat_enc r]; rfl
  | false :: r => by rw [List.map_cons, List.flatten_cons, flat_enc r]; rfl
theorem law_place {l : List (Nat × AV)} (H : Has η l) (bits : List Bool) (hb : bits.length = 14) (h3 : η[3]? = some (.list (bits.map bitV))) :
    mTup (lCons (mK (.str [104])) (lCons (mMeth "str" (mK (.str [])) (lCons (mComp [23] (iVal (mV 3) (aV 23)) (gIf (tK true) (gList (mIdx (mList (lCons (mK (.str [47, 97])) (lCons (mK (.str [47, 97, 98])) lNil))) (mV 23))))) lNil) oJoin) lNil)) η σ =
      some (.tup [.str [104], .str (enc bits)], σ) := by
  have hc := cLst (σ := σ) (e := mIdx (mList (lCons (mK (.str [47, 97])) (lCons (mK (.str [47, 97, 98])) lNil))) (mV 23)) H 23 bits bitV (fun b => .str (bsW b)) (by decide) (by decide) (by (first | lia | omega)) (mV_of h3 (by simp)) rfl (by
    rintro b hb η' ⟨hj, hi⟩
    have : ∀ b, kV (some (bitV b)) σ = some (bitV b, σ) := fun _ => rfl
    simp only [v_mIdx, v_mList, v_lCons, v_lNil, v_mK, v_mV, hi, kL_some, kL'_some, kC_some, vlist2, this, k2_some, k2'_some]
    cases b <;> rfl)
  have e : oJoin [.str [], .list (bits.map fun b => .str (bsW b))] σ = some (.str (enc bits), σ) := by
    have := o_join (σ := σ) (sep := []) (ts := bits.map bsW) (by
      simp only [List.length_map, List.length_nil, Nat.mul_zero, Nat.add_zero, List.map_map]
      have : ∀ b : List Bool, (b.map (List.length ∘ bsW)).sum ≤ 3 * b.length := by
        intro b
        induction b with
        | nil => exact Nat.le_refl _
        | cons x r ih => rw [List.map_cons, List.sum_cons, List.length_cons]; have : (List.length ∘ bsW) x ≤ 3 := by cases x <;> decide
                         (first | lia | omega)
      have := this bits; (first | lia | omega))
    rw [List.map_map, joinT_nil, flat_enc] at this
    exact this
  simp only [v_mTup, v_lCons, v_lNil, v_mK, v_mMeth, kM_str, hc, kL_some, kL'_some, kM'_some, e, kC_some, vtup2]
noncomputable def dg (c : Int) (b k : Nat) : Nat := (c / ((b ^ k : Nat) : Int) % (b : Nat)).toNat
theorem dg_lt (c : Int) (b k : Nat) (h : 0 < b) : dg c b k < b := by
  unfold dg
  have := Int.emod_lt_of_pos (c / ((b ^ k : Nat) : Int)) (b := (b : Int)) (by (first | lia | omega))
  (first | lia | omega)
theorem law_dig {l : List (Nat × AV)} (H : Has η l) (i b j : Nat) (c : Int) (xs : List AV) (h20 : 20 ≤ i) (h40 : i < 40) (hb : 0 < b) (hb2 : b ≤ 256) (hx : xs[j]? = some (.int c)) (hj : j < 3) (h1 : η[1]? = some (.list xs)) :
    mComp [i] (iVal (mCall (lCons (mK (.int 5)) lNil) oRange) (aV i)) (gIf (tK true) (gList (mBin .Mod (mBin .FloorDiv (mIdx (mV 1) (mK (.int j))) (mBin .Pow (mK (.int b)) (mV i))) (mK (.int b))))) η σ =
      some (.list ((List.range 5).map fun k => .int (dg c b k)), σ) := by
  refine cLst H i (List.range 5) (fun (k : Nat) => AV.int k) (fun k => .int (dg c b k)) h20 h40 (by decide) (a := .range 0 (5 : Nat) 1) rfl (rng (by decide)) ?_
  rintro k hk η' ⟨hn, hi⟩
  have hk' : k < 5 := List.mem_range.mp hk
  have g1 := hn 1 _ (by (first | lia | omega)) h1
  have e1 : opItem (.list xs) (.int j) σ = some (.int c, σ) := oi_list j hx (by (first | lia | omega))
  have e3 : binOp .Pow (.int b) (.int k) σ = some (.int ((b ^ k : Nat) : Int), σ) := b_pow b k (by (first | lia | omega)) (by (first | lia | omega))
  have hp : b ^ k ≤ 256 ^ 4 := Nat.le_trans (Nat.pow_le_pow_left hb2 k) (Nat.pow_le_pow_right (by decide) (by (first | lia | omega)))
  have e4 : binOp .FloorDiv (.int c) (.int ((b ^ k : Nat) : Int)) σ = some (.int (c / ((b ^ k : Nat) : Int)), σ) := b_fdiv _ _ (Nat.pow_pos hb) (by (first | lia | omega))
  have e5 := b_fmod (σ := σ) (c / ((b ^ k : Nat) : Int)) b hb
  simp only [v_mBin, v_mIdx, v_mK, v_mV, g1, hi, kV_list, kV_int, k2_some, k2'_some, e1, e3, e4, e5]
  rfl
noncomputable def L5 (f : Nat → AV) : AV := .list ((List.range 5).map f)
theorem at5 (f : Nat → AV) (k : Nat) (hk : k < 5) : opItem (L5 f) (.int k) σ = some (f k, σ) := oi_list k (by rw [List.getElem?_map, List.getElem?_range hk]; rfl) (by (first | lia | omega))
noncomputable def hst (d : Nat) : List Nat := [[104, 104, 104, 103].getD (d / 64) 0]
theorem law_hosts {l : List (Nat × AV)} (H : Has η l) (dr : Nat → Nat) (hd : ∀ k, dr k < 256) (h6 : η[6]? = some (L5 fun k => natV (dr k))) :
    mComp [26] (iVal (mV 6) (aV 26)) (gIf (tK true) (gList (mIdx (mK (.str [104, 104, 104, 103])) (mBin .FloorDiv (mV 26) (mK (.int 64)))))) η σ = some (L5 fun k => .str (hst (dr k)), σ) := by
  refine cLst H 26 (List.range 5) (fun k => natV (dr k)) (fun k => .str (hst (dr k))) (by decide) (by decide) (by decide) (mV_of h6 (by simp [L5])) rfl ?_
  rintro k hk η' ⟨hn, hi⟩
  have := hd k
  have e1 : binOp .FloorDiv (.int (dr k : Nat)) (.int 64) σ = some (.int ((dr k / 64 : Nat) : Int), σ) := bn_div (dr k) 64 rfl (by decide) (by decide)
  have e2 : opItem (.str [104, 104, 104, 103]) (.int ((dr k / 64 : Nat) : Int)) σ = some (.str (hst (dr k)), σ) := oi_str (dr k / 64) (getD_get _ _ (by simp; (first | lia | omega)) 0) (by (first | lia | omega))
  simp only [v_mBin, v_mIdx, v_mK, v_mV, hi, natV, kV_int, k2_some, k2'_some, e1, e2]
theorem law_answers {l : List (Nat × AV)} (H : Has η l) (lv dr : Nat → Nat) (hl : ∀ k, lv k < 10) (h5 : η[5]? = some (L5 fun k => natV (lv k))) (h6 : η[6]? = some (L5 fun k => natV (dr k))) :
    mComp [27] (iVal (mCall (lCons (mK (.int 5)) lNil) oRange) (aV 27)) (gIf (tK true) (gList (mCall (lCons (mIdx (mV 5) (mV 27)) (lCons (mIdx (mV 6) (mV 27)) lNil)) (op_law_answer)))) η σ = some (L5 fun k => .str (ansT (lv k) (dr k)), σ) := by
  refine cLst H 27 (List.range 5) (fun (k : Nat) => AV.int k) (fun k => .str (ansT (lv k) (dr k))) (by decide) (by decide) (by decide) (a := .range 0 (5 : Nat) 1) rfl (rng (by decide)) ?_
  rintro k hk η' ⟨hn, hi⟩
  have hk' : k < 5 := List.mem_range.mp hk
  have g5 := hn 5 _ (by decide) h5
  have g6 := hn 6 _ (by decide) h6
  have e1 := at5 (σ := σ) (fun k => natV (lv k)) k hk'
  have e2 := at5 (σ := σ) (fun k => natV (dr k)) k hk'
  have e3 := p_law_answer (σ := σ) (lv k) (dr k) (hl k)
  rw [v_mCall, v_lCons, v_mIdx, mV_of g5 (by simp [L5]), k2_some, mV_of hi (by simp), k2'_some, e1, kL_some, v_lCons, v_mIdx, mV_of g6 (by simp [L5]), k2_some, mV_of hi (by simp), k2'_some, e2, kL_some, v_lNil, kL'_some, kL'_some, kC_some]
  exact e3
noncomputable def spo (dr : Nat → Nat) (k : Nat) : Bool := decide (dr k / 4 % 4 = 3)
theorem law_spoiled {l : List (Nat × AV)} (H : Has η l) (dr : Nat → Nat) (h6 : η[6]? = some (L5 fun k => natV (dr k))) :
    mComp [28] (iVal (mCall (lCons (mK (.int 5)) lNil) oRange) (aV 28)) (gIf (tCmp .Eq (mBin .Mod (mBin .FloorDiv (mIdx (mV 6) (mV 28)) (mK (.int 4))) (mK (.int 4))) (mK (.int 3))) (gList (mV 28))) η σ = some (.list (((List.range 5).filter (spo dr)).map natV), σ) := by
  refine cFil H 28 (List.range 5) (fun (k : Nat) => AV.int k) (spo dr) natV (by decide) (by decide) (by decide) (a := .range 0 (5 : Nat) 1) rfl (rng (by decide)) ?_ ?_
  · rintro k hk η' ⟨hn, hi⟩
    have hk' : k < 5 := List.mem_range.mp hk
    have g6 := hn 6 _ (by decide) h6
    have e2 := at5 (σ := σ) (fun k => natV (dr k)) k hk'
    have e3 : binOp .FloorDiv (natV (dr k)) (.int 4) σ = some (.int ((dr k / 4 : Nat) : Int), σ) := bn_div (dr k) 4 rfl (by decide) (by decide)
    have e4 : binOp .Mod (.int ((dr k / 4 : Nat) : Int)) (.int 4) σ = some (.int ((dr k / 4 % 4 : Nat) : Int), σ) := bn_mod _ 4 rfl (by decide)
    rw [v_tCmp, v_mBin, v_mBin, v_mIdx, mV_of g6 (by simp [L5]), k2_some, mV_of hi (by simp), k2'_some, e2, k2_some, v_mK, k2'_some, e3, k2_some, v_mK, k2'_some, e4, k2_some, v_mK, k2'_some, c_eqI, kT_some]
    unfold spo
    congr 2
    generalize dr k / 4 % 4 = z
    by_cases h : z = 3
    · subst h; rfl
    · rw [decide_eq_false h]
      simp; (first | lia | omega)
  · rintro k hk _ η' ⟨hn, hi⟩
    exact mV_of hi (by simp [natV])
theorem law_rows {l : List (Nat × AV)} (H : Has η l) (A : Nat → List Nat) (hA : ∀ k, (A k).length ≤ 300) (h8 : η[8]? = some (L5 fun k => .str (A k))) :
    mComp [29] (iVal (mCall (lCons (mK (.int 5)) lNil) oRange) (aV 29)) (gIf (tK true) (gList (mCall (lCons (mV 29) (lCons (mIdx (mV 8) (mV 29)) lNil)) (op_law_row)))) η σ = some (L5 fun k => .str (rowT ([48 + k], quo k (A k))), σ) := by
  refine cLst H 29 (List.range 5) (fun (k : Nat) => AV.int k) (fun k => .str (rowT ([48 + k], quo k (A k)))) (by decide) (by decide) (by decide) (a := .range 0 (5 : Nat) 1) rfl (rng (by decide)) ?_
  rintro k hk η' ⟨hn, hi⟩
  have hk' : k < 5 := List.mem_range.mp hk
  have g8 := hn 8 _ (by decide) h8
  have e1 := at5 (σ := σ) (fun k => .str (A k)) k hk'
  have e3 := p_law_row (σ := σ) k (by (first | lia | omega)) (A k) (by have := hA k; (first | lia | omega))
  rw [v_mCall, v_lCons, mV_of hi (by simp), kL_some, v_lCons, v_mIdx, mV_of g8 (by simp [L5]), k2_some, mV_of hi (by simp), k2'_some, e1, kL_some, v_lNil, kL'_some, kL'_some, kC_some]
  exact e3
end
end Mine
end
section
open PySem PySem.W PyProof.Rows
set_option maxRecDepth 100000
set_option linter.unusedVariables false
set_option linter.unusedSimpArgs false
set_option maxHeartbeats 1000000
namespace Mine
section
variable {σ : St} {η : Eta}
theorem Has.loop {η' : Eta} {l l' : List (Nat × AV)} {i j : Nat} {a : AV} (H : Has η l) (hi : i < 20) (hj : j < 20) (hlen : η'.length = 40) (hk : ∀ k, k ≠ i → k ≠ j → η'[k]? = η[k]?) (h13 : η'[i]? = some a) (e : (i, a) :: l.filter (fun p => p.1 != i && p.1 != j) = l') : Has η' l' := by
  subst e
  refine ⟨hlen, ?_, ?_⟩
  · intro k h
    have := H.u k h
    unfold unb at this ⊢
    rw [hk k (by (first | lia | omega)) (by (first | lia | omega))]; exact this
  · intro p hp
    rcases List.mem_cons.mp hp with rfl | hp
    · exact h13
    · obtain ⟨h1, h2⟩ := List.mem_filter.mp hp
      have h2' : p.1 ≠ i ∧ p.1 ≠ j := by simpa using h2
      rw [hk _ h2'.1 h2'.2]; exact H.at' p h1
theorem c_neL {l : List AV} (h : ∀ x ∈ l, eqV 8 x x = some true) : cmpOp .NotEq (.list l) (.list l) σ = some (.bool false, σ) := by
  show vbool ((eqV 9 (.list l) (.list l)).map (!·)) σ = _
  rw [eqV_list h]; rfl
theorem c_neT {l : List AV} (h : ∀ x ∈ l, eqV 8 x x = some true) : cmpOp .NotEq (.tup l) (.tup l) σ = some (.bool false, σ) := by
  show vbool ((eqV 9 (.tup l) (.tup l)).map (!·)) σ = _
  rw [eqV_tup h]; rfl
theorem if_neL {l : List AV} {m1 m2 : ME} {b : MS} (h1 : m1 η σ = some (.list l, σ)) (h2 : m2 η σ = some (.list l, σ)) (h : ∀ x ∈ l, eqV 8 x x = some true) : sIf (tCmp .NotEq m1 m2) b bNil η σ = some (.next, η, σ) := by
  rw [v_sIf, v_tCmp, h1, k2_some, h2, k2'_some, c_neL h, kT_some, kIf_false, v_bNil]
theorem if_neT {l : List AV} {m1 m2 : ME} {b : MS} (h1 : m1 η σ = some (.tup l, σ)) (h2 : m2 η σ = some (.tup l, σ)) (h : ∀ x ∈ l, eqV 8 x x = some true) : sIf (tCmp .NotEq m1 m2) b bNil η σ = some (.next, η, σ) := by
  rw [v_sIf, v_tCmp, h1, k2_some, h2, k2'_some, c_neT h, kT_some, kIf_false, v_bNil]
noncomputable def bk (A : Nat → List Nat) : List (List Nat × AV) := (List.range 5).map fun k => ([48 + k], .str (A k))
noncomputable def mix (m : Nat) (A B : Nat → List Nat) (k : Nat) : List Nat := if k < m then B k else A k
theorem law_book (A B : Nat → List Nat) (m : Nat) (hm : m ≤ 5) (hA : ∀ k, (A k).head? = some 50 ∧ (A k).length ≤ 300) (hB : ∀ k, (B k).head? = some 50 ∧ (B k).length ≤ 300) :
    op_parse_keqv_list [.list ((List.range 5).map (fun k => AV.str (rowT ([48 + k], quo k (A k)))) ++ (List.range m).map fun k => AV.str (rowT ([48 + k], quo k (B k))))] σ = some (.dict (bk (mix m A B)), σ ++ [.dead]) := by
  have h := p_parse_keqv_list (σ := σ) ((List.range 5).map (fun k => ([48 + k], quo k (A k))) ++ (List.range m).map fun k => ([48 + k], quo k (B k))) (by
    intro p hp
    have key : ∀ (C : Nat → List Nat) (k : Nat), k < 5 → (C k).head? = some 50 ∧ (C k).length ≤ 300 → p = ([48 + k], quo k (C k)) → 61 ∉ p.1 ∧ p.2 ≠ [] ∧ p.1.length + p.2.length ≤ 100000 ∧ (p.2 = [34] → False) := by
      intro C k hk hC e
      subst e
      obtain ⟨q1, q2, q3⟩ := quo_ok k (C k) hC.1 (by (first | lia | omega))
      exact ⟨by simp; (first | lia | omega), q1, q2, q3⟩
    rcases List.mem_append.mp hp with hp | hp
    · obtain ⟨k, hk, rfl⟩ := List.mem_map.mp hp
      exact key A k (List.mem_range.mp hk) (hA k) rfl
    · obtain ⟨k, hk, rfl⟩ := List.mem_map.mp hp
      exact key B k (by have := List.mem_range.mp hk; (first | lia | omega)) (hB k) rfl) (by simp; (first | lia | omega))
  rw [List.map_append, List.map_map, List.map_map] at h
  have e : (((List.range 5).map (fun k => ([48 + k], quo k (A k))) ++ (List.range m).map fun k => ([48 + k], quo k (B k))).foldl putU []) = bk (mix m A B) := by
    have uA : ∀ k, unq (quo k (A k)) = A k := fun k => unq_quo k _ (hA k).1
    have uB : ∀ k, unq (quo k (B k)) = B k := fun k => unq_quo k _ (hB k).1
    have e1 : ((List.range 5).map (fun k => ([48 + k], quo k (A k)))).foldl putU [] = bk A := by
      show List.foldl putU [] [([48], quo 0 (A 0)), ([49], quo 1 (A 1)), ([50], quo 2 (A 2)), ([51], quo 3 (A 3)), ([52], quo 4 (A 4))] = _
      simp only [List.foldl_cons, List.foldl_nil, putU, uA]
      rfl
    rw [List.foldl_append, e1]
    match m, hm with
    | 0, _ => rfl
    | 1, _ =>
      show List.foldl putU (bk A) [([48], quo 0 (B 0))] = _
      simp only [List.foldl_cons, List.foldl_nil, putU, uB]; rfl
    | 2, _ =>
      show List.foldl putU (bk A) [([48], quo 0 (B 0)), ([49], quo 1 (B 1))] = _
      simp only [List.foldl_cons, List.foldl_nil, putU, uB]; rfl
    | 3, _ =>
      show List.foldl putU (bk A) [([48], quo 0 (B 0)), ([49], quo 1 (B 1)), ([50], quo 2 (B 2))] = _
      simp only [List.foldl_cons, List.foldl_nil, putU, uB]; rfl
    | 4, _ =>
      show List.foldl putU (bk A) [([48], quo 0 (B 0)), ([49], quo 1 (B 1)), ([50], quo 2 (B 2)), ([51], quo 3 (B 3))] = _
      simp only [List.foldl_cons, List.foldl_nil, putU, uB]; rfl
    | 5, _ =>
      show List.foldl putU (bk A) [([48], quo 0 (B 0)), ([49], quo 1 (B 1)), ([50], quo 2 (B 2)), ([51], quo 3 (B 3)), ([52], quo 4 (B 4))] = _
      simp only [List.foldl_cons, List.foldl_nil, putU, uB]; rfl
  rw [e] at h
  exact h
noncomputable def itemsT (A : Nat → List Nat) : List AV := (List.range 5).map fun k => .tup [.str [48 + k], .str (A k)]
theorem law_items (A : Nat → List Nat) (h11 : η[11]? = some (.dict (bk A))) : mItems (mV 11) η σ = some (.list (itemsT A), σ) := by
  unfold mItems
  rw [mV_of h11 (by simp)]
  rfl
theorem items_eq (A : Nat → List Nat) : ∀ x ∈ itemsT A, eqV 8 x x = some true := by
  intro x hx
  obtain ⟨k, _, rfl⟩ := List.mem_map.mp hx
  refine eqV_tup ?_
  intro y hy
  simp only [List.mem_cons, List.not_mem_nil, or_false] at hy
  rcases hy with rfl | rfl <;> exact eqV_str
theorem o_strK (k : Nat) (hk : k < 5) : oStr [.int k] σ = some (.str [48 + k], σ) := by
  rw [o_str (by (first | lia | omega)), dec_small k (by (first | lia | omega))]
theorem law_said {l : List (Nat × AV)} (H : Has η l) (A : Nat → List Nat) (h8 : η[8]? = some (L5 fun k => .str (A k))) :
    mComp [30] (iVal (mCall (lCons (mK (.int 5)) lNil) oRange) (aV 30)) (gIf (tK true) (gList (mTup (lCons (mCall (lCons (mV 30) lNil) oStr) (lCons (mIdx (mV 8) (mV 30)) lNil))))) η σ = some (.list (itemsT A), σ) := by
  refine cLst H 30 (List.range 5) (fun (k : Nat) => AV.int k) (fun k => .tup [.str [48 + k], .str (A k)]) (by decide) (by decide) (by decide) (a := .range 0 (5 : Nat) 1) rfl (rng (by decide)) ?_
  rintro k hk η' ⟨hn, hi⟩
  have hk' : k < 5 := List.mem_range.mp hk
  have g8 := hn 8 _ (by decide) h8
  have e1 := at5 (σ := σ) (fun k => .str (A k)) k hk'
  rw [v_mTup, v_lCons, v_mCall, v_lCons, mV_of hi (by simp), kL_some, v_lNil, kL'_some, kC_some, o_strK k hk', kL_some, v_lCons, v_mIdx, mV_of g8 (by simp [L5]), k2_some, mV_of hi (by simp), k2'_some, e1, kL_some, v_lNil, kL'_some, kL'_some, kC_some, vtup2]
noncomputable def tld (lv dr : Nat → Nat) (k : Nat) : AV := if dr k / 4 % 4 = 3 then .tup [.str (ansT (lv k) (dr k))] else .tup [.str (hst (dr k)), .int (lv k)]
theorem law_told {l : List (Nat × AV)} (H : Has η l) (lv dr : Nat → Nat) (hl : ∀ k, lv k < 10) (h7 : η[7]? = some (L5 fun k => .str (hst (dr k)))) (h11 : η[11]? = some (.dict (bk fun k => ansT (lv k) (dr k)))) :
    mComp [31] (iVal (mCall (lCons (mK (.int 5)) lNil) oRange) (aV 31)) (gIf (tK true) (gList (mCall (lCons (mIdx (mV 11) (mCall (lCons (mV 31) lNil) oStr)) (lCons (mTup (lCons (mIdx (mV 7) (mV 31)) (lCons (mK (.int 21)) lNil))) lNil)) (op_law_told)))) η σ = some (L5 (tld lv dr), σ) := by
  refine cLst H 31 (List.range 5) (fun (k : Nat) => AV.int k) (tld lv dr) (by decide) (by decide) (by decide) (a := .range 0 (5 : Nat) 1) rfl (rng (by decide)) ?_
  rintro k hk η' ⟨hn, hi⟩
  have hk' : k < 5 := List.mem_range.mp hk
  have g7 := hn 7 _ (by decide) h7
  have g11 := hn 11 _ (by decide) h11
  have e1 := at5 (σ := σ) (fun k => .str (hst (dr k))) k hk'
  have e2 : opItem (.dict (bk fun k => ansT (lv k) (dr k))) (.str [48 + k]) σ = some (.str (ansT (lv k) (dr k)), σ) := by
    refine oi_dict ?_
    match k, hk' with
    | 0, _ => rfl
    | 1, _ => rfl
    | 2, _ => rfl
    | 3, _ => rfl
    | 4, _ => rfl
  have e3 := p_ans_told (σ := σ) (lv k) (dr k) (hl k) (hst (dr k)) [.int 21]
  rw [v_mCall, v_lCons, v_mIdx, mV_of g11 (by simp), k2_some, v_mCall, v_lCons, mV_of hi (by simp), kL_some, v_lNil, kL'_some, kC_some, o_strK k hk', k2'_some, e2, kL_some, v_lCons, v_mTup, v_lCons, v_mIdx, mV_of g7 (by simp [L5]), k2_some, mV_of hi (by simp), k2'_some, e1, kL_some, v_lCons, v_mK, kL_some, v_lNil, kL'_some, kL'_some, kC_some, vtup2, kL_some, v_lNil, kL'_some, kL'_some, kC_some]
  exact e3
theorem any_nats (k : Nat) : ∀ l : List Nat, anyEq (eqV 8) (.int k) (l.map natV) = some (decide (k ∈ l))
  | [] => rfl
  | y :: r => by
    rw [List.map_cons]; unfold anyEq
    have : eqV 8 (natV y) (.int k) = some (decide (k = y)) := by
      show some ((y : Int) == (k : Int)) = _
      congr 1
      by_cases h : k = y
      · subst h; simp
      · rw [decide_eq_false h]; simp; (first | lia | omega)
    rw [this, any_nats k r, o1_some, o1_some]
    congr 1
    rw [← Bool.decide_or]
    congr 1
    rw [List.mem_cons]
theorem in_spo (dr : Nat → Nat) (k : Nat) (hk : k < 5) : opIn σ (.int k) (.list (((List.range 5).filter (spo dr)).map natV)) = some (spo dr k) := by
  show anyEq (eqV 8) (.int k) (((List.range 5).filter (spo dr)).map natV) = _
  rw [any_nats]
  congr 1
  have : (k ∈ (List.range 5).filter (spo dr)) ↔ spo dr k = true := by
    rw [List.mem_filter, List.mem_range]; exact ⟨fun h => h.2, fun h => ⟨hk, h⟩⟩
  by_cases h : spo dr k = true
  · rw [decide_eq_true (this.mpr h), h]
  · rw [decide_eq_false (fun q => h (this.mp q))]; simpa using h
theorem law_tell {l : List (Nat × AV)} (H : Has η l) (lv dr : Nat → Nat) (h5 : η[5]? = some (L5 fun k => natV (lv k))) (h7 : η[7]? = some (L5 fun k => .str (hst (dr k)))) (h8 : η[8]? = some (L5 fun k => .str (ansT (lv k) (dr k)))) (h9 : η[9]? = some (.list (((List.range 5).filter (spo dr)).map natV))) :
    mComp [32] (iVal (mCall (lCons (mK (.int 5)) lNil) oRange) (aV 32)) (gIf (tK true) (gList (mIte (tCmp .In (mV 32) (mV 9)) (mTup (lCons (mIdx (mV 8) (mV 32)) lNil)) (mTup (lCons (mIdx (mV 7) (mV 32)) (lCons (mIdx (mV 5) (mV 32)) lNil)))))) η σ = some (L5 (tld lv dr), σ) := by
  refine cLst H 32 (List.range 5) (fun (k : Nat) => AV.int k) (tld lv dr) (by decide) (by decide) (by decide) (a := .range 0 (5 : Nat) 1) rfl (rng (by decide)) ?_
  rintro k hk η' ⟨hn, hi⟩
  have hk' : k < 5 := List.mem_range.mp hk
  have g5 := hn 5 _ (by decide) h5
  have g7 := hn 7 _ (by decide) h7
  have g8 := hn 8 _ (by decide) h8
  have g9 := hn 9 _ (by decide) h9
  have e1 := at5 (σ := σ) (fun k => .str (hst (dr k))) k hk'
  have e2 := at5 (σ := σ) (fun k => .str (ansT (lv k) (dr k))) k hk'
  have e3 := at5 (σ := σ) (fun k => natV (lv k)) k hk'
  have e4 : cmpOp .In (.int k) (.list (((List.range 5).filter (spo dr)).map natV)) σ = some (.bool (spo dr k), σ) := by
    show vbool (opIn σ _ _) σ = _
    rw [in_spo dr k hk']; rfl
  rw [v_mIte, v_tCmp, mV_of hi (by simp), k2_some, mV_of g9 (by simp), k2'_some, e4, kT_some]
  unfold tld spo
  by_cases h : dr k / 4 % 4 = 3
  · rw [decide_eq_true h, if_pos h, kIf_true, v_mTup, v_lCons, v_mIdx, mV_of g8 (by simp [L5]), k2_some, mV_of hi (by simp), k2'_some, e2, kL_some, v_lNil, kL'_some, kC_some, vtup1]
  · rw [decide_eq_false h, if_neg h, kIf_false, v_mTup, v_lCons, v_mIdx, mV_of g7 (by simp [L5]), k2_some, mV_of hi (by simp), k2'_some, e1, kL_some, v_lCons, v_mIdx, mV_of g5 (by simp [L5]), k2_some, mV_of hi (by simp), k2'_some, e3, kL_some, v_lNil, kL'_some, kL'_some, kC_some, vtup2]
    rfl
theorem tld_eq (lv dr : Nat → Nat) : ∀ x ∈ (List.range 5).map (tld lv dr), eqV 8 x x = some true := by
  intro x hx
  obtain ⟨k, _, rfl⟩ := List.mem_map.mp hx
  unfold tld
  split
  · refine eqV_tup ?_
    intro y hy
    simp only [List.mem_cons, List.not_mem_nil, or_false] at hy
    subst hy; exact eqV_str
  · refine eqV_tup ?_
    intro y hy
    simp only [List.mem_cons, List.not_mem_nil, or_false] at hy
    rcases hy with rfl | rfl
    · exact eqV_str
    · exact eqV_int
noncomputable def cntP (dr : Nat → Nat) (k : Nat) : Bool := decide (hst (dr k) = [104]) && !spo dr k
noncomputable def cnt (lv dr : Nat → Nat) (ks : List Nat) : List Nat := (ks.filter (cntP dr)).map lv
noncomputable def bod1 (ad : Adr) : MS := bCons (sAsg (mCall (lCons (mIdx (mV 8) (mV 14)) (lCons (mIdx (mV 12) (mV 14)) (lCons (mV 13) (lCons (mK (.bool false)) lNil)))) (op_law_led ad)) (aV 13)) bNil
noncomputable def pl (b : List Bool) : AV := .tup [.str [104], .str (enc b)]
theorem loop1 {ad : Adr} (lv dr : Nat → Nat) (hl : ∀ k, lv k ≤ 2) : ∀ (ks : List Nat) (η : Eta) (b : List Bool) (σ : St), (∀ k ∈ ks, k < 5) → η.length = 40 → η[8]? = some (L5 fun k => .str (ansT (lv k) (dr k))) → η[12]? = some (L5 (tld lv dr)) → η[13]? = some (pl b) → 5 + ks.length ≤ b.length → b.length + ks.length ≤ 100 →
    ∃ η' σ', forG ((ks.map natV).map (aV 14)) (bod1 ad) η σ = some (.next, η', σ') ∧ η'.length = 40 ∧ (∀ j, j ≠ 13 → j ≠ 14 → η'[j]? = η[j]?) ∧ η'[13]? = some (pl (fld b (cnt lv dr ks)))
  | [], η, b, σ, _, hlen, _, _, h13, _, _ => ⟨η, σ, rfl, hlen, fun _ _ _ => rfl, h13⟩
  | k :: ks, η, b, σ, hk, hlen, h8, h12, h13, hb1, hb2 => by
    simp only [List.length_cons] at hb1 hb2
    have hk' := hk k List.mem_cons_self
    have g8 : (η.set 14 (natV k))[8]? = some (L5 fun k => .str (ansT (lv k) (dr k))) := by rw [List.getElem?_set_ne (by decide)]; exact h8
    have g12 : (η.set 14 (natV k))[12]? = some (L5 (tld lv dr)) := by rw [List.getElem?_set_ne (by decide)]; exact h12
    have g13 : (η.set 14 (natV k))[13]? = some (pl b) := by rw [List.getElem?_set_ne (by decide)]; exact h13
    have g14 : (η.set 14 (natV k))[14]? = some (.int k) := List.getElem?_set_self (by rw [hlen]; decide)
    have ea : aV 14 (natV k) η σ = some (η.set 14 (natV k), σ) := by rw [v_aV, if_pos (by rw [hlen]; decide)]
    have e1 := at5 (σ := σ) (fun k => .str (ansT (lv k) (dr k))) k hk'
    have e2 := at5 (σ := σ) (tld lv dr) k hk'
    obtain ⟨b', σ1, eb, hL, hf⟩ : ∃ b' σ1, op_law_led ad [.str (ansT (lv k) (dr k)), tld lv dr k, pl b, .bool false] σ = some (pl b', σ1) ∧ (b.length ≤ b'.length + 1 ∧ b'.length ≤ b.length + 1) ∧ fld b (cnt lv dr (k :: ks)) = fld b' (cnt lv dr ks) := by
      unfold tld cnt
      rw [List.filter_cons]
      by_cases h : dr k / 4 % 4 = 3
      · rw [if_pos h]
        refine ⟨b, σ, (p_law_led_sp _ _ _ _ _).trans rfl, by (first | lia | omega), ?_⟩
        have : cntP dr k = false := by unfold cntP spo; rw [decide_eq_true h]; simp
        rw [this]; rfl
      · rw [if_neg h]
        have hc : cntP dr k = decide (hst (dr k) = [104]) := by unfold cntP spo; rw [decide_eq_false h]; simp
        rw [hc]
        refine ⟨if hst (dr k) = [104] then led (lv k) false b else b, _, p_law_led ad (lv k) (dr k) (hst (dr k)) false (by have := hl k; (first | lia | omega)) h b (by have := hl k; (first | lia | omega)) (by (first | lia | omega)), ?_, ?_⟩
        · have := led_length (lv k) false b
          split <;> (first | lia | omega)
        · by_cases hh : hst (dr k) = [104]
          · rw [decide_eq_true hh, if_pos rfl, if_pos hh]; rfl
          · rw [decide_eq_false hh, if_neg (by decide), if_neg hh]
    have eB : bod1 ad (η.set 14 (natV k)) σ = some (.next, (η.set 14 (natV k)).set 13 (pl b'), σ1) := by
      unfold bod1
      rw [v_bCons, v_sAsg, v_mCall, v_lCons, v_mIdx, mV_of g8 (by simp [L5]), k2_some, mV_of g14 (by simp), k2'_some, e1, kL_some, v_lCons, v_mIdx, mV_of g12 (by simp [L5]), k2_some, mV_of g14 (by simp), k2'_some, e2, kL_some, v_lCons, mV_of g13 (by simp [pl]), kL_some, v_lCons, v_mK, kL_some, v_lNil, kL'_some, kL'_some, kL'_some, kL'_some, kC_some, eb, kAsg_some, v_aV, if_pos (by rw [List.length_set, hlen]; decide), kNx_some, kS_next, v_bNil]
    obtain ⟨η', σ', ih, il, ij, i13⟩ := loop1 (ad := ad) lv dr hl ks ((η.set 14 (natV k)).set 13 (pl b')) b' σ1 (fun j hj => hk j (List.mem_cons_of_mem _ hj)) (by rw [List.length_set, List.length_set]; exact hlen)
      (by rw [List.getElem?_set_ne (by decide)]; exact g8) (by rw [List.getElem?_set_ne (by decide)]; exact g12) (List.getElem?_set_self (by rw [List.length_set, hlen]; decide)) (by (first | lia | omega)) (by (first | lia | omega))
    refine ⟨η', σ', ?_, il, ?_, ?_⟩
    · rw [List.map_cons, List.map_cons]
      unfold forG
      rw [ea, oB_some, eB, oF_next]
      exact ih
    · intro j h1 h2
      rw [ij j h1 h2, List.getElem?_set_ne (fun e => h1 e.symm), List.getElem?_set_ne (fun e => h2 e.symm)]
    · rw [i13, hf]
theorem law_counted {l : List (Nat × AV)} (H : Has η l) (lv dr : Nat → Nat) (h5 : η[5]? = some (L5 fun k => natV (lv k))) (h7 : η[7]? = some (L5 fun k => .str (hst (dr k)))) (h9 : η[9]? = some (.list (((List.range 5).filter (spo dr)).map natV))) :
    mComp [33] (iVal (mCall (lCons (mK (.int 5)) lNil) oRange) (aV 33)) (gIf (tAnd (tCmp .Eq (mIdx (mV 7) (mV 33)) (mK (.str [104]))) (tAnd (tCmp .NotIn (mV 33) (mV 9)) (tK true))) (gList (mIdx (mV 5) (mV 33)))) η σ = some (.list ((cnt lv dr (List.range 5)).map natV), σ) := by
  have := cFil (σ := σ) (t := tAnd (tCmp .Eq (mIdx (mV 7) (mV 33)) (mK (.str [104]))) (tAnd (tCmp .NotIn (mV 33) (mV 9)) (tK true))) (e := mIdx (mV 5) (mV 33)) (m := mCall (lCons (mK (.int 5)) lNil) oRange) H 33 (List.range 5) (fun (k : Nat) => AV.int k) (cntP dr) (fun k => natV (lv k)) (by decide) (by decide) (by decide) (a := .range 0 (5 : Nat) 1) rfl (rng (by decide)) ?_ ?_
  · rw [this]
    unfold cnt
    rw [List.map_map]; rfl
  · rintro k hk η' ⟨hn, hi⟩
    have hk' : k < 5 := List.mem_range.mp hk
    have g7 := hn 7 _ (by decide) h7
    have g9 := hn 9 _ (by decide) h9
    have e1 := at5 (σ := σ) (fun k => .str (hst (dr k))) k hk'
    have e4 : cmpOp .NotIn (.int k) (.list (((List.range 5).filter (spo dr)).map natV)) σ = some (.bool (!spo dr k), σ) := by
      show vbool ((opIn σ _ _).map (!·)) σ = _
      rw [in_spo dr k hk']; rfl
    have e5 : ∀ x y : List Nat, (x == y) = decide (x = y) := fun x y => by
      by_cases h : x = y
      · subst h; simp
      · rw [decide_eq_false h]; simpa using h
    rw [v_tAnd, v_tCmp, v_mIdx, mV_of g7 (by simp [L5]), k2_some, mV_of hi (by simp), k2'_some, e1, k2_some, v_mK, k2'_some, c_eqS, kT_some, e5]
    unfold cntP
    cases decide (hst (dr k) = [104])
    · rfl
    · rw [kA_true, v_tAnd, v_tCmp, mV_of hi (by simp), k2_some, mV_of g9 (by simp), k2'_some, e4, kT_some]
      cases spo dr k <;> rfl
  · rintro k hk _ η' ⟨hn, hi⟩
    have hk' : k < 5 := List.mem_range.mp hk
    have g5 := hn 5 _ (by decide) h5
    have e3 := at5 (σ := σ) (fun k => natV (lv k)) k hk'
    rw [v_mIdx, mV_of g5 (by simp [L5]), k2_some, mV_of hi (by simp), k2'_some, e3]
end
end Mine
end
section
open PySem PySem.W PyProof.Rows
set_option maxRecDepth 100000
set_option linter.unusedVariables false
set_option linter.unusedSimpArgs false
set_option maxHeartbeats 1000000
namespace Mine
section
variable {σ : St} {η : Eta}
noncomputable def ddL : List Nat := [1, 20, 40, 50, 6]
noncomputable def A2 (F : List Nat) (i : Nat) : List Nat := ansT (F.getD i 0) (ddL.getD i 0)
theorem dd_no3 (i : Nat) (h : i < 5) : ¬ ddL.getD i 0 / 4 % 4 = 3 := by
  match i, h with
  | 0, _ => decide
  | 1, _ => decide
  | 2, _ => decide
  | 3, _ => decide
  | 4, _ => decide
theorem F_lt {F : List Nat} (hF : ∀ n ∈ F, n ≤ 6) (i : Nat) : F.getD i 0 < 10 := by
  by_cases h : i < F.length
  · have := getD_get F i h 0
    have := hF _ (List.mem_of_getElem? this)
    (first | lia | omega)
  · rw [List.getD_eq_getElem?_getD, List.getElem?_eq_none (by (first | lia | omega))]; decide
theorem rg_len {F : List Nat} (hl : F.length ≤ 5) (h16 : η[16]? = some (.list (F.map natV))) : mCall (lCons (mCall (lCons (mV 16) lNil) oLen) lNil) oRange η σ = some (.range 0 F.length 1, σ) := by
  rw [v_mCall, v_lCons, v_mCall, v_lCons, mV_of h16 (by simp), kL_some, v_lNil, kL'_some, kC_some, o_lenL (by rw [List.length_map]; (first | lia | omega)), List.length_map, kL_some, v_lNil, kL'_some, kC_some]
  rfl
theorem law_later {l : List (Nat × AV)} (H : Has η l) (F : List Nat) (hl : F.length ≤ 5) (hF : ∀ n ∈ F, n ≤ 6) (h16 : η[16]? = some (.list (F.map natV))) :
    mComp [34] (iVal (mCall (lCons (mCall (lCons (mV 16) lNil) oLen) lNil) oRange) (aV 34)) (gIf (tK true) (gList (mCall (lCons (mIdx (mV 16) (mV 34)) (lCons (mIdx (mList (lCons (mK (.int 1)) (lCons (mK (.int 20)) (lCons (mK (.int 40)) (lCons (mK (.int 50)) (lCons (mK (.int 6)) lNil)))))) (mV 34)) lNil)) (op_law_answer)))) η σ =
      some (.list ((List.range F.length).map fun i => .str (A2 F i)), σ) := by
  refine cLst H 34 (List.range F.length) (fun (k : Nat) => AV.int k) (fun i => .str (A2 F i)) (by decide) (by decide) (by simp; (first | lia | omega)) (rg_len hl h16) (rng (by (first | lia | omega))) ?_
  rintro k hk η' ⟨hn, hi⟩
  have hk' : k < F.length := List.mem_range.mp hk
  have g16 := hn 16 _ (by decide) h16
  have e1 : opItem (.list (F.map natV)) (.int k) σ = some (.int (F.getD k 0), σ) := oi_list k (by rw [List.getElem?_map, getD_get F k hk' 0]; rfl) (by (first | lia | omega))
  have e2 : opItem (.list [.int 1, .int 20, .int 40, .int 50, .int 6]) (.int k) σ = some (.int (ddL.getD k 0 : Nat), σ) := oi_list k (by
    have : k < 5 := by (first | lia | omega)
    match k, this with
    | 0, _ => rfl
    | 1, _ => rfl
    | 2, _ => rfl
    | 3, _ => rfl
    | 4, _ => rfl) (by (first | lia | omega))
  have e3 := p_law_answer (σ := σ) (F.getD k 0) (ddL.getD k 0) (F_lt hF k)
  have eL : mList (lCons (mK (.int 1)) (lCons (mK (.int 20)) (lCons (mK (.int 40)) (lCons (mK (.int 50)) (lCons (mK (.int 6)) lNil))))) η' σ = some (.list [.int 1, .int 20, .int 40, .int 50, .int 6], σ) := rfl
  rw [v_mCall, v_lCons, v_mIdx, mV_of g16 (by simp), k2_some, mV_of hi (by simp), k2'_some, e1, kL_some, v_lCons, v_mIdx, eL, k2_some, mV_of hi (by simp), k2'_some, e2, kL_some, v_lNil, kL'_some, kL'_some, kC_some]
  exact e3
theorem law_rows2 {l : List (Nat × AV)} (H : Has η l) (F : List Nat) (hl : F.length ≤ 5) (A B : Nat → List Nat) (hA : ∀ k, (A k).head? = some 50 ∧ (A k).length ≤ 300) (hB : ∀ k, (B k).head? = some 50 ∧ (B k).length ≤ 300) (h16 : η[16]? = some (.list (F.map natV))) (h10 : η[10]? = some (L5 fun k => .str (rowT ([48 + k], quo k (A k))))) (h17 : η[17]? = some (.list ((List.range F.length).map fun i => .str (B i)))) :
    mCall (lCons (mBin .Add (mV 10) (mComp [35] (iVal (mCall (lCons (mCall (lCons (mV 16) lNil) oLen) lNil) oRange) (aV 35)) (gIf (tK true) (gList (mCall (lCons (mV 35) (lCons (mIdx (mV 17) (mV 35)) lNil)) (op_law_row)))))) lNil) (op_parse_keqv_list) η σ =
      some (.dict (bk (mix F.length A B)), σ ++ [.dead]) := by
  have hc := cLst (σ := σ) (e := mCall (lCons (mV 35) (lCons (mIdx (mV 17) (mV 35)) lNil)) (op_law_row)) H 35 (List.range F.length) (fun (k : Nat) => AV.int k) (fun k => .str (rowT ([48 + k], quo k (B k)))) (by decide) (by decide) (by simp; (first | lia | omega)) (rg_len hl h16) (rng (by (first | lia | omega))) (by
    rintro k hk η' ⟨hn, hi⟩
    have hk' : k < F.length := List.mem_range.mp hk
    have g17 := hn 17 _ (by decide) h17
    have e1 : opItem (.list ((List.range F.length).map fun i => AV.str (B i))) (.int k) σ = some (.str (B k), σ) := oi_list k (by rw [List.getElem?_map, List.getElem?_range hk']; rfl) (by (first | lia | omega))
    have e3 := p_law_row (σ := σ) k (by (first | lia | omega)) (B k) (by have := (hB k).2; (first | lia | omega))
    rw [v_mCall, v_lCons, mV_of hi (by simp), kL_some, v_lCons, v_mIdx, mV_of g17 (by simp), k2_some, mV_of hi (by simp), k2'_some, e1, kL_some, v_lNil, kL'_some, kL'_some, kC_some]
    exact e3)
  rw [v_mCall, v_lCons, v_mBin, mV_of h10 (by simp [L5]), k2_some, hc, k2'_some]
  unfold L5
  rw [bl_add (by simp; (first | lia | omega)), kL_some, v_lNil, kL'_some, kC_some]
  exact law_book A B F.length hl hA hB
theorem mix_list (A B : Nat → List Nat) (m : Nat) (hm : m ≤ 5) : (List.range m).map (fun i => AV.str (B i)) ++ ((List.range 5).map fun k => AV.str (A k)).drop m = (List.range 5).map fun k => AV.str (mix m A B k) := by
  match m, hm with
  | 0, _ => rfl
  | 1, _ => rfl
  | 2, _ => rfl
  | 3, _ => rfl
  | 4, _ => rfl
  | 5, _ => rfl
theorem law_said2 {l : List (Nat × AV)} (H : Has η l) (A B : Nat → List Nat) (m : Nat) (hm : m ≤ 5) (h8 : η[8]? = some (L5 fun k => .str (A k))) (h17 : η[17]? = some (.list ((List.range m).map fun i => .str (B i)))) :
    mComp [36, 37] (iEnum (mBin .Add (mV 17) (mSlc (mV 8) (mCall (lCons (mV 17) lNil) oLen) (mK .none) (mK .none))) (aCons (aV 36) (aCons (aV 37) aNil))) (gIf (tK true) (gList (mTup (lCons (mCall (lCons (mV 36) lNil) oStr) (lCons (mV 37) lNil))))) η σ = some (.list (itemsT (mix m A B)), σ) := by
  have hm0 : mBin .Add (mV 17) (mSlc (mV 8) (mCall (lCons (mV 17) lNil) oLen) (mK .none) (mK .none)) η σ = some (.list ((List.range 5).map fun k => AV.str (mix m A B k)), σ) := by
    have e1 : opSlice (L5 fun k => .str (A k)) (.int m) .none .none σ = some (.list (((List.range 5).map fun k => AV.str (A k)).drop m), σ) := by
      show (if (none : Option Int) = none && okS ((List.range 5).map fun k => AV.str (A k)).length then some (AV.list (slc ((List.range 5).map fun k => AV.str (A k)) (some (m : Int)) none), σ) else none) = _
      rw [okS_of (by simp), slc_from _ m (by simp; (first | lia | omega))]; rfl
    rw [v_mBin, mV_of h17 (by simp), k2_some, v_mSlc, mV_of h8 (by simp [L5]), kSl_some, v_mCall, v_lCons, mV_of h17 (by simp), kL_some, v_lNil, kL'_some, kC_some, o_lenL (by simp; (first | lia | omega)), List.length_map, List.length_range, kSl1_some, v_mK, kSl2_some, v_mK, kSl3_some, e1, k2'_some, bl_add (by simp; (first | lia | omega)), mix_list A B m hm]
  refine (comp_enum (σ := σ) ((List.range 5).map fun k => AV.str (mix m A B k)) (fun x => .tup [.str [48 + x.2], x.1]) hm0 (by simp [H.u 36 (by decide), H.u 37 (by decide)]) (by rw [H.len]; decide) (by rw [H.len]; decide) ?_ (by simp)).trans rfl
  have key : ∀ (i : Nat) (a : List Nat), i < 5 → (mTup (lCons (mCall (lCons (mV 36) lNil) oStr) (lCons (mV 37) lNil))) ((η.set 36 (.int i)).set 37 (.str a)) σ = some (.tup [.str [48 + i], .str a], σ) := by
    intro i a hi
    have g36 : ((η.set 36 (AV.int i)).set 37 (.str a))[36]? = some (.int i) := by rw [List.getElem?_set_ne (by decide)]; exact List.getElem?_set_self (by rw [H.len]; decide)
    have g37 : ((η.set 36 (AV.int i)).set 37 (.str a))[37]? = some (.str a) := List.getElem?_set_self (by rw [List.length_set, H.len]; decide)
    rw [v_mTup, v_lCons, v_mCall, v_lCons, mV_of g36 (by simp), kL_some, v_lNil, kL'_some, kC_some, o_strK i hi, kL_some, v_lCons, mV_of g37 (by simp), kL_some, v_lNil, kL'_some, kL'_some, kC_some, vtup2]
  intro x hx
  have hx' : x ∈ [(AV.str (mix m A B 0), 0), (AV.str (mix m A B 1), 1), (AV.str (mix m A B 2), 2), (AV.str (mix m A B 3), 3), (AV.str (mix m A B 4), 4)] := hx
  simp only [List.mem_cons, List.not_mem_nil, or_false] at hx'
  rcases hx' with rfl | rfl | rfl | rfl | rfl <;> first | exact key 0 _ (by decide) | exact key 1 _ (by decide) | exact key 2 _ (by decide) | exact key 3 _ (by decide) | exact key 4 _ (by decide)
theorem law_again {l : List (Nat × AV)} (H : Has η l) (F : List Nat) (hl : F.length ≤ 5) (hF : ∀ n ∈ F, n ≤ 6) (h17 : η[17]? = some (.list ((List.range F.length).map fun i => .str (A2 F i)))) :
    mComp [38] (iVal (mV 17) (aV 38)) (gIf (tK true) (gList (mCall (lCons (mV 38) (lCons (mTup (lCons (mK (.str [104])) (lCons (mK (.int 21)) (lCons (mK (.int 0)) (lCons (mK (.int 0)) lNil))))) lNil)) (op_law_told)))) η σ =
      some (.list ((List.range F.length).map fun i => .tup [.str [104], natV (F.getD i 0)]), σ) := by
  refine cLst H 38 (List.range F.length) (fun i => .str (A2 F i)) (fun i => .tup [.str [104], natV (F.getD i 0)]) (by decide) (by decide) (by simp; (first | lia | omega)) (mV_of h17 (by simp)) rfl ?_
  rintro k hk η' ⟨hn, hi⟩
  have hk' : k < F.length := List.mem_range.mp hk
  have e3 := p_ans_told (σ := σ) (F.getD k 0) (ddL.getD k 0) (F_lt hF k) [104] [.int 21, .int 0, .int 0]
  rw [if_neg (dd_no3 k (by (first | lia | omega)))] at e3
  rw [v_mCall, v_lCons, mV_of hi (by simp), kL_some, v_lCons, v_mTup, v_lCons, v_mK, kL_some, v_lCons, v_mK, kL_some, v_lCons, v_mK, kL_some, v_lCons, v_mK, kL_some, v_lNil, kL'_some, kL'_some, kL'_some, kL'_some, kC_some, vtup4, kL_some, v_lNil, kL'_some, kL'_some, kC_some]
  exact e3
theorem range_getD {β : Type} (φ : Nat → β) : ∀ F : List Nat, (List.range F.length).map (fun i => φ (F.getD i 0)) = F.map φ
  | [] => rfl
  | n :: r => by
    rw [List.length_cons, List.range_succ_eq_map, List.map_cons, List.map_map, List.map_cons, ← range_getD φ r]
    rfl
theorem law_again2 {l : List (Nat × AV)} (H : Has η l) (F : List Nat) (hl : F.length ≤ 5) (h16 : η[16]? = some (.list (F.map natV))) :
    mComp [39] (iVal (mV 16) (aV 39)) (gIf (tK true) (gList (mTup (lCons (mK (.str [104])) (lCons (mV 39) lNil))))) η σ =
      some (.list ((List.range F.length).map fun i => .tup [.str [104], natV (F.getD i 0)]), σ) := by
  rw [range_getD (fun n => AV.tup [.str [104], natV n]) F]
  refine cLst H 39 F natV (fun n => .tup [.str [104], natV n]) (by decide) (by decide) (by (first | lia | omega)) (mV_of h16 (by simp)) rfl ?_
  rintro n hn η' ⟨_, hi⟩
  rw [v_mTup, v_lCons, v_mK, kL_some, v_lCons, mV_of hi (by simp [natV]), kL_some, v_lNil, kL'_some, kL'_some, kC_some, vtup2]
noncomputable def bod2 (ad : Adr) : MS := bCons (sAsg (mCall (lCons (mIdx (mV 17) (mV 19)) (lCons (mIdx (mV 18) (mV 19)) (lCons (mV 13) (lCons (mK (.bool true)) lNil)))) (op_law_led ad)) (aV 13)) bNil
theorem fld_take (F : List Nat) (b : List Bool) (p : Nat) (hp : p < F.length) : fld b (F.take (p + 1)) = led (F.getD p 0) false (fld b (F.take p)) := by
  have e1 : F.take (p + 1) = F.take p ++ [F.getD p 0] := by rw [List.take_add_one, getD_get F p hp 0]; rfl
  rw [e1]; unfold fld; rw [List.foldl_append]; rfl
theorem loop2 {ad : Adr} (F : List Nat) (b : List Bool) (hb : b.length = 14) (hl : F.length ≤ 5) (hF : ∀ n ∈ F, n ≤ 6) : ∀ (p : Nat) (η : Eta) (σ : St), p ≤ F.length → η.length = 40 → η[17]? = some (.list ((List.range F.length).map fun i => .str (A2 F i))) → η[18]? = some (.list ((List.range F.length).map fun i => .tup [.str [104], natV (F.getD i 0)])) → η[13]? = some (pl (fld b (F.take p))) →
    ∃ η' σ', forG (((List.range p).reverse.map natV).map (aV 19)) (bod2 ad) η σ = some (.next, η', σ') ∧ η'.length = 40 ∧ (∀ j, j ≠ 13 → j ≠ 19 → η'[j]? = η[j]?) ∧ η'[13]? = some (pl b)
  | 0, η, σ, _, hlen, _, _, h13 => ⟨η, σ, rfl, hlen, fun _ _ _ => rfl, h13⟩
  | p + 1, η, σ, hp, hlen, h17, h18, h13 => by
    have g17 := (List.getElem?_set_ne (l := η) (a := natV p) (show 19 ≠ 17 by decide)).trans h17
    have g18 := (List.getElem?_set_ne (l := η) (a := natV p) (show 19 ≠ 18 by decide)).trans h18
    have g13 := (List.getElem?_set_ne (l := η) (a := natV p) (show 19 ≠ 13 by decide)).trans h13
    have g19 : (η.set 19 (natV p))[19]? = some (.int p) := List.getElem?_set_self (by rw [hlen]; decide)
    have ea : aV 19 (natV p) η σ = some (η.set 19 (natV p), σ) := by rw [v_aV, if_pos (by rw [hlen]; decide)]
    have e1 : opItem (.list ((List.range F.length).map fun i => AV.str (A2 F i))) (.int p) σ = some (.str (A2 F p), σ) := oi_list p (by rw [List.getElem?_map, List.getElem?_range (by (first | lia | omega))]; rfl) (by (first | lia | omega))
    have e2 : opItem (.list ((List.range F.length).map fun i => AV.tup [.str [104], natV (F.getD i 0)])) (.int p) σ = some (.tup [.str [104], .int (F.getD p 0)], σ) := oi_list p (by rw [List.getElem?_map, List.getElem?_range (by (first | lia | omega))]; rfl) (by (first | lia | omega))
    have hf := F_lt hF p
    have hf6 : F.getD p 0 ≤ 6 := hF _ (List.mem_of_getElem? (getD_get F p (by (first | lia | omega)) 0))
    have q1 := fldB_len (F.take (p + 1)) b
    have q2 := fldB_len (F.take p) b
    rw [List.length_take] at q1 q2
    have eb := p_law_led (σ := σ) ad (F.getD p 0) (ddL.getD p 0) [104] true hf (dd_no3 p (by (first | lia | omega))) (fld b (F.take (p + 1))) (by (first | lia | omega)) (by (first | lia | omega))
    rw [if_pos rfl, fld_take F b p (by (first | lia | omega)), led_inv _ _ (by (first | lia | omega)), if_pos rfl] at eb
    rw [fld_take F b p (by (first | lia | omega))] at g13
    have eB : bod2 ad (η.set 19 (natV p)) σ = some (.next, (η.set 19 (natV p)).set 13 (pl (fld b (F.take p))), σ ++ [.dead] ++ [.dead]) := by
      unfold bod2
      rw [v_bCons, v_sAsg, v_mCall, v_lCons, v_mIdx, mV_of g17 (by simp), k2_some, mV_of g19 (by simp), k2'_some, e1, kL_some, v_lCons, v_mIdx, mV_of g18 (by simp), k2_some, mV_of g19 (by simp), k2'_some, e2, kL_some, v_lCons, mV_of g13 (by simp [pl]), kL_some, v_lCons, v_mK, kL_some, v_lNil, kL'_some, kL'_some, kL'_some, kL'_some, kC_some]
      unfold pl A2
      rw [eb, kAsg_some, v_aV, if_pos (by rw [List.length_set, hlen]; decide), kNx_some, kS_next, v_bNil]
    obtain ⟨η', σ', ih, il, ij, i13⟩ := loop2 (ad := ad) F b hb hl hF p ((η.set 19 (natV p)).set 13 (pl (fld b (F.take p)))) (σ ++ [.dead] ++ [.dead]) (by (first | lia | omega)) (by rw [List.length_set, List.length_set]; exact hlen)
      (by rw [List.getElem?_set_ne (by decide)]; exact g17) (by rw [List.getElem?_set_ne (by decide)]; exact g18) (List.getElem?_set_self (by rw [List.length_set, hlen]; decide))
    refine ⟨η', σ', ?_, il, ?_, i13⟩
    · rw [List.range_succ, List.reverse_append, List.reverse_singleton, List.singleton_append, List.map_cons, List.map_cons]
      unfold forG
      rw [ea, oB_some, eB, oF_next]
      exact ih
    · intro j h1 h2
      rw [ij j h1 h2, List.getElem?_set_ne (fun e => h1 e.symm), List.getElem?_set_ne (fun e => h2 e.symm)]
theorem back_range (m : Nat) (hm : m ≤ 5) : iterL (.range ((m : Int) - 1) (-1) (-1)) = some ((List.range m).reverse.map natV) := by
  match m, hm with
  | 0, _ => rfl
  | 1, _ => rfl
  | 2, _ => rfl
  | 3, _ => rfl
  | 4, _ => rfl
  | 5, _ => rfl
theorem rg_back {F : List Nat} (hl : F.length ≤ 5) (h16 : η[16]? = some (.list (F.map natV))) : iVal (mCall (lCons (mBin .Sub (mCall (lCons (mV 16) lNil) oLen) (mK (.int 1))) (lCons (mNeg (mK (.int 1))) (lCons (mNeg (mK (.int 1))) lNil))) oRange) (aV 19) η σ = some (((List.range F.length).reverse.map natV).map (aV 19), σ) := by
  have e : oRange [.int ((F.length : Int) - 1), .int (-1), .int (-1)] σ = some (.range ((F.length : Int) - 1) (-1) (-1), σ) := by
    exact if_pos (by simp; (first | lia | omega))
  unfold iVal
  rw [v_mCall, v_lCons, v_mBin, v_mCall, v_lCons, mV_of h16 (by simp), kL_some, v_lNil, kL'_some, kC_some, o_lenL (by rw [List.length_map]; (first | lia | omega)), List.length_map, k2_some, v_mK, k2'_some, bi_sub, kL_some, v_lCons, v_mNeg, v_mK, kNg_some, kL_some, v_lCons, v_mNeg, v_mK, kNg_some, kL_some, v_lNil, kL'_some, kL'_some, kL'_some, kC_some, e]
  rw [oB_some, back_range _ hl, o1_some]
end
end Mine
end
section
open PySem PySem.W PyProof.Rows
set_option maxRecDepth 100000
set_option linter.unusedVariables false
set_option linter.unusedSimpArgs false
set_option maxHeartbeats 1000000
namespace Mine
theorem go {m r : MS} {η η' : Eta} {σ σ' : St} (h : m η σ = some (.next, η', σ')) (k : ∃ σ'', retV (r η' σ') = some (.bool true, σ'')) : ∃ σ'', retV (bCons m r η σ) = some (.bool true, σ'') := by
  rw [v_bCons, h, kS_next]; exact k
theorem sFor_of {mi : MI} {mb : MS} {η : Eta} {σ σ' : St} {bs : List Binder} (h : mi η σ = some (bs, σ')) : sFor mi mb η σ = forG bs mb η σ' := by
  unfold sFor; rw [h, oB_some]
theorem has0 (a : AV) : Has (eta0 40 [a]) [(0, a)] where
  len := rfl
  u := by
    intro j hj
    match j, hj with
    | j + 1, hj =>
      show (match (List.replicate 39 AV.unbound)[j]? with | some v => isUb v | none => true) = true
      rw [List.getElem?_replicate]
      by_cases hq : j < 39
      · rw [if_pos hq]; rfl
      · rw [if_neg hq]
  at' := by
    intro p hp
    simp only [List.mem_cons, List.not_mem_nil, or_false] at hp
    subst hp; rfl
theorem F_eq (lv dr : Nat → Nat) (hl : ∀ k, lv k ≤ 2) : (cnt lv dr (List.range 5)).length ≤ 5 ∧ ∀ n ∈ cnt lv dr (List.range 5), n ≤ 2 := by
  constructor
  · unfold cnt
    rw [List.length_map]
    have := List.length_filter_le (cntP dr) (List.range 5)
    rw [List.length_range] at this
    exact this
  · intro n hn
    obtain ⟨k, _, rfl⟩ := List.mem_map.mp hn
    exact hl k
theorem pure_law (ad : Adr) (ns : List Int) (h : ns.length ≤ 63) : ∃ σ', op_law ad [.script ns] [] = some (.bool true, σ') := by
  unfold op_law m_law
  rw [v_oFun, if_pos (by rfl)]
  have H0 := has0 (.script ns)
  obtain ⟨η1, s, H1⟩ := doAsg (i := 1) (σ := []) H0 (by decide) (law_cells H0 ns h (H0.get 0 rfl)) rfl
  refine go s ?_
  clear s H0
  generalize cel ns 0 147 = c0 at *
  generalize cel ns 1 96 = c1 at *
  generalize cel ns 2 150560359425 = c2 at *
  have m2 : mBin .Mod (mIdx (mV 1) (mK (.int 0))) (mK (.int 8)) η1 [] = some (.int ((c0 % (8 : Nat)).toNat : Nat), []) := by
    have e : opItem (.list [.int c0, .int c1, .int c2]) (.int 0) [] = some (.int c0, []) := oi_list 0 rfl (by decide)
    rw [v_mBin, v_mIdx, mV_of (H1.get 1 rfl) (by simp), k2_some, v_mK, k2'_some, e, k2_some, v_mK, k2'_some]
    exact b_fmod c0 8 (by decide)
  obtain ⟨η2, s, H2⟩ := doAsg (i := 2) H1 (by decide) m2 rfl
  refine go s ?_
  obtain ⟨η3, s, H3⟩ := doAsg (i := 3) H2 (by decide) (law_bits (σ := []) H2 c0 0 0 (H2.get 1 rfl) (H2.get 2 rfl)) rfl
  refine go s ?_
  have hb := bits_len c0
  generalize bitsOf c0 = bits at *
  obtain ⟨η4, s, H4⟩ := doAsg (i := 4) H3 (by decide) (law_place (σ := []) H3 bits hb (H3.get 3 rfl)) rfl
  refine go s ?_
  obtain ⟨η5, s, H5⟩ := doAsg (i := 5) H4 (by decide) (law_dig (σ := []) H4 24 3 1 c1 [.int c0, .int c1, .int c2] (by decide) (by decide) (by decide) (by decide) rfl (by decide) (H4.get 1 rfl)) rfl
  refine go s ?_
  obtain ⟨η6, s, H6⟩ := doAsg (i := 6) H5 (by decide) (law_dig (σ := []) H5 25 256 2 c2 [.int c0, .int c1, .int c2] (by decide) (by decide) (by decide) (by decide) rfl (by decide) (H5.get 1 rfl)) rfl
  refine go s ?_
  clear s H1 H2 H3 H4 H5 m2
  have hlv : ∀ k, dg c1 3 k ≤ 2 := fun k => by have := dg_lt c1 3 k (by decide); (first | lia | omega)
  have hdr : ∀ k, dg c2 256 k < 256 := fun k => dg_lt c2 256 k (by decide)
  generalize dg c1 3 = lv at *
  generalize dg c2 256 = dr at *
  have hlv' : ∀ k, lv k < 10 := fun k => by have := hlv k; (first | lia | omega)
  obtain ⟨η7, s, H7⟩ := doAsg (i := 7) H6 (by decide) (law_hosts (σ := []) H6 dr hdr (H6.get 6 rfl)) rfl
  refine go s ?_
  obtain ⟨η8, s, H8⟩ := doAsg (i := 8) H7 (by decide) (law_answers (σ := []) H7 lv dr hlv' (H7.get 5 rfl) (H7.get 6 rfl)) rfl
  refine go s ?_
  obtain ⟨η9, s, H9⟩ := doAsg (i := 9) H8 (by decide) (law_spoiled (σ := []) H8 dr (H8.get 6 rfl)) rfl
  refine go s ?_
  have hA : ∀ k, (ansT (lv k) (dr k)).head? = some 50 ∧ (ansT (lv k) (dr k)).length ≤ 300 := fun k => ⟨ans_head _ _, ans_len _ _⟩
  obtain ⟨η10, s, H10⟩ := doAsg (i := 10) H9 (by decide) (law_rows (σ := []) H9 (fun k => ansT (lv k) (dr k)) (fun k => (hA k).2) (H9.get 8 rfl)) rfl
  refine go s ?_
  have m11 : mCall (lCons (mV 10) lNil) (op_parse_keqv_list) η10 [] = some (.dict (bk fun k => ansT (lv k) (dr k)), [] ++ [.dead]) := by
    rw [v_mCall, v_lCons, mV_of (H10.get 10 rfl) (by simp [L5]), kL_some, v_lNil, kL'_some, kC_some]
    have := law_book (σ := []) (fun k => ansT (lv k) (dr k)) (fun k => ansT (lv k) (dr k)) 0 (by decide) hA hA
    rw [List.range_zero, List.map_nil, List.append_nil] at this
    exact this
  obtain ⟨η11, s, H11⟩ := doAsg (i := 11) H10 (by decide) m11 rfl
  refine go s ?_
  clear s m11 H6 H7 H8 H9 H10
  refine go (if_neL (law_items _ (H11.get 11 rfl)) (law_said H11 (fun k => ansT (lv k) (dr k)) (H11.get 8 rfl)) (items_eq _)) ?_
  generalize hσ : ([] ++ [ACell.dead] : St) = σ1
  obtain ⟨η12, s, H12⟩ := doAsg (i := 12) H11 (by decide) (law_told (σ := σ1) H11 lv dr hlv' (H11.get 7 rfl) (H11.get 11 rfl)) rfl
  refine go s ?_
  refine go (if_neL (mV_of (H12.get 12 rfl) (by simp [L5])) (law_tell H12 lv dr (H12.get 5 rfl) (H12.get 7 rfl) (H12.get 8 rfl) (H12.get 9 rfl)) (tld_eq lv dr)) ?_
  obtain ⟨η13, s, H13⟩ := doAsg (i := 13) (σ := σ1) H12 (by decide) (mV_of (a := pl bits) (H12.get 4 rfl) (by simp [pl])) rfl
  refine go s ?_
  obtain ⟨η14, σ2, s, l14, j14, q14⟩ := loop1 (ad := ad) lv dr hlv (List.range 5) η13 bits σ1 (fun k hk => List.mem_range.mp hk) H13.len (H13.get 8 rfl) (H13.get 12 rfl) (H13.get 13 rfl) (by rw [hb, List.length_range]; decide) (by rw [hb, List.length_range]; decide)
  have f14 : iVal (mCall (lCons (mK (.int 5)) lNil) oRange) (aV 14) η13 σ1 = some (((List.range 5).map natV).map (aV 14), σ1) := rfl
  refine go ((sFor_of f14).trans s) ?_
  have H14 := H13.loop (l' := _) (by decide) (by decide) l14 j14 q14 rfl
  clear s f14 H11 H12 H13 q14 j14 l14
  obtain ⟨η15, s, H15⟩ := doAsg (i := 15) H14 (by decide) (law_counted (σ := σ2) H14 lv dr (H14.get 5 rfl) (H14.get 7 rfl) (H14.get 9 rfl)) rfl
  refine go s ?_
  obtain ⟨hc1, hc2⟩ := F_eq lv dr hlv
  generalize cnt lv dr (List.range 5) = C at *
  have m15 : mTup (lCons (mK (.str [104])) (lCons (mCall (lCons (mV 3) (lCons (mV 15) lNil)) (op_law_due)) lNil)) η15 σ2 = some (.tup [.str [104], .str (enc (fld bits C))], σ2) := by
    have e := p_law_due (σ := σ2) bits hb C hc2 hc1
    rw [v_mTup, v_lCons, v_mK, kL_some, v_lCons, v_mCall, v_lCons, mV_of (H15.get 3 rfl) (by simp), kL_some, v_lCons, mV_of (H15.get 15 rfl) (by simp), kL_some, v_lNil, kL'_some, kL'_some, kC_some]
    have e' : op_law_due [.list (bits.map bitV), .list (C.map natV)] σ2 = some (.str (enc (fld bits C)), σ2) := e
    rw [e', kL_some, v_lNil, kL'_some, kL'_some, kC_some, vtup2]
  refine go (if_neT (mV_of (a := pl (fld bits C)) (H15.get 13 rfl) (by simp [pl])) m15 (by
    intro x hx
    simp only [List.mem_cons, List.not_mem_nil, or_false] at hx
    rcases hx with rfl | rfl <;> exact eqV_str)) ?_
  have m16 : mCall (lCons (mV 15) lNil) (op_law_falling) η15 σ2 = some (.list ((fall C).map natV), σ2 ++ [.dead]) := by
    rw [v_mCall, v_lCons, mV_of (H15.get 15 rfl) (by simp), kL_some, v_lNil, kL'_some, kC_some]
    exact p_law_falling C (by (first | lia | omega))
  obtain ⟨η16, s, H16⟩ := doAsg (i := 16) H15 (by decide) m16 rfl
  refine go s ?_
  clear s m15 m16 H14 H15
  obtain ⟨hF0, hF⟩ := fall_ok C hc2 hc1
  have hFl : (fall C).length ≤ 5 := by (first | lia | omega)
  have hff := fld_fall C bits
  rw [← hff] at H16
  clear hff
  generalize fall C = F at *
  generalize σ2 ++ [ACell.dead] = σ3
  obtain ⟨η17, s, H17⟩ := doAsg (i := 17) H16 (by decide) (law_later (σ := σ3) H16 F hFl hF (H16.get 16 rfl)) rfl
  refine go s ?_
  have hB : ∀ k, (A2 F k).head? = some 50 ∧ (A2 F k).length ≤ 300 := fun k => ⟨ans_head _ _, ans_len _ _⟩
  obtain ⟨η18, s, H18⟩ := doAsg (i := 11) H17 (by decide) (law_rows2 (σ := σ3) H17 F hFl (fun k => ansT (lv k) (dr k)) (A2 F) hA hB (H17.get 16 rfl) (H17.get 10 rfl) (H17.get 17 rfl)) rfl
  refine go s ?_
  generalize σ3 ++ [ACell.dead] = σ4
  refine go (if_neL (law_items _ (H18.get 11 rfl)) (law_said2 H18 (fun k => ansT (lv k) (dr k)) (A2 F) F.length hFl (H18.get 8 rfl) (H18.get 17 rfl)) (items_eq _)) ?_
  obtain ⟨η19, s, H19⟩ := doAsg (i := 18) H18 (by decide) (law_again (σ := σ4) H18 F hFl hF (H18.get 17 rfl)) rfl
  refine go s ?_
  clear s H16 H17 H18
  refine go (if_neL (mV_of (H19.get 18 rfl) (by simp)) (law_again2 H19 F hFl (H19.get 16 rfl)) (by
    intro x hx
    obtain ⟨i, _, rfl⟩ := List.mem_map.mp hx
    refine eqV_tup ?_
    intro y hy
    simp only [List.mem_cons, List.not_mem_nil, or_false] at hy
    rcases hy with rfl | rfl
    · exact eqV_str
    · exact eqV_int)) ?_
  obtain ⟨η20, σ5, s, l20, j20, q20⟩ := loop2 (ad := ad) F bits hb hFl hF F.length η19 σ4 (Nat.le_refl _) H19.len (H19.get 17 rfl) (H19.get 18 rfl) (by rw [List.take_length]; exact H19.get 13 rfl)
  refine go ((sFor_of (rg_back hFl (H19.get 16 rfl))).trans s) ?_
  have H20 := H19.loop (l' := _) (by decide) (by decide) l20 j20 q20 rfl
  refine ⟨σ5, ?_⟩
  have e : cmpOp .Eq (pl bits) (pl bits) σ5 = some (.bool true, σ5) := by
    show vbool (eqV 9 (pl bits) (pl bits)) σ5 = _
    unfold pl
    rw [eqV_tup (n := 8) (by
      intro x hx
      simp only [List.mem_cons, List.not_mem_nil, or_false] at hx
      rcases hx with rfl | rfl <;> exact eqV_str)]
    rfl
  rw [v_bCons, v_sRet, v_mCmp, mV_of (a := pl bits) (H20.get 13 rfl) (by simp [pl]), k2_some, mV_of (a := pl bits) (H20.get 4 rfl) (by simp [pl]), k2'_some, e, kRet_some, kS_ret, retV_ret]
end Mine
end
section
open PySem PySem.W PyProof.Rows
set_option maxRecDepth 100000
set_option maxHeartbeats 8000000
set_option linter.unusedVariables false
namespace Mine
noncomputable def ad02 : Adr := ⟨84, 81, 95, 139, 151, 158, 165, 172, 179, 184, 189, 196, 201⟩
theorem ctx02 {w : World} {s₁ : Shared} {loose : List Str} {mean : ExcName → Option Value} {mg mb : Str → Option Value} (KX : (hd02.heap_39 w.params).In s₁.heap) (T : Top hd02.view_39 loose mean mg mb s₁.heap)
    {lo : ∃ b o, s₁.heap.get? b = some o ∧ sysModules < b} {pk : ∃ ob, s₁.heap.get? 144 = some ob ∧ ob.cls = .type "re.Pattern" ∧ ob.dict = none} :
    Ctx ⟨PySem.Challenge.pw_wn0050_02, w, s₁.heap, callerA.depth, callerA.units, 130, 144, lo, pk⟩ (hd02.heap_39 w.params) ad02 where
  U := ctx_U
  kat := ⟨KX, by kernel_rfl, by kernel_rfl⟩
  g_exc := gname_own T.g KX (o := _) rfl (by kernel_rfl)
  exc := exc_of T KX (o := _) rfl (by kernel_rfl) (by decide +kernel)
  g_mgr := gname_own T.g KX (o := _) rfl (by kernel_rfl)
  mgr := ⟨52, _, _, _, _, _, _, {
    inn := KX
    makes := by kernel_rfl
    init := by kernel_rfl
    fnI := by kernel_rfl
    keep := by kernel_rfl
    seta := by kernel_rfl
    plain := by kernel_rfl
    taker := by kernel_rfl
    hasd := by kernel_rfl
    ga := by kernel_rfl
    noga := by kernel_rfl
    meth := by kernel_rfl
    fnS := by kernel_rfl
    fobj := ⟨_, KX 81 _ rfl, rfl⟩
    FI := funAt_of KX T.nolimit (o := _) rfl rfl rfl (by kernel_rfl) rfl rfl rfl rfl rfl rfl (len1 fun _ => rfl)
    self := by rfl }⟩
  pat := ⟨_, _, _, 141, _, 143, _, _, _, _, _, _, KX 144 _ rfl, KX 143 _ rfl, rfl, by decide +kernel, KX 141 _ rfl, pat_map (KX 141 _ rfl)⟩
  g_pat := gname_own T.g KX (o := _) rfl (by kernel_rfl)
  g_enumerate := gname_bi T.g T.b KX (o := _) rfl (by kernel_rfl) ((T.builtins _ (by decide +kernel)).trans (by decide +kernel))
  g_int := gname_bi T.g T.b KX (o := _) rfl (by kernel_rfl) ((T.builtins _ (by decide +kernel)).trans (by decide +kernel))
  g_len := gname_bi T.g T.b KX (o := _) rfl (by kernel_rfl) ((T.builtins _ (by decide +kernel)).trans (by decide +kernel))
  g_list := gname_bi T.g T.b KX (o := _) rfl (by kernel_rfl) ((T.builtins _ (by decide +kernel)).trans (by decide +kernel))
  g_range := gname_bi T.g T.b KX (o := _) rfl (by kernel_rfl) ((T.builtins _ (by decide +kernel)).trans (by decide +kernel))
  g_str := gname_bi T.g T.b KX (o := _) rfl (by kernel_rfl) ((T.builtins _ (by decide +kernel)).trans (by decide +kernel))
  g_sum := gname_bi T.g T.b KX (o := _) rfl (by kernel_rfl) ((T.builtins _ (by decide +kernel)).trans (by decide +kernel))
  g_tuple := gname_bi T.g T.b KX (o := _) rfl (by kernel_rfl) ((T.builtins _ (by decide +kernel)).trans (by decide +kernel))
  f_is_suburi := fnAt_of KX T.nolimit (o := _) rfl rfl rfl rfl (by kernel_rfl) rfl rfl rfl rfl rfl rfl (len3 fun _ _ _ => rfl)
  g_parse_keqv_list := gname_own T.g KX (o := _) rfl (by kernel_rfl)
  f_parse_keqv_list := fnAt_of KX T.nolimit (o := _) rfl rfl rfl rfl (by kernel_rfl) rfl rfl rfl rfl rfl rfl (len1 fun _ => rfl)
  g_parse229 := gname_own T.g KX (o := _) rfl (by kernel_rfl)
  f_parse229 := fnAt_of KX T.nolimit (o := _) rfl rfl rfl rfl (by kernel_rfl) rfl rfl rfl rfl rfl rfl (len2 fun _ _ => rfl)
  g_ParseFlags := gname_own T.g KX (o := _) rfl (by kernel_rfl)
  f_ParseFlags := fnAt_of KX T.nolimit (o := _) rfl rfl rfl rfl (by kernel_rfl) rfl rfl rfl rfl rfl rfl (len1 fun _ => rfl)
  g_law_rules := gname_own T.g KX (o := _) rfl (by kernel_rfl)
  f_law_rules := fnAt_of KX T.nolimit (o := _) rfl rfl rfl rfl (by kernel_rfl) rfl rfl rfl rfl rfl rfl (len0 rfl)
  g_law_answer := gname_own T.g KX (o := _) rfl (by kernel_rfl)
  f_law_answer := fnAt_of KX T.nolimit (o := _) rfl rfl rfl rfl (by kernel_rfl) rfl rfl rfl rfl rfl rfl (len2 fun _ _ => rfl)
  g_law_row := gname_own T.g KX (o := _) rfl (by kernel_rfl)
  f_law_row := fnAt_of KX T.nolimit (o := _) rfl rfl rfl rfl (by kernel_rfl) rfl rfl rfl rfl rfl rfl (len2 fun _ _ => rfl)
  g_law_told := gname_own T.g KX (o := _) rfl (by kernel_rfl)
  f_law_told := fnAt_of KX T.nolimit (o := _) rfl rfl rfl rfl (by kernel_rfl) rfl rfl rfl rfl rfl rfl (len2 fun _ _ => rfl)
  g_law_led := gname_own T.g KX (o := _) rfl (by kernel_rfl)
  f_law_led := fnAt_of KX T.nolimit (o := _) rfl rfl rfl rfl (by kernel_rfl) rfl rfl rfl rfl rfl rfl (len4 fun _ _ _ _ => rfl)
  g_law_due := gname_own T.g KX (o := _) rfl (by kernel_rfl)
  f_law_due := fnAt_of KX T.nolimit (o := _) rfl rfl rfl rfl (by kernel_rfl) rfl rfl rfl rfl rfl rfl (len2 fun _ _ => rfl)
  g_law_falling := gname_own T.g KX (o := _) rfl (by kernel_rfl)
  f_law_falling := fnAt_of KX T.nolimit (o := _) rfl rfl rfl rfl (by kernel_rfl) rfl rfl rfl rfl rfl rfl (len1 fun _ => rfl)
  g_law := gname_own T.g KX (o := _) rfl (by kernel_rfl)
  f_law := fnAt_of KX T.nolimit (o := _) rfl rfl rfl rfl (by kernel_rfl) rfl rfl rfl rfl rfl rfl (len1 fun _ => rfl)
end Mine
end
section
open PySem PySem.W PyProof.Rows
set_option maxRecDepth 100000
set_option linter.unusedVariables false
namespace Mine
theorem pure02 (ns : List Int) (h : ns.length ≤ 63) : ∃ σ', op_law ad02 [.script ns] [] = some (.bool true, σ') := pure_law ad02 ns h
end Mine
set_option maxHeartbeats 8000000 in
theorem PySem.Challenge.cw_wn0050_02_holds : PySem.Challenge.rw_wn0050_02.Holds :=
  hd02 (by
  k_fill
  intro w s₀ s₁ mg mb G Y fa o pm cd doc dV kV ho hd hcd hD hmg hg args vals as hpre hlay hrd hwl hlo
  have KX := kIn_of Y
  clear hD hcd hd
  refine Ground.open G ?_
  intro T B D TE TW
  have hfa : fa = 201 := by
    have h1 := Mine.look_ns T.g (KX 3 _ rfl) (x := Str.ofString "law") (r := some (.ref 201)) (by kernel_rfl)
    have h2 : mg (Str.ofString "law") = some (.ref fa) := hmg
    rw [h1] at h2
    cases h2; rfl
  subst hfa
  clear hmg B D TE TW Y
  wrow_args hpre hlay hrd hwl hlo
  rename_i ns _ _ _ _ _ _ _ l vs _ hl _ _ _ hI _ hlen _
  have lo : ∃ b o, s₁.heap.get? b = some o ∧ sysModules < b := ⟨201, _, KX 201 _ rfl, by decide⟩
  have pk : ∃ ob, s₁.heap.get? 144 = some ob ∧ ob.cls = .type "re.Pattern" ∧ ob.dict = none := ⟨_, KX 144 _ rfl, rfl, rfl⟩
  obtain ⟨σ', hp⟩ := Mine.pure02 ns (by (first | lia | omega))
  have C := Mine.ctx02 KX T (lo := lo) (pk := pk)
  refine Mine.join_law (lo := lo) (pk := pk) hl hI (Mine.c_law C (by (first | lia | omega))) hp fun s' keep hos hgens => ?_
  refine GoodW.toG ⟨.inl ⟨.bool true, .bool true, [], rfl, ?_, .bool true, ?_, fun _ => ⟨List.nodup_nil, fun _ h => nomatch h⟩⟩, keep, hos, hgens.trans hg⟩
  · intro cls; rfl
  · wrow_post)
end
